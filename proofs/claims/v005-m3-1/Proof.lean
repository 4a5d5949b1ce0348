import JvmDerived
import JvmDerived.Pilot.@@N@@Statement
import JvmDerived.Pilot.@@N@@Code
set_option linter.unusedVariables false
set_option linter.unusedSimpArgs false
namespace Jvm.RoadKit
open Sem ClassFile Op Lib Jvm.Stand Jvm.Free Jvm.LawKit
section New
variable {p : Program} {l : Launch} {e : Env} {R : Room} {s : State} {m : MethodId} {args : Array Value} {below : List Frame} {meth : Method} {c : Code} {T : State} {locs : List Loc} {cells slots : Nat}
theorem retI (X : Stand p l e R s m args below meth c T locs cells slots) (hx : p.tables.exec = Jvm.exec) {pc : Nat} {Ls : Array Slot} {z : Int32} {rest : List Value} (hret : meth.sig.returnType = some .int) (hd : decode c.code pc = .ok (.ireturn, 1)) {fs : List Frame}
    (hl : ∀ (f : JFrame) (acts : List Action), f.method = m → f.locked = none → f.entered = [] → (doReturn e (T.setTop f) acts (some (.int z))).1 = T.setFrames fs) : Steps p.tables e below (T.setTop (mkF m pc Ls (.int z :: rest))) (T.setFrames fs) := by
  have hm' : T.vm.method? m = some meth := X.method'
  have hn : narrow .int (.int z) = .int z := rfl
  show Steps p.tables e below (T.setTop { method := m, pc := pc, locals := Ls, stack := _ :: rest, locked := none }) _
  jvm_step X.here [X.here.top, hx, hd, hm', hret, hn]
  first | (intro acts; rw [hl _ acts rfl rfl rfl]) | rw [hl _ _ rfl rfl rfl]
  exact Steps.refl _
end New
end Jvm.RoadKit
/- laws to paste: Road.backV (cut by pick.py; bodies as the Statement names them) -/
namespace Jvm.Pilot.@@N@@
namespace StrChars
open Jvm Sem ClassFile Op Lib Jvm.Stand Jvm.Free.XT Jvm.Free.ALB Jvm.Free.JM Jvm.Free
open Jvm.Lib.Cold (StaticIs)
/-- a char array whose places are chars -/
def Ch (a : Addr) (A : Cell) (U : State) : Prop := Arr .char a A U ∧ Typed .char A
theorem Ch.mv {a : Addr} {A : Cell} {U U' : State} (h : Ch a A U) (hal : U.vm.Alike U'.vm) (hh : U'.heap = U.heap) : Ch a A U' := ⟨h.1.mv hal hh, h.2⟩
theorem Ch.keep {a : Addr} {A : Cell} {U U' : State} (h : Ch a A U) (hal : U.vm.Alike U'.vm) (hk : U'.heap[a]? = some A) : Ch a A U' := ⟨h.1.keep hal hk, h.2⟩
/-- what place i of a char[]'s cell holds -/
def cv (A : Cell) (i : Nat) : Int32 := match A.slots[i]? with | some (.int x) => x | _ => 0
theorem Ch.get {a : Addr} {A : Cell} {U : State} (h : Ch a A U) {i : Nat} (hi : i < A.slots.size) : A.slots[i]? = some (.int (cv A i)) := by
  have e := Array.getElem?_eq_getElem hi
  have f := h.2 i _ e
  unfold cv; rw [e]
  generalize A.slots[i] = v at f
  cases v <;> simp [fits] at f ⊢
/-- the byte that i2b leaves of a char -/
def lo8 (x : Int32) : Int32 := x.toInt8.toInt32
theorem fits_lo8 (y : Int32) : fits .byte (.int (lo8 y)) = true := by
  have h1 := y.toInt8.le_toInt
  have h2 := y.toInt8.toInt_lt
  simp only [lo8, fits, Bool.and_eq_true, decide_eq_true_eq, Int32.le_iff_toInt_le, Int8.toInt_toInt32, show (-128 : Int32).toInt = -128 from by decide, show (127 : Int32).toInt = 127 from by decide]
  omega
/-- A' is A but that each place j of lo .. hi - 1 holds f j -/
def Laid (A A' : Cell) (lo hi : Nat) (f : Nat → Value) : Prop := A'.cls = A.cls ∧ A'.vm = A.vm ∧ A'.slots.size = A.slots.size ∧ ∀ i, A'.slots[i]? = if lo ≤ i ∧ i < hi then some (f i) else A.slots[i]?
theorem Laid.zero (A : Cell) (lo : Nat) (f : Nat → Value) : Laid A A lo (lo + 0) f := ⟨rfl, rfl, rfl, fun i => by rw [if_neg (by omega)]⟩
theorem Laid.step {A Ak : Cell} {lo k : Nat} {f : Nat → Value} {v : Value} (h : Laid A Ak lo k f) (hlo : lo ≤ k) (hk : k < Ak.slots.size) (hv : v = f k) : Laid A (Ak.setSlot k v) lo (k + 1) f := by
  refine ⟨h.1, h.2.1, by simpa [Cell.setSlot] using h.2.2.1, fun i => ?_⟩
  by_cases e : k = i
  · subst e; rw [Cell.slots_setSlot_self v hk, if_pos (by omega), hv]
  · rw [Cell.slots_setSlot_ne v e, h.2.2.2 i]
    by_cases q : lo ≤ i ∧ i < k
    · rw [if_pos q, if_pos (by omega)]
    · rw [if_neg q, if_neg (by omega)]
def U16 : String := "java/lang/StringUTF16"
namespace Cmp5
def yN : MethodName := ⟨"java/lang/StringUTF16", "compress", "([CI[BII)I"⟩
abbrev yB : ByteArray := jdk_52_method_21_code
theorem d0 : decode yB 0 = .ok (.iconst 0, 1) := by decide +kernel
theorem d1 : decode yB 1 = .ok (.istore 5, 2) := by decide +kernel
theorem d3 : decode yB 3 = .ok (.iload 5, 2) := by decide +kernel
theorem d5 : decode yB 5 = .ok (.iload 4, 2) := by decide +kernel
theorem d7 : decode yB 7 = .ok (.if_icmp (.ge) 37, 3) := by decide +kernel
theorem d10 : decode yB 10 = .ok (.aload_n 0, 1) := by decide +kernel
theorem d11 : decode yB 11 = .ok (.iload_n 1, 1) := by decide +kernel
theorem d12 : decode yB 12 = .ok (.caload, 1) := by decide +kernel
theorem d13 : decode yB 13 = .ok (.istore 6, 2) := by decide +kernel
theorem d15 : decode yB 15 = .ok (.iload 6, 2) := by decide +kernel
theorem d17 : decode yB 17 = .ok (.sipush 255, 3) := by decide +kernel
theorem d20 : decode yB 20 = .ok (.if_icmp (.le) 6, 3) := by decide +kernel
theorem d26 : decode yB 26 = .ok (.aload_n 2, 1) := by decide +kernel
theorem d27 : decode yB 27 = .ok (.iload_n 3, 1) := by decide +kernel
theorem d28 : decode yB 28 = .ok (.iload 6, 2) := by decide +kernel
theorem d30 : decode yB 30 = .ok (.i2b, 1) := by decide +kernel
theorem d31 : decode yB 31 = .ok (.bastore, 1) := by decide +kernel
theorem d32 : decode yB 32 = .ok (.iinc 1 1, 3) := by decide +kernel
theorem d35 : decode yB 35 = .ok (.iinc 3 1, 3) := by decide +kernel
theorem d38 : decode yB 38 = .ok (.iinc 5 1, 3) := by decide +kernel
theorem d41 : decode yB 41 = .ok (.goto (-38), 3) := by decide +kernel
theorem d44 : decode yB 44 = .ok (.iload 4, 2) := by decide +kernel
theorem d46 : decode yB 46 = .ok (.ireturn, 1) := by decide +kernel
def site : List Cond := []
def tab : Cond := tabOf yN yB 7 (some .int) site
def P (b : Addr) (A : Cell) (d : Addr) (B : Cell) (o q len : Nat) (args : Array Value) (s : State) : Prop := args = #[.ref b, .int (Int32.ofNat o), .ref d, .int (Int32.ofNat q), .int (Int32.ofNat len)] ∧ Ch b A s ∧ Arr .byte d B s ∧ b ≠ d ∧ o + len ≤ A.slots.size ∧ q + len ≤ B.slots.size ∧ ∀ i, i < len → ¬ 255 < cv A (o + i)
def E (b : Addr) (A : Cell) (d : Addr) (B : Cell) (o q len : Nat) (r : Option Value) (s u : State) : Prop := r = some (.int (Int32.ofNat len)) ∧ ∃ B', Put d B' s u ∧ Laid B B' q (q + len) (fun j => Value.int (lo8 (cv A (o + (j - q)))))
/-- no char of the range above 255: len; the places written hold each char's low byte -/
theorem law (l : Launch) (b : Addr) (A : Cell) (d : Addr) (B : Cell) (o q len : Nat) : Law l yN 5 5 0 0 yB 7 (some .int) site (P b A d B o q len) (E b A d B o q len) (copyLocs d q len) 0 0 := by
  refine Law.of_walk (plainFor_of_name (by decide +kernel)) (by decide +kernel) (by decide +kernel) (by decide) (fun _ _ h => by rw [h.1]; rfl) (fun _ U U' hal hh h => ⟨h.1, h.2.1.mv hal hh, h.2.2.1.mv hal hh, h.2.2.2⟩) (fun r U U' V V' h1 hal h2 h => ⟨h.1, h.2.elim fun B' q => ⟨B', q.1.mv h1 h2, q.2⟩⟩) ?_
  intro p e s m args below meth c s₁ X0 hexec hbytes hml hret hlk hnm hown hh0 W hP
  obtain ⟨rfl, hA, hB, hne, l1, l2, hp⟩ := hP
  have c1 : Steps p.tables e below (s₁.setTop (entryFrame m #[.ref b, .int (Int32.ofNat o), .ref d, .int (Int32.ofNat q), .int (Int32.ofNat len)] 7)) (s₁.setTop (mkF m 0 #[.val (.ref b), .val (.int (Int32.ofNat o)), .val (.ref d), .val (.int (Int32.ofNat q)), .val (.int (Int32.ofNat len)), .unset, .unset] [])) := entry rfl
  have hA0 := hA.1.mv X0.warmed.alike hh0
  have hB0 := hB.mv X0.warmed.alike hh0
  have a31 := hA.1.2.2.2
  have c2 : Steps p.tables e below (s₁.setTop (entryFrame m #[.ref b, .int (Int32.ofNat o), .ref d, .int (Int32.ofNat q), .int (Int32.ofNat len)] 7)) (s₁.setTop (mkF m 3 #[.val (.ref b), .val (.int (Int32.ofNat o)), .val (.ref d), .val (.int (Int32.ofNat q)), .val (.int (Int32.ofNat len)), .val (.int 0), .unset] [])) := c1.trans (by
    refine iconstV X0.here hexec rfl 0 (hb hbytes d0) (by decide) ?_
    refine XS.istore X0.here hexec rfl (hb hbytes d1) rfl rfl ?_
    exact Steps.refl _)
  have loop : ∀ (r i : Nat), i + r = len → ∀ (z : Slot), (z = .unset ∨ ∃ w, z = .val w ∧ w.category = 1) → ∀ (Tl : State) (Bk : Cell), Stand p l e { frames := 0, locals := 0, cells := 0, slots := 0 } s m #[.ref b, .int (Int32.ofNat o), .ref d, .int (Int32.ofNat q), .int (Int32.ofNat len)] below meth c Tl ([] ++ copyLocs d q i) 0 0 → Put d Bk s₁ Tl → Laid B Bk q (q + i) (fun j => Value.int (lo8 (cv A (o + (j - q))))) →
      Steps p.tables e below (s₁.setTop (entryFrame m #[.ref b, .int (Int32.ofNat o), .ref d, .int (Int32.ofNat q), .int (Int32.ofNat len)] 7)) (Tl.setTop (mkF m 3 #[.val (.ref b), .val (.int (Int32.ofNat (o + i))), .val (.ref d), .val (.int (Int32.ofNat (q + i))), .val (.int (Int32.ofNat len)), .val (.int (Int32.ofNat i)), z] [])) → ∃ (T' : State) (B' : Cell) (z' : Slot), Stand p l e { frames := 0, locals := 0, cells := 0, slots := 0 } s m #[.ref b, .int (Int32.ofNat o), .ref d, .int (Int32.ofNat q), .int (Int32.ofNat len)] below meth c T' ([] ++ copyLocs d q len) 0 0 ∧ Put d B' s₁ T' ∧ Laid B B' q (q + len) (fun j => Value.int (lo8 (cv A (o + (j - q))))) ∧
      Steps p.tables e below (s₁.setTop (entryFrame m #[.ref b, .int (Int32.ofNat o), .ref d, .int (Int32.ofNat q), .int (Int32.ofNat len)] 7)) (T'.setTop (mkF m 3 #[.val (.ref b), .val (.int (Int32.ofNat (o + len))), .val (.ref d), .val (.int (Int32.ofNat (q + len))), .val (.int (Int32.ofNat len)), .val (.int (Int32.ofNat len)), z'] [])) := by
    intro r
    induction r with
    | zero =>
      intro i hi z hz Tl Bk Xl pl fl cl
      have hil : i = len := by omega
      rw [hil] at Xl fl cl
      exact ⟨Tl, Bk, z, Xl, pl, fl, cl⟩
    | succ r ih =>
      intro i hi z hz Tl Bk Xl pl fl cl
      have all := X0.warmed.alike.symm.trans Xl.warmed.alike
      have hAl := hA0.keep all (pl.other hne hA0.1)
      have hBk := hB0.like all pl.1 fl.1 fl.2.1 fl.2.2.1
      have hlt : q + i < Bk.slots.size := by rw [fl.2.2.1]; omega
      have c3 : Steps p.tables e below (s₁.setTop (entryFrame m #[.ref b, .int (Int32.ofNat o), .ref d, .int (Int32.ofNat q), .int (Int32.ofNat len)] 7)) (Tl.setTop (mkF m 12 #[.val (.ref b), .val (.int (Int32.ofNat (o + i))), .val (.ref d), .val (.int (Int32.ofNat (q + i))), .val (.int (Int32.ofNat len)), .val (.int (Int32.ofNat i)), z] [.int (Int32.ofNat (o + i)), .ref b])) := cl.trans (by
        refine XS.iload Xl.here hexec rfl (hb hbytes d3) rfl ?_
        refine XS.iload Xl.here hexec rfl (hb hbytes d5) rfl ?_
        refine XS.icmpNo Xl.here hexec rfl (hb hbytes d7) rfl (ii_ge_f (lt32 (by omega) (by omega))) ?_
        refine XS.aloadN Xl.here hexec rfl (hb hbytes d10) rfl rfl ?_
        refine XS.iloadN Xl.here hexec rfl (hb hbytes d11) rfl ?_
        exact Steps.refl _)
      have c4 : Steps p.tables e below (s₁.setTop (entryFrame m #[.ref b, .int (Int32.ofNat o), .ref d, .int (Int32.ofNat q), .int (Int32.ofNat len)] 7)) (Tl.setTop (mkF m 13 #[.val (.ref b), .val (.int (Int32.ofNat (o + i))), .val (.ref d), .val (.int (Int32.ofNat (q + i))), .val (.int (Int32.ofNat len)), .val (.int (Int32.ofNat i)), z] [.int (cv A (o + i))])) := c3.trans (by
        refine Xl.aget hexec hAl rfl (hA.get (i := o + i) (by omega)) rfl rfl (hb hbytes d12) ?_
        exact Steps.refl _)
      have c5 : Steps p.tables e below (s₁.setTop (entryFrame m #[.ref b, .int (Int32.ofNat o), .ref d, .int (Int32.ofNat q), .int (Int32.ofNat len)] 7)) (Tl.setTop (mkF m 15 #[.val (.ref b), .val (.int (Int32.ofNat (o + i))), .val (.ref d), .val (.int (Int32.ofNat (q + i))), .val (.int (Int32.ofNat len)), .val (.int (Int32.ofNat i)), .val (.int (cv A (o + i)))] [])) := c4.trans (by
        refine XS.istoreS Xl.here hexec rfl (hb hbytes d13) rfl rfl hz ?_
        exact Steps.refl _)
      have c6 : Steps p.tables e below (s₁.setTop (entryFrame m #[.ref b, .int (Int32.ofNat o), .ref d, .int (Int32.ofNat q), .int (Int32.ofNat len)] 7)) (Tl.setTop (mkF m 31 #[.val (.ref b), .val (.int (Int32.ofNat (o + i))), .val (.ref d), .val (.int (Int32.ofNat (q + i))), .val (.int (Int32.ofNat len)), .val (.int (Int32.ofNat i)), .val (.int (cv A (o + i)))] [.int (lo8 (cv A (o + i))), .int (Int32.ofNat (q + i)), .ref d])) := c5.trans (by
        refine XS.iload Xl.here hexec rfl (hb hbytes d15) rfl ?_
        refine sipushV Xl.here hexec rfl 255 (hb hbytes d17) (by decide) ?_
        refine XS.icmpYes Xl.here hexec rfl (pc0 := 20) rfl (hb hbytes d20) rfl (ii_le_t (hp i (by omega))) (by decide) rfl ?_
        refine XS.aloadN Xl.here hexec rfl (hb hbytes d26) rfl rfl ?_
        refine XS.iloadN Xl.here hexec rfl (hb hbytes d27) rfl ?_
        refine XS.iload Xl.here hexec rfl (hb hbytes d28) rfl ?_
        refine i2b Xl.here hexec rfl (hb hbytes d30) rfl ?_
        exact Steps.refl _)
      obtain ⟨T7, X7, p7, st7⟩ := Xl.aput hexec hBk rfl hlt rfl (fits_lo8 (cv A (o + i))) (g := (mkF m 31 #[.val (.ref b), .val (.int (Int32.ofNat (o + i))), .val (.ref d), .val (.int (Int32.ofNat (q + i))), .val (.int (Int32.ofNat len)), .val (.int (Int32.ofNat i)), .val (.int (cv A (o + i)))] [.int (lo8 (cv A (o + i))), .int (Int32.ofNat (q + i)), .ref d])) rfl (rest := []) rfl (hb hbytes d31)
      have c8 : Steps p.tables e below (s₁.setTop (entryFrame m #[.ref b, .int (Int32.ofNat o), .ref d, .int (Int32.ofNat q), .int (Int32.ofNat len)] 7)) (T7.setTop (mkF m 32 #[.val (.ref b), .val (.int (Int32.ofNat (o + i))), .val (.ref d), .val (.int (Int32.ofNat (q + i))), .val (.int (Int32.ofNat len)), .val (.int (Int32.ofNat i)), .val (.int (cv A (o + i)))] [])) := c6.trans (st7 _ (Steps.refl _))
      have c9 : Steps p.tables e below (s₁.setTop (entryFrame m #[.ref b, .int (Int32.ofNat o), .ref d, .int (Int32.ofNat q), .int (Int32.ofNat len)] 7)) (T7.setTop (mkF m 3 #[.val (.ref b), .val (.int (Int32.ofNat (o + i) + 1)), .val (.ref d), .val (.int (Int32.ofNat (q + i) + 1)), .val (.int (Int32.ofNat len)), .val (.int (Int32.ofNat i + 1)), .val (.int (cv A (o + i)))] [])) := c8.trans (by
        refine iincV X7.here hexec rfl 1 (hb hbytes d32) (by decide) rfl rfl ?_
        refine iincV X7.here hexec rfl 1 (hb hbytes d35) (by decide) rfl rfl ?_
        refine iincV X7.here hexec rfl 1 (hb hbytes d38) (by decide) rfl rfl ?_
        refine XS.goto X7.here hexec rfl (pc0 := 41) rfl (hb hbytes d41) (by decide) rfl ?_
        exact Steps.refl _)
      have c10 : Steps p.tables e below (s₁.setTop (entryFrame m #[.ref b, .int (Int32.ofNat o), .ref d, .int (Int32.ofNat q), .int (Int32.ofNat len)] 7)) (T7.setTop (mkF m 3 #[.val (.ref b), .val (.int (Int32.ofNat (o + (i + 1)))), .val (.ref d), .val (.int (Int32.ofNat (q + (i + 1)))), .val (.int (Int32.ofNat len)), .val (.int (Int32.ofNat (i + 1))), .val (.int (cv A (o + i)))] [])) := by
        have := c9
        rw [succ32, succ32, succ32] at this
        exact this
      exact ih (i + 1) (by omega) _ (Or.inr ⟨_, rfl, rfl⟩) T7 _ (by rw [copyLocs_step, ← List.append_assoc]; exact X7) (pl.trans p7) (fl.step (by omega) hlt (by simp)) c10
  obtain ⟨T9, B9, z9, X9, p9, f9, g9⟩ := loop len 0 (by omega) .unset (Or.inl rfl) s₁ B (by simpa [copyLocs] using X0) ⟨hB0.1, fun _ _ => rfl, rfl⟩ (Laid.zero _ _ _) c2
  have c11 : Steps p.tables e below (s₁.setTop (entryFrame m #[.ref b, .int (Int32.ofNat o), .ref d, .int (Int32.ofNat q), .int (Int32.ofNat len)] 7)) (T9.setTop (mkF m 46 #[.val (.ref b), .val (.int (Int32.ofNat (o + len))), .val (.ref d), .val (.int (Int32.ofNat (q + len))), .val (.int (Int32.ofNat len)), .val (.int (Int32.ofNat len)), z9] [.int (Int32.ofNat len)])) := g9.trans (by
    refine XS.iload X9.here hexec rfl (hb hbytes d3) rfl ?_
    refine XS.iload X9.here hexec rfl (hb hbytes d5) rfl ?_
    refine XS.icmpYes X9.here hexec rfl (pc0 := 7) rfl (hb hbytes d7) rfl (ii_ge_t (nlt32 (by omega) (Nat.le_refl _))) (by decide) rfl ?_
    refine XS.iload X9.here hexec rfl (hb hbytes d44) rfl ?_
    exact Steps.refl _)
  exact ⟨T9, some (.int (Int32.ofNat len)), _, _, _, X9, by simp, rfl, rfl, (fun h => by cases h), ⟨rfl, B9, p9.from hh0, f9⟩, fun fs hl => c11.trans (X9.ireturnOut hexec hret rfl (Or.inl rfl) (hb hbytes d46) hl)⟩
end Cmp5
namespace Cmp3
def yN : MethodName := ⟨"java/lang/StringUTF16", "compress", "([CII)[B"⟩
abbrev yB : ByteArray := jdk_52_method_16_code
theorem d0 : decode yB 0 = .ok (.iload_n 2, 1) := by decide +kernel
theorem d1 : decode yB 1 = .ok (.newarray .byte, 2) := by decide +kernel
theorem d3 : decode yB 3 = .ok (.astore_n 3, 1) := by decide +kernel
theorem d4 : decode yB 4 = .ok (.aload_n 0, 1) := by decide +kernel
theorem d5 : decode yB 5 = .ok (.iload_n 1, 1) := by decide +kernel
theorem d6 : decode yB 6 = .ok (.aload_n 3, 1) := by decide +kernel
theorem d7 : decode yB 7 = .ok (.iconst 0, 1) := by decide +kernel
theorem d8 : decode yB 8 = .ok (.iload_n 2, 1) := by decide +kernel
theorem d9 : decode yB 9 = .ok (.invokestatic 115, 3) := by decide +kernel
theorem d12 : decode yB 12 = .ok (.istore 4, 2) := by decide +kernel
theorem d14 : decode yB 14 = .ok (.iload 4, 2) := by decide +kernel
theorem d16 : decode yB 16 = .ok (.iload_n 2, 1) := by decide +kernel
theorem d17 : decode yB 17 = .ok (.if_icmp (.eq) 40, 3) := by decide +kernel
theorem d57 : decode yB 57 = .ok (.aload_n 3, 1) := by decide +kernel
theorem d58 : decode yB 58 = .ok (.areturn, 1) := by decide +kernel
def site : List Cond := [.arrayClass .byte, Cmp5.tab] ++ staticW U16 115 Cmp5.yN
def tab : Cond := tabOf yN yB 6 (some (.array .byte)) site
def P (b : Addr) (A : Cell) (o len : Nat) (args : Array Value) (s : State) : Prop := args = #[.ref b, .int (Int32.ofNat o), .int (Int32.ofNat len)] ∧ Ch b A s ∧ o + len ≤ A.slots.size ∧ len ≤ 536870912 ∧ ∀ i, i < len → ¬ 255 < cv A (o + i)
def E (b : Addr) (A : Cell) (o len : Nat) (r : Option Value) (s u : State) : Prop := NewArr .byte "[B" len (fun j => .int (lo8 (cv A (o + j)))) r s u ∧ u.heap.size = s.heap.size + 1
/-- no char of the range above 255: a new byte[] of their low bytes -/
theorem law (l : Launch) (b : Addr) (A : Cell) (o len : Nat) : Law l yN 3 3 1 18 yB 6 (some (.array .byte)) site (P b A o len) (E b A o len) [] 1 len := by
  refine Law.of_walk (plainFor_of_name (by decide +kernel)) (by decide +kernel) (by decide +kernel) (by decide) (fun _ _ h => by rw [h.1]; rfl) (fun _ U U' hal hh h => ⟨h.1, h.2.1.mv hal hh, h.2.2⟩) (fun r U U' V V' h1 hal h2 h => ⟨NewArr.mv r U U' V V' h1 hal h2 h.1, by rw [h1, h2]; exact h.2⟩) ?_
  intro p e s m args below meth c s₁ X0 hexec hbytes hml hret hlk hnm hown hh0 W hP
  obtain ⟨rfl, hA, l1, l2, hp⟩ := hP
  have a31 := hA.1.2.2.2
  have c1 : Steps p.tables e below (s₁.setTop (entryFrame m #[.ref b, .int (Int32.ofNat o), .int (Int32.ofNat len)] 6)) (s₁.setTop (mkF m 0 #[.val (.ref b), .val (.int (Int32.ofNat o)), .val (.int (Int32.ofNat len)), .unset, .unset, .unset] [])) := entry rfl
  have c2 : Steps p.tables e below (s₁.setTop (entryFrame m #[.ref b, .int (Int32.ofNat o), .int (Int32.ofNat len)] 6)) (s₁.setTop (mkF m 1 #[.val (.ref b), .val (.int (Int32.ofNat o)), .val (.int (Int32.ofNat len)), .unset, .unset, .unset] [.int (Int32.ofNat len)])) := c1.trans (by
    refine XS.iloadN X0.here hexec rfl (hb hbytes d0) rfl ?_
    exact Steps.refl _)
  obtain ⟨T3, B3, X3, ba3, bs3, bv3, bh3, bf3, st3⟩ := X0.anew hexec (atype := .byte) (wk W (.arrayClass .byte)) rfl (by show len * 1 ≤ _; omega) (by omega) (g := (mkF m 1 #[.val (.ref b), .val (.int (Int32.ofNat o)), .val (.int (Int32.ofNat len)), .unset, .unset, .unset] [.int (Int32.ofNat len)])) rfl (hb hbytes d1) (rest := []) rfl (Nat.le_refl _) (by show 0 + len ≤ len; omega)
  rw [hh0] at ba3 st3
  have kp3 : XT.Kept s T3 := (XT.Kept.of_eq hh0).push bh3
  have hA3 := hA.keep X3.warmed.alike (kp3 _ _ hA.1.1)
  have hne : b ≠ s.heap.size := hA.1.ne
  have c4 : Steps p.tables e below (s₁.setTop (entryFrame m #[.ref b, .int (Int32.ofNat o), .int (Int32.ofNat len)] 6)) (T3.setTop (mkF m 3 #[.val (.ref b), .val (.int (Int32.ofNat o)), .val (.int (Int32.ofNat len)), .unset, .unset, .unset] [.ref s.heap.size])) := c2.trans (st3 _ (Steps.refl _))
  have c5 : Steps p.tables e below (s₁.setTop (entryFrame m #[.ref b, .int (Int32.ofNat o), .int (Int32.ofNat len)] 6)) (T3.setTop (mkF m 9 #[.val (.ref b), .val (.int (Int32.ofNat o)), .val (.int (Int32.ofNat len)), .val (.ref s.heap.size), .unset, .unset] [.int (Int32.ofNat len), .int 0, .ref s.heap.size, .int (Int32.ofNat o), .ref b])) := c4.trans (by
    refine XS.astoreN X3.here hexec rfl (hb hbytes d3) rfl rfl rfl ?_
    refine XS.aloadN X3.here hexec rfl (hb hbytes d4) rfl rfl ?_
    refine XS.iloadN X3.here hexec rfl (hb hbytes d5) rfl ?_
    refine XS.aloadN X3.here hexec rfl (hb hbytes d6) rfl rfl ?_
    refine iconstV X3.here hexec rfl 0 (hb hbytes d7) (by decide) ?_
    refine XS.iloadN X3.here hexec rfl (hb hbytes d8) rfl ?_
    exact Steps.refl _)
  obtain ⟨v6, T6, X6, E6, g6⟩ := X3.callS hexec (Cmp5.law l b A s.heap.size B3 o 0 len) hown (wks W (staticW U16 115 Cmp5.yN)) (wk W Cmp5.tab) (W := 0) (Nat.le_of_ble_eq_true rfl) (Nat.le_of_ble_eq_true rfl) (Nat.le_refl _) (by show 0 + len + 0 ≤ len; omega) (g := (mkF m 9 #[.val (.ref b), .val (.int (Int32.ofNat o)), .val (.int (Int32.ofNat len)), .val (.ref s.heap.size), .unset, .unset] [.int (Int32.ofNat len), .int (Int32.ofNat 0), .ref s.heap.size, .int (Int32.ofNat o), .ref b])) rfl (by rw [hml]; rfl) c5 (argsL := [.ref b, .int (Int32.ofNat o), .ref s.heap.size, .int (Int32.ofNat 0), .int (Int32.ofNat len)]) (rest := []) rfl rfl (by show 2 * 0 + 0 ≤ _; decide) (hb hbytes d9) (⟨rfl, hA3, ba3, hne, l1, by rw [bs3]; simp, hp⟩)
  obtain ⟨rfl, B6, p6, f6⟩ := E6
  have c7 : Steps p.tables e below (s₁.setTop (entryFrame m #[.ref b, .int (Int32.ofNat o), .int (Int32.ofNat len)] 6)) (T6.setTop (mkF m 12 #[.val (.ref b), .val (.int (Int32.ofNat o)), .val (.int (Int32.ofNat len)), .val (.ref s.heap.size), .unset, .unset] [.int (Int32.ofNat len)])) := g6
  have c8 : Steps p.tables e below (s₁.setTop (entryFrame m #[.ref b, .int (Int32.ofNat o), .int (Int32.ofNat len)] 6)) (T6.setTop (mkF m 58 #[.val (.ref b), .val (.int (Int32.ofNat o)), .val (.int (Int32.ofNat len)), .val (.ref s.heap.size), .val (.int (Int32.ofNat len)), .unset] [.ref s.heap.size])) := c7.trans (by
    refine XS.istore X6.here hexec rfl (hb hbytes d12) rfl rfl ?_
    refine XS.iload X6.here hexec rfl (hb hbytes d14) rfl ?_
    refine XS.iloadN X6.here hexec rfl (hb hbytes d16) rfl ?_
    refine XS.icmpYes X6.here hexec rfl (pc0 := 17) rfl (hb hbytes d17) rfl (ii_eq_t rfl) (by decide) rfl ?_
    refine XS.aloadN X6.here hexec rfl (hb hbytes d57) rfl rfl ?_
    exact Steps.refl _)
  have X8 := X6.wide (L' := []) (cells' := 1) (slots' := len) (fun x hx hlt => by
    simp only [List.nil_append, copyLocs, List.mem_map, List.mem_range] at hx
    obtain ⟨i, -, rfl⟩ := hx
    exact absurd hlt (Nat.lt_irrefl _)) (Nat.le_refl _) (by omega)
  exact ⟨T6, some (.ref s.heap.size), _, _, _, X8, rfl, rfl, rfl, (fun h => by cases h), ⟨⟨rfl, B6, ba3.like (X3.warmed.alike.symm.trans X6.warmed.alike) p6.1 f6.1 f6.2.1 f6.2.2.1, f6.2.1.trans bv3, by rw [X6.warmed.alike.findClass, f6.1]; exact bf3, by rw [f6.2.2.1, bs3]; simp, fun j hj => by rw [f6.2.2.2 j, if_pos (by omega)]; rfl, kp3.put p6 (Nat.le_refl _)⟩, by rw [p6.2.2, bh3, hh0]; simp⟩, fun fs hl => c8.trans (X8.areturnOut hexec rfl hret rfl (hb hbytes d58) hl)⟩
end Cmp3
namespace CodL
def yN : MethodName := ⟨"java/lang/StringUTF16", "coderFromArrayLen", "([BI)B"⟩
abbrev yB : ByteArray := jdk_52_method_15_code
theorem d0 : decode yB 0 = .ok (.iload_n 1, 1) := by decide +kernel
theorem d1 : decode yB 1 = .ok (.aload_n 0, 1) := by decide +kernel
theorem d2 : decode yB 2 = .ok (.arraylength, 1) := by decide +kernel
theorem d3 : decode yB 3 = .ok (.isub, 1) := by decide +kernel
theorem d4 : decode yB 4 = .ok (.bipush 31, 2) := by decide +kernel
theorem d6 : decode yB 6 = .ok (.iushr, 1) := by decide +kernel
theorem d7 : decode yB 7 = .ok (.i2b, 1) := by decide +kernel
theorem d8 : decode yB 8 = .ok (.ireturn, 1) := by decide +kernel
def site : List Cond := []
def tab : Cond := tabOf yN yB 2 (some .byte) site
def P (d : Addr) (B : Cell) (args : Array Value) (s : State) : Prop := args = #[.ref d, .int (Int32.ofNat B.slots.size)] ∧ Arr .byte d B s
def E (r : Option Value) (s u : State) : Prop := XT.PureE (some (.int 0)) r s u
/-- an array as long as the number of chars: LATIN1 -/
theorem law (l : Launch) (d : Addr) (B : Cell) : Law l yN 2 2 0 0 yB 2 (some .byte) site (P d B) E [] 0 0 := by
  refine Law.of_walk (plainFor_of_name (by decide +kernel)) (by decide +kernel) (by decide +kernel) (by decide) (fun _ _ h => by rw [h.1]; rfl) (fun _ U U' hal hh h => ⟨h.1, h.2.mv hal hh⟩) (fun r U U' V V' h1 hal h2 h => XT.PureE.mv r U U' V V' h1 hal h2 h) ?_
  intro p e s m args below meth c s₁ X0 hexec hbytes hml hret hlk hnm hown hh0 W hP
  obtain ⟨rfl, hB⟩ := hP
  have hB0 := hB.mv X0.warmed.alike hh0
  have c1 : Steps p.tables e below (s₁.setTop (entryFrame m #[.ref d, .int (Int32.ofNat B.slots.size)] 2)) (s₁.setTop (mkF m 0 #[.val (.ref d), .val (.int (Int32.ofNat B.slots.size))] [])) := entry rfl
  have c2 : Steps p.tables e below (s₁.setTop (entryFrame m #[.ref d, .int (Int32.ofNat B.slots.size)] 2)) (s₁.setTop (mkF m 2 #[.val (.ref d), .val (.int (Int32.ofNat B.slots.size))] [.ref d, .int (Int32.ofNat B.slots.size)])) := c1.trans (by
    refine XS.iloadN X0.here hexec rfl (hb hbytes d0) rfl ?_
    refine XS.aloadN X0.here hexec rfl (hb hbytes d1) rfl rfl ?_
    exact Steps.refl _)
  have c3 : Steps p.tables e below (s₁.setTop (entryFrame m #[.ref d, .int (Int32.ofNat B.slots.size)] 2)) (s₁.setTop (mkF m 8 #[.val (.ref d), .val (.int (Int32.ofNat B.slots.size))] [.int (lo8 (ushr (Int32.ofNat B.slots.size - Int32.ofNat B.slots.size) 31))])) := c2.trans (by
    refine X0.alen hexec hB0 rfl rfl (hb hbytes d2) ?_
    refine XS.isub X0.here hexec rfl (hb hbytes d3) rfl ?_
    refine bipushV X0.here hexec rfl 31 (hb hbytes d4) (by decide) ?_
    refine iushr X0.here hexec rfl (hb hbytes d6) rfl ?_
    refine i2b X0.here hexec rfl (hb hbytes d7) rfl ?_
    exact Steps.refl _)
  have e0 : lo8 (ushr (Int32.ofNat B.slots.size - Int32.ofNat B.slots.size) 31) = 0 := by rw [Int32.sub_self]; decide
  rw [e0] at c3
  exact ⟨s₁, some (.int 0), _, _, _, X0, rfl, rfl, rfl, (fun h => by cases h), ⟨rfl, hh0⟩, fun fs hl => c3.trans (X0.ireturnOut hexec hret rfl (Or.inr (Or.inr (Or.inl rfl))) (hb hbytes d8) hl)⟩
end CodL
/-- the String at a is Latin-1 over a new byte[] (the heap's one new cell): the low bytes of the len chars of A from o on; every cell but a is kept -/
def Got (a : Addr) (D : Cell) (fV fC : Field) (A : Cell) (o len : Nat) (r : Option Value) (s u : State) : Prop := r = none ∧ ∃ D' V : Cell, Blank "java/lang/String" a D' u ∧ Same D D' [fV.slot, fC.slot] ∧ D'.slots[fV.slot]? = some (.ref s.heap.size) ∧ D'.slots[fC.slot]? = some (.int 0) ∧ Arr .byte s.heap.size V u ∧ V.vm = .none ∧ u.vm.findClass "[B" = some V.cls ∧ V.slots.size = len ∧ (∀ j, j < len → V.slots[j]? = some (.int (lo8 (cv A (o + j))))) ∧ (∀ (y : Addr) (c : Cell), y ≠ a → s.heap[y]? = some c → u.heap[y]? = some c) ∧ u.heap.size = s.heap.size + 1
theorem Got.mv {a : Addr} {D A : Cell} {fV fC : Field} {o len : Nat} : ∀ r (U U' V V' : State), U'.heap = U.heap → V.vm.Alike V'.vm → V'.heap = V.heap → Got a D fV fC A o len r U V → Got a D fV fC A o len r U' V' :=
  fun r U U' V V' h1 hal h2 ⟨e0, D', X, a1, a2, a3, a4, a5, a6, a7, a8, a9, a10, a11⟩ => ⟨e0, D', X, a1.mv hal h2, a2, by rw [h1]; exact a3, a4, by rw [h1]; exact a5.mv hal h2, a6, by rw [hal.findClass]; exact a7, a8, a9, by rw [h1, h2]; exact a10, by rw [h1, h2]; exact a11⟩
namespace New4
def yN : MethodName := ⟨"java/lang/String", "<init>", "([CIILjava/lang/Void;)V"⟩
abbrev yB : ByteArray := jdk_42_method_149_code
theorem d0 : decode yB 0 = .ok (.aload_n 0, 1) := by decide +kernel
theorem d1 : decode yB 1 = .ok (.invokespecial 1, 3) := by decide +kernel
theorem d4 : decode yB 4 = .ok (.iload_n 3, 1) := by decide +kernel
theorem d5 : decode yB 5 = .ok (.ifCond (.ne) 22, 3) := by decide +kernel
theorem d27 : decode yB 27 = .ok (.getstatic 38, 3) := by decide +kernel
theorem d30 : decode yB 30 = .ok (.ifCond (.eq) 28, 3) := by decide +kernel
theorem d33 : decode yB 33 = .ok (.aload_n 1, 1) := by decide +kernel
theorem d34 : decode yB 34 = .ok (.iload_n 2, 1) := by decide +kernel
theorem d35 : decode yB 35 = .ok (.iload_n 3, 1) := by decide +kernel
theorem d36 : decode yB 36 = .ok (.invokestatic 177, 3) := by decide +kernel
theorem d39 : decode yB 39 = .ok (.astore 5, 2) := by decide +kernel
theorem d41 : decode yB 41 = .ok (.aload_n 0, 1) := by decide +kernel
theorem d42 : decode yB 42 = .ok (.aload 5, 2) := by decide +kernel
theorem d44 : decode yB 44 = .ok (.iload_n 3, 1) := by decide +kernel
theorem d45 : decode yB 45 = .ok (.invokestatic 47, 3) := by decide +kernel
theorem d48 : decode yB 48 = .ok (.putfield 15, 3) := by decide +kernel
theorem d51 : decode yB 51 = .ok (.aload_n 0, 1) := by decide +kernel
theorem d52 : decode yB 52 = .ok (.aload 5, 2) := by decide +kernel
theorem d54 : decode yB 54 = .ok (.putfield 9, 3) := by decide +kernel
theorem d57 : decode yB 57 = .ok (.return_, 1) := by decide +kernel
def site : List Cond := [.fieldLink "java/lang/String" 38 "java/lang/String" "COMPACT_STRINGS" "Z", Cmp3.tab, CodL.tab, .laysFinal "java/lang/String" "java/lang/String" "value" "[B", .fieldLink "java/lang/String" 9 "java/lang/String" "value" "[B", .laysFinal "java/lang/String" "java/lang/String" "coder" "B", .fieldLink "java/lang/String" 15 "java/lang/String" "coder" "B"] ++ objW "java/lang/String" 1 ++ staticW "java/lang/String" 177 Cmp3.yN ++ staticW "java/lang/String" 47 CodL.yN
def tab : Cond := tabOf yN yB 6 none site
def P (a : Addr) (D : Cell) (fV fC : Field) (b : Addr) (A : Cell) (z : Int32) (o len : Nat) (args : Array Value) (s : State) : Prop := args = #[.ref a, .ref b, .int (Int32.ofNat o), .int (Int32.ofNat len), .null] ∧ Blank "java/lang/String" a D s ∧ Found "java/lang/String" "value" "[B" fV s ∧ Found "java/lang/String" "coder" "B" fC s ∧ Ch b A s ∧ StaticIs s "java/lang/String" "COMPACT_STRINGS" "Z" (.int z) ∧ ¬ z = 0 ∧ 0 < len ∧ o + len ≤ A.slots.size ∧ len ≤ 536870912 ∧ ∀ i, i < len → ¬ 255 < cv A (o + i)
def E (a : Addr) (D : Cell) (fV fC : Field) (A : Cell) (o len : Nat) (r : Option Value) (s u : State) : Prop := Got a D fV fC A o len r s u
/-- len > 0, no char of the range above 255: a Latin-1 String of their low bytes -/
theorem law (l : Launch) (a : Addr) (D : Cell) (fV fC : Field) (b : Addr) (A : Cell) (z : Int32) (o len : Nat) : Law l yN 5 4 2 35 yB 6 none site (P a D fV fC b A z o len) (E a D fV fC A o len) [⟨a, fC.slot⟩, ⟨a, fV.slot⟩] 1 len := by
  refine Law.of_walk (plainFor_of_name (by decide +kernel)) (by decide +kernel) (by decide +kernel) (by decide) (fun _ _ h => by rw [h.1]; rfl) (fun _ U U' hal hh h => ⟨h.1, h.2.1.mv hal hh, h.2.2.1.al hal, h.2.2.2.1.al hal, h.2.2.2.2.1.mv hal hh, h.2.2.2.2.2.1.there hal hh, h.2.2.2.2.2.2⟩) (fun r U U' V V' h1 hal h2 h => Got.mv r U U' V V' h1 hal h2 h) ?_
  intro p e s m args below meth c s₁ X0 hexec hbytes hml hret hlk hnm hown hh0 W hP
  obtain ⟨rfl, hB, f1, f2, hA, s1, hz, l0, l1, l2, hp⟩ := hP
  have a31 := hA.1.2.2.2
  have c1 : Steps p.tables e below (s₁.setTop (entryFrame m #[.ref a, .ref b, .int (Int32.ofNat o), .int (Int32.ofNat len), .null] 6)) (s₁.setTop (mkF m 0 #[.val (.ref a), .val (.ref b), .val (.int (Int32.ofNat o)), .val (.int (Int32.ofNat len)), .val .null, .unset] [])) := entry rfl
  have c2 : Steps p.tables e below (s₁.setTop (entryFrame m #[.ref a, .ref b, .int (Int32.ofNat o), .int (Int32.ofNat len), .null] 6)) (s₁.setTop (mkF m 1 #[.val (.ref a), .val (.ref b), .val (.int (Int32.ofNat o)), .val (.int (Int32.ofNat len)), .val .null, .unset] [.ref a])) := c1.trans (by
    refine XS.aloadN X0.here hexec rfl (hb hbytes d0) rfl rfl ?_
    exact Steps.refl _)
  obtain ⟨T3, X3, q3, st3⟩ := X0.oinit hexec hown (wks W (objW "java/lang/String" 1)) (g := (mkF m 1 #[.val (.ref a), .val (.ref b), .val (.int (Int32.ofNat o)), .val (.int (Int32.ofNat len)), .val .null, .unset] [.ref a])) rfl (by rw [hml]; rfl) (rest := []) rfl (hb hbytes d1) (W := 0) (by show 2 * 0 + 0 ≤ _; decide) (Nat.le_of_ble_eq_true rfl) (Nat.le_of_ble_eq_true rfl)
  have hh3 := q3.trans hh0
  have c4 : Steps p.tables e below (s₁.setTop (entryFrame m #[.ref a, .ref b, .int (Int32.ofNat o), .int (Int32.ofNat len), .null] 6)) (T3.setTop (mkF m 27 #[.val (.ref a), .val (.ref b), .val (.int (Int32.ofNat o)), .val (.int (Int32.ofNat len)), .val .null, .unset] [])) := (c2.trans (st3 _ (Steps.refl _))).trans (by
    refine XS.iloadN X3.here hexec rfl (hb hbytes d4) rfl ?_
    refine XS.ifYes X3.here hexec rfl (pc0 := 5) rfl (hb hbytes d5) rfl (i0_ne_t (nz32 (by omega) l0)) (by decide) rfl ?_
    exact Steps.refl _)
  obtain ⟨T5, X5, q5, st5⟩ := X3.sget hexec hown (wk W (.fieldLink "java/lang/String" 38 "java/lang/String" "COMPACT_STRINGS" "Z")) s1 (fun _ _ h => by rw [hh3]; exact h) (g := (mkF m 27 #[.val (.ref a), .val (.ref b), .val (.int (Int32.ofNat o)), .val (.int (Int32.ofNat len)), .val .null, .unset] [])) rfl (hb hbytes d27)
  have hh5 := q5.trans hh3
  have c6 : Steps p.tables e below (s₁.setTop (entryFrame m #[.ref a, .ref b, .int (Int32.ofNat o), .int (Int32.ofNat len), .null] 6)) (T5.setTop (mkF m 30 #[.val (.ref a), .val (.ref b), .val (.int (Int32.ofNat o)), .val (.int (Int32.ofNat len)), .val .null, .unset] [.int z])) := c4.trans (st5 _ (Steps.refl _))
  have c7 : Steps p.tables e below (s₁.setTop (entryFrame m #[.ref a, .ref b, .int (Int32.ofNat o), .int (Int32.ofNat len), .null] 6)) (T5.setTop (mkF m 36 #[.val (.ref a), .val (.ref b), .val (.int (Int32.ofNat o)), .val (.int (Int32.ofNat len)), .val .null, .unset] [.int (Int32.ofNat len), .int (Int32.ofNat o), .ref b])) := c6.trans (by
    refine XS.ifNo X5.here hexec rfl (hb hbytes d30) rfl (i0_eq_f hz) ?_
    refine XS.aloadN X5.here hexec rfl (hb hbytes d33) rfl rfl ?_
    refine XS.iloadN X5.here hexec rfl (hb hbytes d34) rfl ?_
    refine XS.iloadN X5.here hexec rfl (hb hbytes d35) rfl ?_
    exact Steps.refl _)
  obtain ⟨v8, T8, X8, E8, g8⟩ := X5.callS hexec (Cmp3.law l b A o len) hown (wks W (staticW "java/lang/String" 177 Cmp3.yN)) (wk W Cmp3.tab) (W := 0) (Nat.le_of_ble_eq_true rfl) (Nat.le_of_ble_eq_true rfl) (Nat.le_refl _) (by show 0 + len ≤ len; omega) (g := (mkF m 36 #[.val (.ref a), .val (.ref b), .val (.int (Int32.ofNat o)), .val (.int (Int32.ofNat len)), .val .null, .unset] [.int (Int32.ofNat len), .int (Int32.ofNat o), .ref b])) rfl (by rw [hml]; rfl) c7 (argsL := [.ref b, .int (Int32.ofNat o), .int (Int32.ofNat len)]) (rest := []) rfl rfl (by show 2 * 0 + 0 ≤ _; decide) (hb hbytes d36) (⟨rfl, hA.mv X5.warmed.alike hh5, l1, l2, hp⟩)
  obtain ⟨e8, z8⟩ := E8
  obtain ⟨rfl, N, n1, n2, n3, n4, n5, n6⟩ := NewArr.mv _ T5 s _ _ hh5.symm (Vm.Alike.refl _) rfl e8
  rw [hh5] at z8
  have hB1 := hB.keep X8.warmed.alike (n6 _ _ hB.1)
  have hne : s.heap.size ≠ a := (Nat.ne_of_lt (Array.getElem?_eq_some_iff.mp hB.1).1).symm
  have c9 : Steps p.tables e below (s₁.setTop (entryFrame m #[.ref a, .ref b, .int (Int32.ofNat o), .int (Int32.ofNat len), .null] 6)) (T8.setTop (mkF m 39 #[.val (.ref a), .val (.ref b), .val (.int (Int32.ofNat o)), .val (.int (Int32.ofNat len)), .val .null, .unset] [.ref s.heap.size])) := g8
  have c10 : Steps p.tables e below (s₁.setTop (entryFrame m #[.ref a, .ref b, .int (Int32.ofNat o), .int (Int32.ofNat len), .null] 6)) (T8.setTop (mkF m 45 #[.val (.ref a), .val (.ref b), .val (.int (Int32.ofNat o)), .val (.int (Int32.ofNat len)), .val .null, .val (.ref s.heap.size)] [.int (Int32.ofNat N.slots.size), .ref s.heap.size, .ref a])) := by
    have hc : Steps p.tables e below (s₁.setTop (entryFrame m #[.ref a, .ref b, .int (Int32.ofNat o), .int (Int32.ofNat len), .null] 6)) (T8.setTop (mkF m 45 #[.val (.ref a), .val (.ref b), .val (.int (Int32.ofNat o)), .val (.int (Int32.ofNat len)), .val .null, .val (.ref s.heap.size)] [.int (Int32.ofNat len), .ref s.heap.size, .ref a])) := c9.trans (by
      refine XS.astore X8.here hexec rfl (hb hbytes d39) rfl rfl rfl ?_
      refine XS.aloadN X8.here hexec rfl (hb hbytes d41) rfl rfl ?_
      refine XS.aload X8.here hexec rfl (hb hbytes d42) rfl rfl ?_
      refine XS.iloadN X8.here hexec rfl (hb hbytes d44) rfl ?_
      exact Steps.refl _)
    rw [n4]; exact hc
  obtain ⟨v11, T11, X11, E11, g11⟩ := X8.callS hexec (CodL.law l s.heap.size N) hown (wks W (staticW "java/lang/String" 47 CodL.yN)) (wk W CodL.tab) (W := 1) (Nat.le_of_ble_eq_true rfl) (Nat.le_of_ble_eq_true rfl) (Nat.le_refl _) (by show 0 + len + 0 ≤ len; omega) (g := (mkF m 45 #[.val (.ref a), .val (.ref b), .val (.int (Int32.ofNat o)), .val (.int (Int32.ofNat len)), .val .null, .val (.ref s.heap.size)] [.int (Int32.ofNat N.slots.size), .ref s.heap.size, .ref a])) rfl (by rw [hml]; rfl) c10 (argsL := [.ref s.heap.size, .int (Int32.ofNat N.slots.size)]) (rest := [.ref a]) rfl rfl (by show 2 * 0 + (1 + 0) ≤ _; decide) (hb hbytes d45) (⟨rfl, n1⟩)
  obtain ⟨rfl, q11⟩ := E11
  have hB11 := hB1.mv (X8.warmed.alike.symm.trans X11.warmed.alike) q11
  have c12 : Steps p.tables e below (s₁.setTop (entryFrame m #[.ref a, .ref b, .int (Int32.ofNat o), .int (Int32.ofNat len), .null] 6)) (T11.setTop (mkF m 48 #[.val (.ref a), .val (.ref b), .val (.int (Int32.ofNat o)), .val (.int (Int32.ofNat len)), .val .null, .val (.ref s.heap.size)] [.int 0, .ref a])) := g11
  obtain ⟨T13, X13, p13, bl13, sl13, st13⟩ := X11.finit hexec hown (wk W (.fieldLink "java/lang/String" 15 "java/lang/String" "coder" "B")) (Or.inr ⟨_, (wk W (.laysFinal "java/lang/String" "java/lang/String" "coder" "B"))⟩) (Or.inl ⟨rfl, hnm⟩) f2 (Or.inl rfl) hB11 (t := .byte) (by decide +kernel) rfl (g := (mkF m 48 #[.val (.ref a), .val (.ref b), .val (.int (Int32.ofNat o)), .val (.int (Int32.ofNat len)), .val .null, .val (.ref s.heap.size)] [.int 0, .ref a])) rfl (rest := []) rfl (hb hbytes d48)
  have c14 : Steps p.tables e below (s₁.setTop (entryFrame m #[.ref a, .ref b, .int (Int32.ofNat o), .int (Int32.ofNat len), .null] 6)) (T13.setTop (mkF m 54 #[.val (.ref a), .val (.ref b), .val (.int (Int32.ofNat o)), .val (.int (Int32.ofNat len)), .val .null, .val (.ref s.heap.size)] [.ref s.heap.size, .ref a])) := (c12.trans (st13 _ (Steps.refl _))).trans (by
    refine XS.aloadN X13.here hexec rfl (hb hbytes d51) rfl rfl ?_
    refine XS.aload X13.here hexec rfl (hb hbytes d52) rfl rfl ?_
    exact Steps.refl _)
  obtain ⟨T15, X15, p15, bl15, sl15, st15⟩ := X13.finit hexec hown (wk W (.fieldLink "java/lang/String" 9 "java/lang/String" "value" "[B")) (Or.inr ⟨_, (wk W (.laysFinal "java/lang/String" "java/lang/String" "value" "[B"))⟩) (Or.inl ⟨rfl, hnm⟩) f1 (Or.inl rfl) bl13 (t := (.array .byte)) (by decide +kernel) rfl (g := (mkF m 54 #[.val (.ref a), .val (.ref b), .val (.int (Int32.ofNat o)), .val (.int (Int32.ofNat len)), .val .null, .val (.ref s.heap.size)] [.ref s.heap.size, .ref a])) rfl (rest := []) rfl (hb hbytes d54)
  have c16 : Steps p.tables e below (s₁.setTop (entryFrame m #[.ref a, .ref b, .int (Int32.ofNat o), .int (Int32.ofNat len), .null] 6)) (T15.setTop (mkF m 57 #[.val (.ref a), .val (.ref b), .val (.int (Int32.ofNat o)), .val (.int (Int32.ofNat len)), .val .null, .val (.ref s.heap.size)] [])) := c14.trans (st15 _ (Steps.refl _))
  have ap := apart (Or.inr ⟨_, (wk W (.laysFinal "java/lang/String" "java/lang/String" "value" "[B"))⟩) (Or.inr ⟨_, (wk W (.laysFinal "java/lang/String" "java/lang/String" "coder" "B"))⟩) f1 f2 (t₁ := .array .byte) (t₂ := .byte) (by decide +kernel) (by decide +kernel) (by decide)
  have al := X8.warmed.alike.symm.trans X15.warmed.alike
  have n7 : T11.heap[s.heap.size]? = some N := by rw [q11]; exact n1.1
  exact ⟨T15, none, _, _, _, X15, by simp, rfl, by omega, (fun _ => rfl), ⟨rfl, _, N, bl15, ((Same.refl D _).set _ (by simp)).set _ (by simp), sl15, (Cell.slots_setSlot_ne _ ap).trans sl13, n1.keep al (p15.other hne (p13.other hne n7)), n2, by rw [al.findClass]; exact n3, n4, n5, fun y c h1 h2 => p15.other h1 (p13.other h1 (by rw [q11]; exact n6 y c h2)), by rw [p15.2.2, p13.2.2, q11]; exact z8⟩, fun fs hl => c16.trans (X15.returnOut hexec hret (hb hbytes d57) hl)⟩
end New4
namespace New1
def yN : MethodName := ⟨"java/lang/String", "<init>", "([C)V"⟩
abbrev yB : ByteArray := jdk_42_method_3_code
theorem d0 : decode yB 0 = .ok (.aload_n 0, 1) := by decide +kernel
theorem d1 : decode yB 1 = .ok (.aload_n 1, 1) := by decide +kernel
theorem d2 : decode yB 2 = .ok (.iconst 0, 1) := by decide +kernel
theorem d3 : decode yB 3 = .ok (.aload_n 1, 1) := by decide +kernel
theorem d4 : decode yB 4 = .ok (.arraylength, 1) := by decide +kernel
theorem d5 : decode yB 5 = .ok (.aconst_null, 1) := by decide +kernel
theorem d6 : decode yB 6 = .ok (.invokespecial 27, 3) := by decide +kernel
theorem d9 : decode yB 9 = .ok (.return_, 1) := by decide +kernel
def site : List Cond := [New4.tab] ++ initW "java/lang/String" 27 New4.yN
def tab : Cond := tabOf yN yB 2 none site
def P (a : Addr) (D : Cell) (fV fC : Field) (b : Addr) (A : Cell) (z : Int32) (args : Array Value) (s : State) : Prop := args = #[.ref a, .ref b] ∧ Blank "java/lang/String" a D s ∧ Found "java/lang/String" "value" "[B" fV s ∧ Found "java/lang/String" "coder" "B" fC s ∧ Ch b A s ∧ StaticIs s "java/lang/String" "COMPACT_STRINGS" "Z" (.int z) ∧ ¬ z = 0 ∧ 0 < A.slots.size ∧ A.slots.size ≤ 536870912 ∧ ∀ i, i < A.slots.size → ¬ 255 < cv A i
def E (a : Addr) (D : Cell) (fV fC : Field) (A : Cell) (r : Option Value) (s u : State) : Prop := Got a D fV fC A 0 A.slots.size r s u
/-- new String(chars), not empty, no char above 255: a Latin-1 String of their low bytes -/
theorem law (l : Launch) (a : Addr) (D : Cell) (fV fC : Field) (b : Addr) (A : Cell) (z : Int32) : Law l yN 2 1 3 52 yB 2 none site (P a D fV fC b A z) (E a D fV fC A) [⟨a, fC.slot⟩, ⟨a, fV.slot⟩] 1 A.slots.size := by
  refine Law.of_walk (plainFor_of_name (by decide +kernel)) (by decide +kernel) (by decide +kernel) (by decide) (fun _ _ h => by rw [h.1]; rfl) (fun _ U U' hal hh h => ⟨h.1, h.2.1.mv hal hh, h.2.2.1.al hal, h.2.2.2.1.al hal, h.2.2.2.2.1.mv hal hh, h.2.2.2.2.2.1.there hal hh, h.2.2.2.2.2.2⟩) (fun r U U' V V' h1 hal h2 h => Got.mv r U U' V V' h1 hal h2 h) ?_
  intro p e s m args below meth c s₁ X0 hexec hbytes hml hret hlk hnm hown hh0 W hP
  obtain ⟨rfl, hB, f1, f2, hA, s1, hz, l0, l2, hp⟩ := hP
  have c1 : Steps p.tables e below (s₁.setTop (entryFrame m #[.ref a, .ref b] 2)) (s₁.setTop (mkF m 0 #[.val (.ref a), .val (.ref b)] [])) := entry rfl
  have c2 : Steps p.tables e below (s₁.setTop (entryFrame m #[.ref a, .ref b] 2)) (s₁.setTop (mkF m 6 #[.val (.ref a), .val (.ref b)] [.null, .int (Int32.ofNat A.slots.size), .int 0, .ref b, .ref a])) := c1.trans (by
    refine XS.aloadN X0.here hexec rfl (hb hbytes d0) rfl rfl ?_
    refine XS.aloadN X0.here hexec rfl (hb hbytes d1) rfl rfl ?_
    refine iconstV X0.here hexec rfl 0 (hb hbytes d2) (by decide) ?_
    refine XS.aloadN X0.here hexec rfl (hb hbytes d3) rfl rfl ?_
    refine X0.alen hexec (hA.1.mv X0.warmed.alike hh0) rfl rfl (hb hbytes d4) ?_
    refine XS.aconstNull X0.here hexec rfl (hb hbytes d5) ?_
    exact Steps.refl _)
  obtain ⟨v3, T3, X3, E3, g3⟩ := X0.callN hexec (New4.law l a D fV fC b A z 0 A.slots.size) rfl hown (wks W (initW "java/lang/String" 27 New4.yN)) (W New4.tab (by simp only [site, List.mem_cons, List.mem_append, true_or, or_true])) (W := 0) (Nat.le_of_ble_eq_true rfl) (Nat.le_of_ble_eq_true rfl) (Nat.le_refl _) (by show 0 + A.slots.size ≤ A.slots.size; omega) (g := (mkF m 6 #[.val (.ref a), .val (.ref b)] [.null, .int (Int32.ofNat A.slots.size), .int (Int32.ofNat 0), .ref b, .ref a])) rfl (by rw [hml]; rfl) c2 (argsL := [.ref b, .int (Int32.ofNat 0), .int (Int32.ofNat A.slots.size), .null]) (rest := []) rfl rfl (by show 2 * 0 + 0 ≤ _; decide) (hb hbytes d6) (⟨rfl, hB.mv X0.warmed.alike hh0, f1.al X0.warmed.alike, f2.al X0.warmed.alike, hA.mv X0.warmed.alike hh0, s1.there X0.warmed.alike hh0, hz, l0, by omega, l2, fun i hi => by rw [Nat.zero_add]; exact hp i hi⟩)
  have e0 := Got.mv _ s₁ s _ _ hh0.symm (Vm.Alike.refl _) rfl E3
  obtain rfl := e0.1
  have c4 : Steps p.tables e below (s₁.setTop (entryFrame m #[.ref a, .ref b] 2)) (T3.setTop (mkF m 9 #[.val (.ref a), .val (.ref b)] [])) := g3
  exact ⟨T3, none, _, _, _, X3, by simp, rfl, by omega, (fun _ => rfl), e0, fun fs hl => c4.trans (X3.returnOut hexec hret (hb hbytes d9) hl)⟩
theorem pays {l : Launch} {R : Room} {p : Program} {e : Env} {below : List Frame} {s : State} {sargs : Array Value} {len W : Nat} (a : Addr) (D : Cell) (fV fC : Field) (b : Addr) (A : Cell) (z : Int32) (htab : tab.before sargs s = true) (hfr : 4 ≤ R.frames) (hlo : W + 65 ≤ R.locals) :
    Back l R p e below s sargs yN len W (fun A₁ a₁ => A₁.cells + 1 ≤ R.cells ∧ A₁.slots + A.slots.size ≤ R.slots ∧ P a D fV fC b A z a₁ A₁.U) (fun A₁ _ v₁ B₁ => E a D fV fC A v₁ A₁.U B₁.U ∧ B₁.locs = A₁.locs ++ [⟨a, fC.slot⟩, ⟨a, fV.slot⟩] ∧ B₁.cells = A₁.cells + 1 ∧ B₁.slots = A₁.slots + A.slots.size) :=
  (law l a D fV fC b A z).pays htab hfr (by omega)
end New1
end StrChars
namespace StrChars.Road
open Jvm Sem ClassFile Op Lib Jvm.Stand Jvm.Free Jvm.Free.XT
open Jvm.Lib.Cold (StaticIs)
abbrev ST : String := "java/lang/String"
/-- every table word that New1's law asks, flat -/
abbrev words : List Jvm.Cond := [.code New1.yN New1.yB 2 none, .initialized ST, .methodLink ST 27 New4.yN, .instanceMethod New4.yN,
  .code New4.yN New4.yB 6 none, .fieldLink ST 38 ST "COMPACT_STRINGS" "Z", .laysFinal ST ST "value" "[B", .fieldLink ST 9 ST "value" "[B", .laysFinal ST ST "coder" "B", .fieldLink ST 15 ST "coder" "B",
  .methodLink ST 1 Lib.objectInit, .instanceMethod Lib.objectInit, .code Lib.objectInit ⟨#[0xb1]⟩ 1 none, .methodLink ST 177 Cmp3.yN, .static Cmp3.yN, .methodLink ST 47 CodL.yN, .static CodL.yN,
  .code Cmp3.yN Cmp3.yB 6 (some (.array .byte)), .initialized U16, .arrayClass .byte, .methodLink U16 115 Cmp5.yN, .static Cmp5.yN, .code Cmp5.yN Cmp5.yB 7 (some .int), .code CodL.yN CodL.yB 2 (some .byte)]
theorem tab_of {a : Array Value} {s : State} (h : ∀ w ∈ words, w.before a s = true) : New1.tab.before a s = true := by
  have h5 : Cmp5.tab.before a s = true := unparts (wk h (.code Cmp5.yN Cmp5.yB 7 (some .int))) (wks h (.initialized Cmp5.yN.cls :: Cmp5.site))
  have hc : CodL.tab.before a s = true := unparts (wk h (.code CodL.yN CodL.yB 2 (some .byte))) (wks h (.initialized CodL.yN.cls :: CodL.site))
  have q5 : ∀ w ∈ Cmp5.tab :: words, w.before a s = true := fun w hw => (List.mem_cons.mp hw).elim (fun e => e ▸ h5) (h w)
  have h3 : Cmp3.tab.before a s = true := unparts (wk q5 (.code Cmp3.yN Cmp3.yB 6 (some (.array .byte)))) (wks q5 (.initialized Cmp3.yN.cls :: Cmp3.site))
  have q3 : ∀ w ∈ Cmp3.tab :: CodL.tab :: words, w.before a s = true := fun w hw => (List.mem_cons.mp hw).elim (fun e => e ▸ h3) fun hw => (List.mem_cons.mp hw).elim (fun e => e ▸ hc) (h w)
  have h4 : New4.tab.before a s = true := unparts (wk q3 (.code New4.yN New4.yB 6 none)) (wks q3 (.initialized New4.yN.cls :: New4.site))
  have q4 : ∀ w ∈ New4.tab :: words, w.before a s = true := fun w hw => (List.mem_cons.mp hw).elim (fun e => e ▸ h4) (h w)
  exact unparts (wk q4 (.code New1.yN New1.yB 2 none)) (wks q4 (.initialized New1.yN.cls :: New1.site))
/-- the words ride from the start Z to the walk's own state -/
theorem moved {Z s : State} {a0 args : Array Value} (hZ : Z.Warmed39 s.vm) (hw : ∀ d ∈ words, d.before a0 Z = true) : ∀ d ∈ words, d.before args s = true := fun d hd => by
  have q := hw d hd
  have t : ∀ d ∈ words, d = .arrayClass .byte ∨ (d.onTables && d.keepsFace) = true := by decide +kernel
  rcases t d hd with rfl | t
  · exact RoadKit.mvA hZ q
  · exact RoadKit.mv hZ q t
/-- WHAT COMES BACK, over the tables of the start Z: h the heap at the call, h' behind it -/
def Q (Z : State) (x : Addr) (A : Cell) (h : Heap) (v : Option Value) (h' : Heap) (L : List Loc) : Prop := v = none ∧ (∀ y ∈ L, y.base = x) ∧ RoadKit.Keep h h' [x] ∧ h'.size = h.size + 1 ∧ RoadKit.Exa Z h' x ST ∧ RoadKit.Fld Z h' x ST "value" "[B" (.ref h.size) ∧ RoadKit.Fld Z h' x ST "coder" "B" (.int 0) ∧
  (∃ V : Cell, RoadKit.Arr Z h' h.size V .byte ∧ V.vm = .none ∧ Z.vm.findClass "[B" = some V.cls ∧ V.slots.size = A.slots.size ∧ ∀ j, j < A.slots.size → V.slots[j]? = some (.int (lo8 (cv A j)))) ∧
  ∀ (O n d : String) (w : Value), RoadKit.Fld Z h x O n d w → RoadKit.slotOf Z O n d ≠ RoadKit.slotOf Z ST "value" "[B" → RoadKit.slotOf Z O n d ≠ RoadKit.slotOf Z ST "coder" "B" → RoadKit.Fld Z h' x O n d w
/-- **new String(chars) AT A CALL, IN THE ROAD'S FORM**: for specialBack behind newO: x the fresh String, b the char[] with the cell A -/
theorem back {p : Program} {l : Launch} {e : Env} {R : Room} {s : State} {args : Array Value} {below : List Frame} {len W : Nat} {Z : State} {a0 : Array Value} {h : Heap} (hZ : Z.Warmed39 s.vm) (hw : ∀ d ∈ words, d.before a0 Z = true) {kI : Nat} (wi : (Jvm.Cond.instantiable ST kI).before a0 Z = true)
    {x b : Addr} {A : Cell} {z : Int32} {v0 c0 : Value} (E : RoadKit.Exa Z h x ST) (V : RoadKit.Fld Z h x ST "value" "[B" v0) (C : RoadKit.Fld Z h x ST "coder" "B" c0) (K : RoadKit.Arr Z h b A .char) (hty : Typed .char A) (S : RoadKit.Sta Z h ST "COMPACT_STRINGS" "Z" (.int z)) (hz : ¬ z = 0)
    (l0 : 0 < A.slots.size) (l2 : A.slots.size ≤ 536870912) (hp : ∀ i, i < A.slots.size → ¬ 255 < cv A i) (hfr : 4 ≤ R.frames) (hlo : W + 65 ≤ R.locals) :
    Back l R p e below s args New1.yN len W (fun P a => a = #[.ref x, .ref b] ∧ P.U.heap = h ∧ P.cells + 1 ≤ R.cells ∧ P.slots + A.slots.size ≤ R.slots)
      (fun P _ v B => ∃ L, Q Z x A h v B.U.heap L ∧ B.locs = P.locs ++ L ∧ B.cells = P.cells + 1 ∧ B.slots = P.slots + A.slots.size) := by
  intro m meth c P g ig mk a X hg hsize hdg hW hn hp'
  obtain ⟨rfl, rfl, r1, r2⟩ := hp'
  have al : Z.vm.Alike P.U.vm := hZ.alike.trans X.warmed.alike
  obtain ⟨D, cfV, kV, iV, fV, hD, gV, stV, knV, obV, asV, slV⟩ := id V
  obtain ⟨D', cfC, kC, iC, fC, hD', gC, stC, -, -, asC, slC⟩ := id C
  cases hD.symm.trans hD'
  obtain ⟨D2, kD, e1, e2, e3, e4, e5⟩ := id E
  cases hD.symm.trans e1
  obtain ⟨c2, k2, i1, i2, i3, -⟩ := Cond.instantiable_spec wi
  cases e2.symm.trans i1
  cases e3.symm.trans i2
  obtain ⟨kU, u1, u2⟩ := al.2.2 _ _ e3
  have hB : Blank ST x D P.U := ⟨hD, ⟨knV, fun q hq => by rw [hq] at obV; cases obV⟩, by rw [al.findClass]; exact e2, kU, u1, by rw [u2]; exact i3, by rw [u2]; exact e5 i3⟩
  have F1 : Found ST "value" "[B" fV P.U := ⟨SBG.found_only al ⟨cfV, kV, iV, gV⟩, stV⟩
  have F2 : Found ST "coder" "B" fC P.U := ⟨SBG.found_only al ⟨cfC, kC, iC, gC⟩, stC⟩
  have hA : Ch b A P.U := ⟨⟨K.1, State.isArrayOf_alike al K.2.1, K.2.2, by omega⟩, hty⟩
  have hS : StaticIs P.U ST "COMPACT_STRINGS" "Z" (.int z) := by
    obtain ⟨cfS, iS, kS, fS, st, cS, t1, t2, t3, t4, t5, t6, t7⟩ := S
    exact StaticIs.there (s := { Z with heap := P.U.heap }) ⟨cfS, iS, kS, fS, st, cS, t1, t2, t3, t4, t5, (fun q => by rw [q] at t6; cases t6), t7⟩ al rfl
  obtain ⟨v, B, X', ⟨⟨hv, E', V', q1, q2, q3, q4, q5, q6, q7, q8, q9, q10, q11⟩, hl, hc, hs⟩, st⟩ := New1.pays x D fV fC b A z (tab_of (moved hZ hw)) hfr hlo m meth c P g ig mk _ X hg hsize hdg hW hn ⟨r1, r2, rfl, hB, F1, F2, hA, hS, hz, l0, l2, hp⟩
  have al' : Z.vm.Alike B.U.vm := hZ.alike.trans X'.warmed.alike
  have hsz : E'.slots.size = D.slots.size := by
    obtain ⟨-, -, -, kB, w1, w2, w3⟩ := q1
    obtain ⟨kB', y1, y2⟩ := al'.2.2 _ _ e3
    rw [q2.2.1] at w1
    cases w1.symm.trans y1
    rw [w3, e5 i3, y2]
  refine ⟨v, B, X', ⟨_, ⟨hv, ?_, ⟨by omega, fun y cy hy hn' => q10 y cy (by simpa using hn') hy, fun y cy hy => ?_⟩, q11, ⟨E', _, q1.1, by rw [q2.2.1]; exact e2, by rw [q2.2.1]; exact e3, by rw [q2.1]; exact obV, fun _ => by rw [hsz]; exact e5 i3⟩,
    ⟨E', cfV, kV, iV, fV, q1.1, gV, stV, by rw [q2.1]; exact knV, by rw [q2.1]; exact obV, by rw [q2.2.1]; exact asV, q3⟩, ⟨E', cfC, kC, iC, fC, q1.1, gC, stC, by rw [q2.1]; exact knV, by rw [q2.1]; exact obV, by rw [q2.2.1]; exact asC, q4⟩,
    ⟨V', ⟨q5.1, State.isArrayOf_alike al'.symm q5.2.1, q5.2.2.1⟩, q6, by rw [← al'.findClass]; exact q7, q8, fun j hj => by have := q9 j hj; rwa [Nat.zero_add] at this⟩, fun O n d w F n1 n2 => ?_⟩, hl, hc, hs⟩, st⟩
  · intro y hy
    simp only [List.mem_cons, List.not_mem_nil, or_false] at hy
    rcases hy with rfl | rfl <;> rfl
  · by_cases q : y = x
    · subst q
      cases hD.symm.trans hy
      exact ⟨E', q1.1, q2.2.1, q2.1, hsz⟩
    · exact ⟨cy, q10 y cy q hy, rfl, rfl, rfl⟩
  · obtain ⟨D3, cf, k, i, f, g1, g2, g3, g4, g5, g6, g7⟩ := F
    cases hD.symm.trans g1
    simp only [RoadKit.slotOf, g2, gV, gC, Option.map_some, Option.getD_some] at n1 n2
    exact ⟨E', cf, k, i, f, q1.1, g2, g3, by rw [q2.1]; exact g4, by rw [q2.1]; exact g5, by rw [q2.2.1]; exact g6, by rw [q2.2.2 f.slot (by simp [n1, n2])]; exact g7⟩
end StrChars.Road
namespace StrChars.Road
open Jvm Sem ClassFile Op Lib Jvm.Stand Jvm.Free Jvm.Free.XT
/-- WHAT COMES BACK, the byte[] as a list of values -/
def QA (Z : State) (x : Addr) (zn : Int32) (cs : List Int32) (h : Heap) (v : Option Value) (h' : Heap) (L : List Loc) : Prop := v = none ∧ (∀ y ∈ L, y.base = x) ∧ RoadKit.Keep h h' [x] ∧ h'.size = h.size + 1 ∧ RoadKit.Exa Z h' x ST ∧ RoadKit.Fld Z h' x ST "value" "[B" (.ref h.size) ∧ RoadKit.Fld Z h' x ST "coder" "B" (.int 0) ∧
  (∃ kb, Z.vm.findClass "[B" = some kb ∧ RoadKit.Arv Z h' h.size kb .byte zn (cs.map fun c => .int (lo8 c)) (.int 0)) ∧
  ∀ (O n d : String) (w : Value), RoadKit.Fld Z h x O n d w → RoadKit.slotOf Z O n d ≠ RoadKit.slotOf Z ST "value" "[B" → RoadKit.slotOf Z O n d ≠ RoadKit.slotOf Z ST "coder" "B" → RoadKit.Fld Z h' x O n d w
/-- **new String(chars) AT A CALL, THE ARRAYS AS LISTS**: the char[] at b holds cs, not empty, no char above 255 -/
theorem backArv {p : Program} {l : Launch} {e : Env} {R : Room} {s : State} {args : Array Value} {below : List Frame} {len W : Nat} {Z : State} {a0 : Array Value} {h : Heap} (hZ : Z.Warmed39 s.vm) (hw : ∀ d ∈ words, d.before a0 Z = true) {kI : Nat} (wi : (Jvm.Cond.instantiable ST kI).before a0 Z = true)
    {x b : Addr} {k : ClassId} {zn z : Int32} {cs : List Int32} {dv v0 c0 : Value} (E : RoadKit.Exa Z h x ST) (V : RoadKit.Fld Z h x ST "value" "[B" v0) (C : RoadKit.Fld Z h x ST "coder" "B" c0) (K : RoadKit.Arv Z h b k .char zn (cs.map Value.int) dv) (S : RoadKit.Sta Z h ST "COMPACT_STRINGS" "Z" (.int z)) (hz : ¬ z = 0)
    (hlen : zn.toNatClampNeg = cs.length) (h0 : 0 < cs.length) (hbig : cs.length ≤ 536870912) (hall : ∀ c ∈ cs, ¬ 255 < c) (hfr : 4 ≤ R.frames) (hlo : W + 65 ≤ R.locals) :
    Back l R p e below s args New1.yN len W (fun P a => a = #[.ref x, .ref b] ∧ P.U.heap = h ∧ P.cells + 1 ≤ R.cells ∧ P.slots + cs.length ≤ R.slots)
      (fun P _ v B => ∃ L, QA Z x zn cs h v B.U.heap L ∧ B.locs = P.locs ++ L ∧ B.cells = P.cells + 1 ∧ B.slots = P.slots + cs.length) := by
  obtain ⟨A, K1, K2, K3, K4, K5, K6⟩ := K
  have e : A.slots.size = cs.length := K3.trans hlen
  have hat : ∀ (i : Nat) (hi : i < cs.length), A.slots[i]? = some (.int cs[i]) := fun i hi => by rw [K5 i (by omega)]; simp [List.getD_eq_getElem?_getD, hi]
  have hcv : ∀ (i : Nat) (hi : i < cs.length), cv A i = cs[i] := fun i hi => by unfold cv; rw [hat i hi]
  have hty : Typed .char A := fun i v hv => by
    have hi : i < A.slots.size := (Array.getElem?_eq_some_iff.mp hv).1
    have q := K5 i hi
    rw [hv] at q
    rw [Option.some.inj q]
    exact K6 i hi
  refine Back.mono (back hZ hw wi E V C K1 hty S hz (by omega) (by omega) (fun i hi => by rw [hcv i (by omega)]; exact hall _ (List.getElem_mem _)) hfr hlo) (fun P a hp => ⟨hp.1, hp.2.1, hp.2.2.1, by rw [e]; exact hp.2.2.2⟩) (fun P a v B hp hq => ?_)
  obtain ⟨L, ⟨q1, q2, q3, q4, q5, q6, q7, ⟨V', v1, v2, v3, v4, v5⟩, q9⟩, hl, hc, hs⟩ := hq
  refine ⟨L, ⟨q1, q2, q3, q4, q5, q6, q7, ⟨V'.cls, v3, V', v1, rfl, by rw [v4, e, hlen], K4, fun i hi => ?_, fun i hi => ?_⟩, q9⟩, hl, hc, by rw [hs, e]⟩
  · have hi' : i < cs.length := by omega
    rw [v5 i (by omega), hcv i hi']; simp [List.getD_eq_getElem?_getD, hi']
  · have hi' : i < cs.length := by omega
    simp only [List.getD_eq_getElem?_getD, List.getElem?_map, List.getElem?_eq_getElem hi', Option.map_some, Option.getD_some]
    exact fits_lo8 _
end StrChars.Road
namespace StrChars.Road
open Jvm Sem ClassFile Op Lib Jvm.Stand Jvm.Free Jvm.Free.XT
/-- WHAT COMES BACK, in the writer's own shape -/
def QV (Z : State) (x : Addr) (N : Int32) (bs : List Int32) (h : Heap) (n0 : Nat) (v : Option Value) (h' : Heap) (L : List Loc) : Prop := v = none ∧ RoadKit.Fr n0 L ∧ RoadKit.Keep h h' [x] ∧ RoadKit.Exa Z h' x ST ∧ RoadKit.Fld Z h' x ST "coder" "B" (.int 0) ∧
  ∃ (t : Addr) (kb : ClassId), n0 ≤ t ∧ h.size ≤ t ∧ ¬ t = x ∧ RoadKit.Fld Z h' x ST "value" "[B" (.ref t) ∧ RoadKit.Arv Z h' t kb .byte N (bs.map Value.int) (.int 0)
/-- **new String(chars) AT A CALL, FOR THE WRITER**: a char[] of n known ints, each 0 to 255 -/
theorem backV {p : Program} {l : Launch} {e : Env} {R : Room} {s : State} {args : Array Value} {below : List Frame} {len W : Nat} {Z : State} {a0 : Array Value} {h : Heap} (hZ : Z.Warmed39 s.vm) (hw : ∀ d ∈ words, d.before a0 Z = true) {kI : Nat} (wi : (Jvm.Cond.instantiable ST kI).before a0 Z = true)
    {x b : Addr} {kC : ClassId} {cs bs : List Int32} {d v0 c0 : Value} {z N : Int32} {n n0 : Nat} (hx0 : n0 ≤ x) (hh0 : n0 ≤ h.size) (E : RoadKit.Exa Z h x ST) (V : RoadKit.Fld Z h x ST "value" "[B" v0) (C : RoadKit.Fld Z h x ST "coder" "B" c0) (K : RoadKit.Arv Z h b kC .char N (cs.map Value.int) d) (S : RoadKit.Sta Z h ST "COMPACT_STRINGS" "Z" (.int z)) (hz : ¬ z = 0)
    (hn : cs.length = n) (hN : N = Int32.ofNat n) (l0 : 0 < n) (l2 : n ≤ 4000) (hp : ∀ c ∈ cs, ¬ c < 0 ∧ ¬ (255 : Int32) < c) (hb : bs = cs.map (fun c => c.toInt8.toInt32)) (hfr : 4 ≤ R.frames) (hlo : W + 65 ≤ R.locals) :
    Back l R p e below s args (⟨"java/lang/String", "<init>", "([C)V"⟩ : MethodName) len W (fun P a => a = #[.ref x, .ref b] ∧ P.U.heap = h ∧ P.cells + 1 ≤ R.cells ∧ P.slots + n ≤ R.slots)
      (fun P _ v B => ∃ L, QV Z x N bs h n0 v B.U.heap L ∧ B.locs = P.locs ++ L ∧ B.cells = P.cells + 1 ∧ B.slots = P.slots + n) := by
  subst hn hN hb
  refine Back.mono (backArv hZ hw wi E V C K S hz (n32 (by omega)) l0 (by omega) (fun c hc => (hp c hc).2) hfr hlo) (fun P a hp => hp) (fun P a v B hp hq => ?_)
  obtain ⟨L, ⟨q1, q2, q3, q4, q5, q6, q7, ⟨kb, v1, v2⟩, q9⟩, hl, hc, hs⟩ := hq
  exact ⟨L, ⟨q1, fun y hy => by rw [q2 y hy]; exact hx0, q3, q5, q7, h.size, kb, hh0, Nat.le_refl _, Nat.ne_of_gt E.lt, q6, by rw [List.map_map]; exact v2⟩, hl, hc, hs⟩
end StrChars.Road
end Jvm.Pilot.@@N@@
namespace Jvm.Pilot.@@N@@
open Jvm Jvm.ClassFile Sem Op Lib Jvm.Free Jvm.Stand Jvm.LawKit Jvm.RoadKit Bundle Jvm.Pilot.@@N@@.Jvm.D
theorem own_lc_lt (x y : Int64) : lcmpW x y < 0 ↔ x < y := by rw [lcW]; exact lc_lt x y
theorem own_lc_gt (x y : Int64) : 0 < lcmpW x y ↔ y < x := by rw [lcW]; exact lc_gt x y
theorem own_lc_eq (x y : Int64) : lcmpW x y = 0 ↔ x = y := by rw [lcW]; exact lc_eq x y
theorem own_ri {P : Prop} [Decidable P] {a b : Value} (h1 : a.isRef = true) (h2 : b.isRef = true) : (if P then a else b).isRef = true := by
  by_cases h : P
  · rw [if_pos h]; exact h1
  · rw [if_neg h]; exact h2
theorem own_sta_keep {Z : State} {h h' : Heap} {C n d : String} {w : Value} {ws : List Addr} (F : Sta Z h C n d w) (K : Keep h h' ws) (q : ∀ x ∈ ws, ∀ cell : Cell, h[x]? = some cell → cell.vm.isStatics = false) : Sta Z h' C n d w := by
  obtain ⟨cf, i, k, f, st, cell, h1, h2, h3, h4, h5, h6, h7⟩ := F
  exact ⟨cf, i, k, f, st, cell, h1, h2, h3, h4, K.2.1 st cell h5 (fun z => by rw [q st z cell h5] at h6; cases h6), h6, h7⟩
theorem pd_0 : parseMethodDescriptor "(IIICCCC)C" = some ⟨[.int, .int, .int, .char, .char, .char, .char], some .char⟩ := by decide +kernel
theorem pd_1 : parseMethodDescriptor "([C)V" = some ⟨[(.array .char)], none⟩ := by decide +kernel
theorem pd_2 : parseMethodDescriptor "([CIILjava/lang/Void;)V" = some ⟨[(.array .char), .int, .int, (.object "java/lang/Void")], none⟩ := by decide +kernel
theorem pd_3 : parseMethodDescriptor "()V" = some ⟨[], none⟩ := by decide +kernel
theorem pd_4 : parseMethodDescriptor "([CII)[B" = some ⟨[(.array .char), .int, .int], some (.array .byte)⟩ := by decide +kernel
theorem pd_5 : parseMethodDescriptor "([CI[BII)I" = some ⟨[(.array .char), .int, (.array .byte), .int, .int], some .int⟩ := by decide +kernel
theorem pd_6 : parseMethodDescriptor "([BI)B" = some ⟨[(.array .byte), .int], some .byte⟩ := by decide +kernel
theorem pd_7 : parseMethodDescriptor "(Ljava/lang/String;Ljava/lang/String;JLjava/lang/String;)V" = some ⟨[(.object "java/lang/String"), (.object "java/lang/String"), .long, (.object "java/lang/String")], none⟩ := by decide +kernel
theorem pd_8 : parseMethodDescriptor "(C)V" = some ⟨[.char], none⟩ := by decide +kernel
theorem pd_9 : parseMethodDescriptor "()I" = some ⟨[], some .int⟩ := by decide +kernel
theorem pd_10 : parseMethodDescriptor "()B" = some ⟨[], some .byte⟩ := by decide +kernel
theorem pd_11 : parseMethodDescriptor "(I)C" = some ⟨[.int], some .char⟩ := by decide +kernel
theorem pd_12 : parseMethodDescriptor "()Z" = some ⟨[], some .boolean⟩ := by decide +kernel
theorem pd_13 : parseMethodDescriptor "([BI)C" = some ⟨[(.array .byte), .int], some .char⟩ := by decide +kernel
theorem pd_14 : parseMethodDescriptor "(II)V" = some ⟨[.int, .int], none⟩ := by decide +kernel
theorem pd_15 : parseMethodDescriptor "(IILjava/util/function/BiFunction;)I" = some ⟨[.int, .int, (.object "java/util/function/BiFunction")], some .int⟩ := by decide +kernel
theorem pd_16 : parseMethodDescriptor "(C)Z" = some ⟨[.char], some .boolean⟩ := by decide +kernel
theorem pd_17 : parseMethodDescriptor "(II)I" = some ⟨[.int, .int], some .int⟩ := by decide +kernel
theorem pd_18 : parseMethodDescriptor "([BIII)I" = some ⟨[(.array .byte), .int, .int, .int], some .int⟩ := by decide +kernel
theorem pd_19 : parseMethodDescriptor "(I)Z" = some ⟨[.int], some .boolean⟩ := by decide +kernel
theorem pd_20 : parseMethodDescriptor "(I)[B" = some ⟨[.int], some (.array .byte)⟩ := by decide +kernel
theorem pd_21 : parseMethodDescriptor "(I)I" = some ⟨[.int], some .int⟩ := by decide +kernel
theorem pd_22 : parseMethodDescriptor "([BII)V" = some ⟨[(.array .byte), .int, .int], none⟩ := by decide +kernel
theorem pd_23 : parseMethodDescriptor "(I[B)V" = some ⟨[.int, (.array .byte)], none⟩ := by decide +kernel
theorem pd_24 : parseMethodDescriptor "([B)I" = some ⟨[(.array .byte)], some .int⟩ := by decide +kernel
theorem pd_25 : parseMethodDescriptor "(II[B)V" = some ⟨[.int, .int, (.array .byte)], none⟩ := by decide +kernel
theorem pd_26 : parseMethodDescriptor "(III)V" = some ⟨[.int, .int, .int], none⟩ := by decide +kernel
theorem pd_27 : parseMethodDescriptor "(IIILjava/util/function/BiFunction;)I" = some ⟨[.int, .int, .int, (.object "java/util/function/BiFunction")], some .int⟩ := by decide +kernel
def own_St (Z : State) (cs : Int32) (fm : Value) : Prop := Sta Z Z.heap "java/lang/String" "COMPACT_STRINGS" "Z" (.int cs) ∧ (¬ cs = 0) ∧ Sta Z Z.heap "jdk/internal/util/Preconditions" "SIOOBE_FORMATTER" "Ljava/util/function/BiFunction;" fm ∧ fm.isRef = true ∧ Sta Z Z.heap "java/lang/StringUTF16" "$assertionsDisabled" "Z" (.int (1 : Int32)) ∧ Sta Z Z.heap "java/lang/StringUTF16" "HI_BYTE_SHIFT" "I" (.int (0 : Int32)) ∧ Sta Z Z.heap "java/lang/StringUTF16" "LO_BYTE_SHIFT" "I" (.int (8 : Int32))
def own_lo (c : Int32) : Int32 := nar .byte ((c >>> ((0 : Int32) &&& 31)).toInt8.toInt32)
def own_hi (c : Int32) : Int32 := nar .byte ((c >>> ((8 : Int32) &&& 31)).toInt8.toInt32)
def own_gc (l h : Int32) : Int32 := nar .char (((((l &&& (255 : Int32)) <<< ((0 : Int32) &&& 31)) ||| ((h &&& (255 : Int32)) <<< ((8 : Int32) &&& 31)))).toUInt32.toUInt16.toUInt32.toInt32)
def own_lc (b : Int32) : Int32 := nar .char ((b &&& (255 : Int32)).toUInt32.toUInt16.toUInt32.toInt32)
def own_ch (c : Int32) : Prop := 0 ≤ c.toInt ∧ c.toInt < 65536
theorem own_gc_eq {c : Int32} (h : own_ch c) : own_gc (own_lo c) (own_hi c) = c := by
  obtain ⟨h0, h1⟩ := h
  show (((((own_lo c &&& (255 : Int32)) <<< ((0 : Int32) &&& 31)) ||| ((own_hi c &&& (255 : Int32)) <<< ((8 : Int32) &&& 31)))).toUInt32.toUInt16.toUInt32.toInt32).toUInt32.toUInt16.toUInt32.toInt32 = c
  have a1 := c_ishr c (0 : Int32) 0 rfl
  have a2 := c_ishr c (8 : Int32) 8 rfl
  have b1 := c_i2b (c >>> ((0 : Int32) &&& 31)); have b2 := c_i2b ((c >>> ((0 : Int32) &&& 31)).toInt8.toInt32)
  have b3 := c_i2b (c >>> ((8 : Int32) &&& 31)); have b4 := c_i2b ((c >>> ((8 : Int32) &&& 31)).toInt8.toInt32)
  have d1 : (own_lo c &&& (255 : Int32)).toInt = (own_lo c).toInt % 256 := c_mask _ 255 8 (by decide) rfl
  have d2 : (own_hi c &&& (255 : Int32)).toInt = (own_hi c).toInt % 256 := c_mask _ 255 8 (by decide) rfl
  have el : (own_lo c).toInt = ((c >>> ((0 : Int32) &&& 31)).toInt8.toInt32).toInt8.toInt32.toInt := rfl
  have eh : (own_hi c).toInt = ((c >>> ((8 : Int32) &&& 31)).toInt8.toInt32).toInt8.toInt32.toInt := rfl
  rw [show ((2 ^ 0 : Nat) : Int) = 1 from rfl] at a1
  rw [show ((2 ^ 8 : Nat) : Int) = 256 from rfl] at a2
  have x1 : (own_lo c &&& (255 : Int32)).toInt = c.toInt % 256 := by omega
  have x2 : (own_hi c &&& (255 : Int32)).toInt = c.toInt / 256 := by omega
  generalize own_lo c &&& (255 : Int32) = l at *
  generalize own_hi c &&& (255 : Int32) = hh at *
  have s1 := c_ishl l (0 : Int32) 0 rfl
  have s2 := c_ishl hh (8 : Int32) 8 rfl
  rw [show ((2 ^ 0 : Nat) : Int) = 1 from rfl] at s1
  rw [show ((2 ^ 8 : Nat) : Int) = 256 from rfl] at s2
  have t1 := Int32.le_toInt (l <<< ((0 : Int32) &&& 31)); have t2 := Int32.toInt_lt (l <<< ((0 : Int32) &&& 31))
  have t3 := Int32.le_toInt (hh <<< ((8 : Int32) &&& 31)); have t4 := Int32.toInt_lt (hh <<< ((8 : Int32) &&& 31))
  have y1 : (l <<< ((0 : Int32) &&& 31)).toInt = l.toInt := by omega
  have y2 : (hh <<< ((8 : Int32) &&& 31)).toInt = hh.toInt * 256 := by omega
  have o := c_or' (l <<< ((0 : Int32) &&& 31)) (hh <<< ((8 : Int32) &&& 31)) 8 (by decide) 256 rfl (by omega) (by omega) (by omega)
  have t5 := Int32.le_toInt ((l <<< ((0 : Int32) &&& 31)) ||| (hh <<< ((8 : Int32) &&& 31))); have t6 := Int32.toInt_lt ((l <<< ((0 : Int32) &&& 31)) ||| (hh <<< ((8 : Int32) &&& 31)))
  generalize (l <<< ((0 : Int32) &&& 31)) ||| (hh <<< ((8 : Int32) &&& 31)) = w at *
  have p1 := c_i2c w; have p2 := c_i2c (w.toUInt32.toUInt16.toUInt32.toInt32)
  apply Int32.toInt_inj.mp
  omega
theorem own_l1c_eq {c : Int32} (h0 : 0 ≤ c.toInt) (h1 : c.toInt < 256) : own_lc (c.toInt8.toInt32) = c := by
  show ((c.toInt8.toInt32 &&& (255 : Int32)).toUInt32.toUInt16.toUInt32.toInt32).toUInt32.toUInt16.toUInt32.toInt32 = c
  have a := c_i2b c
  have d : (c.toInt8.toInt32 &&& (255 : Int32)).toInt = (c.toInt8.toInt32).toInt % 256 := c_mask _ 255 8 (by decide) rfl
  generalize c.toInt8.toInt32 &&& (255 : Int32) = w at *
  have p1 := c_i2c w; have p2 := c_i2c (w.toUInt32.toUInt16.toUInt32.toInt32)
  apply Int32.toInt_inj.mp
  omega
theorem own_b44 {c : Int32} (h0 : 0 ≤ c.toInt) (h1 : c.toInt < 256) : (c.toInt8.toInt32 = 44) ↔ c = 44 := by
  have a := c_i2b c
  rw [← Int32.toInt_inj, ← Int32.toInt_inj, show (44 : Int32).toInt = 44 from rfl]
  omega
theorem own_ncI {x : Int32} (h : own_ch x) : nar .char x = x := by
  obtain ⟨h0, h1⟩ := h
  show x.toUInt32.toUInt16.toUInt32.toInt32 = x
  have a := c_i2c x
  apply Int32.toInt_inj.mp; omega
theorem own_chc (x : Int32) : own_ch (x.toUInt32.toUInt16.toUInt32.toInt32) := by
  have a := c_i2c x; exact ⟨by omega, by omega⟩
theorem own_nlt0 {x : Int32} (h : 0 ≤ x.toInt) : ¬ x < 0 := by rw [Int32.lt_iff_toInt_lt, show (0 : Int32).toInt = 0 from rfl]; omega
theorem own_selp {y : MethodName} {s : State} {args : Array Value} {n : Nat} (hy : y.cls ≠ "java/lang/invoke/MethodHandle" ∧ y.cls ≠ "java/lang/invoke/VarHandle")
    (hins : (Cond.instantiable y.cls n).before args s = true) (hpriv : (Cond.privateMethod y).before args s = true) (hinst : (Cond.instanceMethod y).before args s = true) :
    (Cond.selects y.cls y y).before args s = true := by
  obtain ⟨c, k, hc, hk, -, hniab, -, -⟩ := Cond.instantiable_spec hins
  have hni : k.isInterface = false := (Bool.or_eq_false_iff.mp hniab).1
  obtain ⟨mk, methM, hnamed, hmethM, -, -⟩ := Cond.instanceMethod_spec hinst
  have hfound : s.methodFound? y.cls y.name y.desc = some mk := State.methodFound?_of_named hnamed hy
  have hcls : mk.cls = c := Option.some.inj ((findClass_of_methodNamed hnamed).symm.trans hc)
  have hsel : selectMethod {} s.vm c mk = .method mk := selectMethod_private hmethM (Cond.privateMethod_at hpriv mk methM hnamed hmethM)
  simp only [Cond.before, Cond.holds, Cond.value, hc, hfound, hnamed, hsel, hcls, hk]
  simp; exact hni
theorem own_w {a0 : Array Value} {Z : State} (hw : ∀ d ∈ tables_1, d.before a0 Z = true) (i : Nat) {d : Jvm.Cond} (h : tables_1[i]? = some d) : d.before a0 Z = true := hw d (List.mem_of_getElem? h)
abbrev own_S (p : Program) (e : Env) (below : List Frame) (T : State) (A B : JFrame) : Prop := ∀ target : State, Steps p.tables e below (T.setTop A) target → Steps p.tables e below (T.setTop B) target
def own_bl (c : Int32) : Prop := c = 32 ∨ c = 9
theorem own_isb (c : Int32) : (if c = (32 : Int32) then (1 : Int32) else (if c = (9 : Int32) then (1 : Int32) else (0 : Int32))) = 0 ↔ ¬ own_bl c := by
  unfold own_bl
  by_cases h1 : c = 32
  · rw [if_pos h1]; exact iff_of_false (by decide) (fun q => q (Or.inl h1))
  · rw [if_neg h1]
    by_cases h2 : c = 9
    · rw [if_pos h2]; exact iff_of_false (by decide) (fun q => q (Or.inr h2))
    · rw [if_neg h2]; exact iff_of_true rfl (fun q => q.elim h1 h2)
def own_B (k c0 c1 c2 c3 : Int32) : Prop := (k = 0 ∧ ¬ own_bl c0) ∨ (own_bl c0 ∧ ((k = 1 ∧ ¬ own_bl c1) ∨ (own_bl c1 ∧ ((k = 2 ∧ ¬ own_bl c2) ∨ (own_bl c2 ∧ k = 3 ∧ ¬ own_bl c3)))))
def own_P (k c1 c2 c3 : Int32) : Prop := (k < 1 ∧ c1 = 44) ∨ (k < 2 ∧ c2 = 44) ∨ (k < 3 ∧ c3 = 44)
theorem own_cf {z : Int32} {P : Prop} (h : z < 0 ↔ ¬ P) : ((if z < (0 : Int32) then (0 : Int32) else (1 : Int32)) = 0 ∧ ¬ P) ∨ ((if z < (0 : Int32) then (0 : Int32) else (1 : Int32)) = 1 ∧ P) := by
  by_cases a : z < 0
  · rw [if_pos a]; exact Or.inl ⟨rfl, h.mp a⟩
  · rw [if_neg a]; exact Or.inr ⟨rfl, Classical.not_not.mp (fun q => a (h.mpr q))⟩
theorem own_zr {z r : Int32} {P : Prop} (h : (z = 0 ∧ ¬ P) ∨ (z = 1 ∧ P)) (k : (r = 1 ∧ P) ∨ (r = 0 ∧ ¬ P)) : z = r := by
  rcases h with ⟨a, b⟩ | ⟨a, b⟩ <;> rcases k with ⟨c, d⟩ | ⟨c, d⟩
  · exact absurd d b
  · rw [a, c]
  · rw [a, c]
  · exact absurd b d
theorem own_tok {x : Int32} (h : own_ch x) : own_ch (if x = (32 : Int32) then (44 : Int32) else (if x = (9 : Int32) then (44 : Int32) else x)) ∧ ¬ own_bl (if x = (32 : Int32) then (44 : Int32) else (if x = (9 : Int32) then (44 : Int32) else x)) := by
  have q : own_ch 44 ∧ ¬ own_bl 44 := ⟨⟨by decide, by decide⟩, fun q => by rcases q with q | q <;> exact absurd q (by decide)⟩
  by_cases h1 : x = 32
  · rw [if_pos h1]; exact q
  · rw [if_neg h1]
    by_cases h2 : x = 9
    · rw [if_pos h2]; exact q
    · rw [if_neg h2]; exact ⟨h, fun q => q.elim h1 h2⟩
theorem own_k4 {x k : Int32} (h : k = (x &&& (3 : Int32))) : k = 0 ∨ k = 1 ∨ k = 2 ∨ k = 3 := by
  have a : (x &&& (3 : Int32)).toInt = x.toInt % 4 := c_mask _ 3 2 (by decide) rfl
  rw [← h] at a
  simp only [← Int32.toInt_inj, show (0 : Int32).toInt = 0 from rfl, show (1 : Int32).toInt = 1 from rfl, show (2 : Int32).toInt = 2 from rfl, show (3 : Int32).toInt = 3 from rfl]
  omega
theorem own_alt {P0 P1 P2 P3 : Prop} (h : ¬ (¬ P0 ∧ ¬ P1 ∧ ¬ P2 ∧ ¬ P3)) : (P0) ∨ (¬ P0 ∧ P1) ∨ (¬ P0 ∧ ¬ P1 ∧ P2) ∨ (¬ P0 ∧ ¬ P1 ∧ ¬ P2 ∧ P3) := by
  by_cases a : P0
  · exact Or.inl a
  · by_cases b : P1
    · exact Or.inr (Or.inl ⟨a, b⟩)
    · by_cases c : P2
      · exact Or.inr (Or.inr (Or.inl ⟨a, b, c⟩))
      · exact Or.inr (Or.inr (Or.inr ⟨a, b, c, Classical.not_not.mp (fun d => h ⟨a, b, c, d⟩)⟩))
theorem own_lt256 {c : Int32} (h : ¬ (255 : Int32) < c) : c.toInt < 256 := by
  rw [Int32.lt_iff_toInt_lt, show (255 : Int32).toInt = 255 from rfl] at h; omega
theorem d29_0 : decode jdk_52_method_4_code 0 = .ok (.getstatic 44, 3) := by decide +kernel
theorem d29_3 : decode jdk_52_method_4_code 3 = .ok (.ifCond .ne 25, 3) := by decide +kernel
theorem d29_28 : decode jdk_52_method_4_code 28 = .ok (.iload_n 1, 1) := by decide +kernel
theorem d29_29 : decode jdk_52_method_4_code 29 = .ok (.iconst 1, 1) := by decide +kernel
theorem d29_30 : decode jdk_52_method_4_code 30 = .ok (.ishl, 1) := by decide +kernel
theorem d29_31 : decode jdk_52_method_4_code 31 = .ok (.istore_n 1, 1) := by decide +kernel
theorem d29_32 : decode jdk_52_method_4_code 32 = .ok (.aload_n 0, 1) := by decide +kernel
theorem d29_33 : decode jdk_52_method_4_code 33 = .ok (.iload_n 1, 1) := by decide +kernel
theorem d29_34 : decode jdk_52_method_4_code 34 = .ok (.iinc 1 1, 3) := by decide +kernel
theorem d29_37 : decode jdk_52_method_4_code 37 = .ok (.iload_n 2, 1) := by decide +kernel
theorem d29_38 : decode jdk_52_method_4_code 38 = .ok (.getstatic 59, 3) := by decide +kernel
theorem d29_41 : decode jdk_52_method_4_code 41 = .ok (.ishr, 1) := by decide +kernel
theorem d29_42 : decode jdk_52_method_4_code 42 = .ok (.i2b, 1) := by decide +kernel
theorem d29_43 : decode jdk_52_method_4_code 43 = .ok (.bastore, 1) := by decide +kernel
theorem d29_44 : decode jdk_52_method_4_code 44 = .ok (.aload_n 0, 1) := by decide +kernel
theorem d29_45 : decode jdk_52_method_4_code 45 = .ok (.iload_n 1, 1) := by decide +kernel
theorem d29_46 : decode jdk_52_method_4_code 46 = .ok (.iload_n 2, 1) := by decide +kernel
theorem d29_47 : decode jdk_52_method_4_code 47 = .ok (.getstatic 63, 3) := by decide +kernel
theorem d29_50 : decode jdk_52_method_4_code 50 = .ok (.ishr, 1) := by decide +kernel
theorem d29_51 : decode jdk_52_method_4_code 51 = .ok (.i2b, 1) := by decide +kernel
theorem d29_52 : decode jdk_52_method_4_code 52 = .ok (.bastore, 1) := by decide +kernel
theorem d29_53 : decode jdk_52_method_4_code 53 = .ok (.return_, 1) := by decide +kernel
theorem pn_0 : plainName "java/lang/StringUTF16" = true := by first | (simp [plainName, overriddenIn]; done) | decide +kernel
theorem ef_rmPC0_4 (m : MethodId) (x0 : Addr) (x1 : Int32) (x2 : Int32) : entryFrame m #[(.ref x0), (.int x1), (.int x2)] 3 = mkF m 0 #[.val (.ref x0), .val (.int x1), .val (.int x2)] [] := by first | (simp [entryFrame, mkF, argsToLocals, Value.category]; done) | rfl
def Q_rmPC0_4 (Z : State) (r0 : Addr) (p2 : Int32) (cs : Int32) (fm : Value) (ky : ClassId) (b0 : Int32) (b1 : Int32) (b2 : Int32) (b3 : Int32) (b4 : Int32) (b5 : Int32) (b6 : Int32) (b7 : Int32) (h0 : Heap) (n0 : Nat) (v : Option Value) (h : Heap) (L : List Loc) : Prop := v = none ∧ Fr n0 L ∧ Keep h0 h [r0] ∧ Arv Z h r0 ky .byte (8 : Int32) [(.int (own_lo p2)), (.int (own_hi p2)), (.int b2), (.int b3), (.int b4), (.int b5), (.int b6), (.int b7)] (.int (0 : Int32))
set_option maxRecDepth 65536 in
set_option maxHeartbeats 40000000 in
theorem rmPC0_4 (l : Launch) (Z : State) (a0 : Array Value) (hw : ∀ d ∈ tables_1, d.before a0 Z = true) (ws : List Jvm.Cond) (r0 : Addr) (p2 : Int32) (cs : Int32) (fm : Value) (ky : ClassId) (b0 : Int32) (b1 : Int32) (b2 : Int32) (b3 : Int32) (b4 : Int32) (b5 : Int32) (b6 : Int32) (b7 : Int32) (h0 : Heap) (n0 : Nat) (Z0 : n0 ≤ h0.size) (SB : own_St Z cs fm) (Od : Old Z n0 h0) (Vb : Arv Z h0 r0 ky .byte (8 : Int32) [(.int b0), (.int b1), (.int b2), (.int b3), (.int b4), (.int b5), (.int b6), (.int b7)] (.int (0 : Int32))) (g_r0 : n0 ≤ r0) :
    MetFree l (⟨"java/lang/StringUTF16", "putChar", "([BII)V"⟩ : MethodName) (head1 (Jvm.Cond.code (⟨"java/lang/StringUTF16", "putChar", "([BII)V"⟩ : MethodName) jdk_52_method_4_code 3 none :: ws) ({ frames := 0, cells := 0, slots := 0, locals := 0 } : Room)) (fun a U => a = #[(.ref r0), (.int (0 : Int32)), (.int p2)] ∧ Z.Warmed39 U.vm ∧ U.heap = h0) (fun _ _ _ _ _ => True) (fun _ U o U' => ∃ v L, o = .returned v ∧ Q_rmPC0_4 Z r0 p2 cs fm ky b0 b1 b2 b3 b4 b5 b6 b7 h0 n0 v U'.heap L ∧ FrameEnd U o U' L ({ frames := 0, cells := 0, slots := 0, locals := 0 } : Room).cells ({ frames := 0, cells := 0, slots := 0, locals := 0 } : Room).slots) := by
  refine MetFree.of_bodySF (plainFor_of_name pn_0) hisR ?_
  intro p e s m args below meth c s₁ Bd hml0 hP hK
  obtain ⟨rfl, hZ, hh⟩ := hP
  have hx := Bd.exec
  have hby := Bd.bytes
  have hml : c.maxLocals = 3 := hml0
  have hown : s.vm.findClass "java/lang/StringUTF16" = some m.cls := findClass_of_methodNamed Bd.named
  have hnm := (name_of_methodNamed Bd.named Bd.method).1
  have X0 : Stand p l e ({ frames := 0, cells := 0, slots := 0, locals := 0 } : Room) s m #[(.ref r0), (.int (0 : Int32)), (.int p2)] below meth c s₁ [] 0 0 := Stand.of_body Bd
  have e0 : s₁.heap = h0 := by rw [← hh, Bd.state]; rfl
  have N0 := Fr.nil n0
  have pre0 : ∀ t, Steps p.tables e below (s₁.setTop (mkF m 0 #[.val (.ref r0), .val (.int (0 : Int32)), .val (.int p2)] [])) t → Steps p.tables e below (s₁.setTop (entryFrame m #[(.ref r0), (.int (0 : Int32)), (.int p2)] 3)) t := fun t k => castTop (ef_rmPC0_4 m r0 (0 : Int32) p2) k
  have Kp : Keep h0 h0 [r0] := Keep.refl _ _
  obtain ⟨T1, X1, e1, st1⟩ := getS2 X0 hx hZ hown (host := "") (Or.inl (own_w hw 140 rfl)) Via.refl e0 (SB.2.2.2.2.1.ext Od.2) (g := (mkF m 0 #[.val (.ref r0), .val (.int (0 : Int32)), .val (.int p2)] [])) rfl (hb hby d29_0)
  have st2 : own_S p e below T1 (mkF m 38 #[.val (.ref r0), .val (.int (1 : Int32)), .val (.int p2)] [(.int p2), (.int (0 : Int32)), (.ref r0)]) (mkF m 3 #[.val (.ref r0), .val (.int (0 : Int32)), .val (.int p2)] [(.int (1 : Int32))]) := by
    intro target kt
    refine XS.ifYes X1.here hx rfl (pc0 := 3) (pc' := 28) rfl (hb hby d29_3) rfl ((if0 _ _).trans (feq (by decide : ¬ ((1 : Int32) = (0 : Int32)))).2) (by decide) (by decide) ?_
    refine XS.iloadN X1.here hx rfl (hb hby d29_28) rfl ?_
    refine XS.iconst X1.here hx rfl (hb hby d29_29) ?_
    refine XS.ishl X1.here hx rfl (hb hby d29_30) rfl ?_
    refine XS.istoreN X1.here hx rfl (hb hby d29_31) rfl (l' := #[.val (.ref r0), .val (.int (0 : Int32)), .val (.int p2)]) rfl ?_
    refine XS.aloadN X1.here hx rfl (hb hby d29_32) rfl rfl ?_
    refine XS.iloadN X1.here hx rfl (hb hby d29_33) rfl ?_
    refine XS.iinc X1.here hx rfl (hb hby d29_34) rfl (l' := #[.val (.ref r0), .val (.int (1 : Int32)), .val (.int p2)]) rfl ?_
    refine XS.iloadN X1.here hx rfl (hb hby d29_37) rfl ?_
    exact kt
  obtain ⟨T3, X3, e3, st3⟩ := getS2 X1 hx hZ hown (host := "") (Or.inl (own_w hw 141 rfl)) Via.refl e1 (SB.2.2.2.2.2.1.ext Od.2) (g := (mkF m 38 #[.val (.ref r0), .val (.int (1 : Int32)), .val (.int p2)] [(.int p2), (.int (0 : Int32)), (.ref r0)])) rfl (hb hby d29_38)
  have st4 : own_S p e below T3 (mkF m 43 #[.val (.ref r0), .val (.int (1 : Int32)), .val (.int p2)] [(.int ((p2 >>> ((0 : Int32) &&& 31)).toInt8.toInt32)), (.int (0 : Int32)), (.ref r0)]) (mkF m 41 #[.val (.ref r0), .val (.int (1 : Int32)), .val (.int p2)] [(.int (0 : Int32)), (.int p2), (.int (0 : Int32)), (.ref r0)]) := by
    intro target kt
    refine XS.ishr X3.here hx rfl (hb hby d29_41) rfl ?_
    refine XS.i2b X3.here hx rfl (hb hby d29_42) rfl ?_
    exact kt
  obtain ⟨cl5, Ar5, qc5, Sz5, Mn5, Hs5, Gs5⟩ := id Vb
  have hin5 : ¬ ((0 : Int32) < 0 ∨ cl5.slots.size ≤ ((0 : Int32)).toNatClampNeg) := inb_of Sz5 ⟨by decide, by decide⟩
  obtain ⟨T5, h5, X5, e5, W5, st5⟩ := stB X3 hx hZ e3 Ar5 (j := (0 : Int32)) hin5 (g := (mkF m 43 #[.val (.ref r0), .val (.int (1 : Int32)), .val (.int p2)] [(.int ((p2 >>> ((0 : Int32) &&& 31)).toInt8.toInt32)), (.int (0 : Int32)), (.ref r0)])) rfl rfl (hb hby d29_43)
  have V_r0_5 : Arv Z h5 r0 ky .byte (8 : Int32) [(.int (nar .byte ((p2 >>> ((0 : Int32) &&& 31)).toInt8.toInt32))), (.int b1), (.int b2), (.int b3), (.int b4), (.int b5), (.int b6), (.int b7)] (.int (0 : Int32)) := Arv.set Ar5 qc5 Sz5 Mn5 Hs5 Gs5 (fits_nar_byte _) W5 0 rfl (Nat.le_of_ble_eq_true rfl)
  have Od_5 := Od.wr W5 g_r0
  have Z_5 : n0 ≤ h5.size := Nat.le_trans Z0 (Keep.of_wr W5).1
  have Kp_5 : Keep h0 h5 [r0] := Kp.wr W5 (Or.inl (List.mem_of_getElem? (i := 0) rfl))
  have N5 := Fr.snoc X5 N0 g_r0
  have st6 : own_S p e below T5 (mkF m 47 #[.val (.ref r0), .val (.int (1 : Int32)), .val (.int p2)] [(.int p2), (.int (1 : Int32)), (.ref r0)]) (mkF m 44 #[.val (.ref r0), .val (.int (1 : Int32)), .val (.int p2)] []) := by
    intro target kt
    refine XS.aloadN X5.here hx rfl (hb hby d29_44) rfl rfl ?_
    refine XS.iloadN X5.here hx rfl (hb hby d29_45) rfl ?_
    refine XS.iloadN X5.here hx rfl (hb hby d29_46) rfl ?_
    exact kt
  obtain ⟨T7, X7, e7, st7⟩ := getS2 X5 hx hZ hown (host := "") (Or.inl (own_w hw 142 rfl)) Via.refl e5 (SB.2.2.2.2.2.2.ext Od_5.2) (g := (mkF m 47 #[.val (.ref r0), .val (.int (1 : Int32)), .val (.int p2)] [(.int p2), (.int (1 : Int32)), (.ref r0)])) rfl (hb hby d29_47)
  have st8 : own_S p e below T7 (mkF m 52 #[.val (.ref r0), .val (.int (1 : Int32)), .val (.int p2)] [(.int ((p2 >>> ((8 : Int32) &&& 31)).toInt8.toInt32)), (.int (1 : Int32)), (.ref r0)]) (mkF m 50 #[.val (.ref r0), .val (.int (1 : Int32)), .val (.int p2)] [(.int (8 : Int32)), (.int p2), (.int (1 : Int32)), (.ref r0)]) := by
    intro target kt
    refine XS.ishr X7.here hx rfl (hb hby d29_50) rfl ?_
    refine XS.i2b X7.here hx rfl (hb hby d29_51) rfl ?_
    exact kt
  obtain ⟨cl9, Ar9, qc9, Sz9, Mn9, Hs9, Gs9⟩ := id V_r0_5
  have hin9 : ¬ ((1 : Int32) < 0 ∨ cl9.slots.size ≤ ((1 : Int32)).toNatClampNeg) := inb_of Sz9 ⟨by decide, by decide⟩
  obtain ⟨T9, h9, X9, e9, W9, st9⟩ := stB X7 hx hZ e7 Ar9 (j := (1 : Int32)) hin9 (g := (mkF m 52 #[.val (.ref r0), .val (.int (1 : Int32)), .val (.int p2)] [(.int ((p2 >>> ((8 : Int32) &&& 31)).toInt8.toInt32)), (.int (1 : Int32)), (.ref r0)])) rfl rfl (hb hby d29_52)
  have V_r0_9 : Arv Z h9 r0 ky .byte (8 : Int32) [(.int (nar .byte ((p2 >>> ((0 : Int32) &&& 31)).toInt8.toInt32))), (.int (nar .byte ((p2 >>> ((8 : Int32) &&& 31)).toInt8.toInt32))), (.int b2), (.int b3), (.int b4), (.int b5), (.int b6), (.int b7)] (.int (0 : Int32)) := Arv.set Ar9 qc9 Sz9 Mn9 Hs9 Gs9 (fits_nar_byte _) W9 1 rfl (Nat.le_of_ble_eq_true rfl)
  have Od_9 := Od_5.wr W9 g_r0
  have Z_9 : n0 ≤ h9.size := Nat.le_trans Z_5 (Keep.of_wr W9).1
  have Kp_9 : Keep h0 h9 [r0] := Kp_5.wr W9 (Or.inl (List.mem_of_getElem? (i := 0) rfl))
  have N9 := Fr.snoc X9 N5 g_r0
  obtain ⟨fs, hr, hrun, hended, hW, hsame⟩ := X9.leave (v := none) (fun _ => rfl)
  refine ⟨_, _, pre0 _ (st1 _ (st2 _ (st3 _ (st4 _ (st5 _ (st6 _ (st7 _ (st8 _ (st9 _ ?_))))))))), hrun, hended, _, _, rfl, ?_, ⟨_, rfl⟩, hW, hsame.mono (by decide) (by decide)⟩
  · show Steps p.tables e below (T9.setTop (mkF m 53 #[.val (.ref r0), .val (.int (1 : Int32)), .val (.int p2)] [])) _
    exact X9.returnOut hx Bd.returns (hb hby d29_53) hr
  · show Q_rmPC0_4 Z r0 p2 cs fm ky b0 b1 b2 b3 b4 b5 b6 b7 h0 n0 _ T9.heap _
    rw [e9]
    exact ⟨rfl, N9, Kp_9, V_r0_9⟩
theorem ef_rmPC1_4 (m : MethodId) (x0 : Addr) (x1 : Int32) (x2 : Int32) : entryFrame m #[(.ref x0), (.int x1), (.int x2)] 3 = mkF m 0 #[.val (.ref x0), .val (.int x1), .val (.int x2)] [] := by first | (simp [entryFrame, mkF, argsToLocals, Value.category]; done) | rfl
def Q_rmPC1_4 (Z : State) (r0 : Addr) (p2 : Int32) (cs : Int32) (fm : Value) (ky : ClassId) (b0 : Int32) (b1 : Int32) (b2 : Int32) (b3 : Int32) (b4 : Int32) (b5 : Int32) (b6 : Int32) (b7 : Int32) (h0 : Heap) (n0 : Nat) (v : Option Value) (h : Heap) (L : List Loc) : Prop := v = none ∧ Fr n0 L ∧ Keep h0 h [r0] ∧ Arv Z h r0 ky .byte (8 : Int32) [(.int b0), (.int b1), (.int (own_lo p2)), (.int (own_hi p2)), (.int b4), (.int b5), (.int b6), (.int b7)] (.int (0 : Int32))
set_option maxRecDepth 65536 in
set_option maxHeartbeats 40000000 in
theorem rmPC1_4 (l : Launch) (Z : State) (a0 : Array Value) (hw : ∀ d ∈ tables_1, d.before a0 Z = true) (ws : List Jvm.Cond) (r0 : Addr) (p2 : Int32) (cs : Int32) (fm : Value) (ky : ClassId) (b0 : Int32) (b1 : Int32) (b2 : Int32) (b3 : Int32) (b4 : Int32) (b5 : Int32) (b6 : Int32) (b7 : Int32) (h0 : Heap) (n0 : Nat) (Z0 : n0 ≤ h0.size) (SB : own_St Z cs fm) (Od : Old Z n0 h0) (Vb : Arv Z h0 r0 ky .byte (8 : Int32) [(.int b0), (.int b1), (.int b2), (.int b3), (.int b4), (.int b5), (.int b6), (.int b7)] (.int (0 : Int32))) (g_r0 : n0 ≤ r0) :
    MetFree l (⟨"java/lang/StringUTF16", "putChar", "([BII)V"⟩ : MethodName) (head1 (Jvm.Cond.code (⟨"java/lang/StringUTF16", "putChar", "([BII)V"⟩ : MethodName) jdk_52_method_4_code 3 none :: ws) ({ frames := 0, cells := 0, slots := 0, locals := 0 } : Room)) (fun a U => a = #[(.ref r0), (.int (1 : Int32)), (.int p2)] ∧ Z.Warmed39 U.vm ∧ U.heap = h0) (fun _ _ _ _ _ => True) (fun _ U o U' => ∃ v L, o = .returned v ∧ Q_rmPC1_4 Z r0 p2 cs fm ky b0 b1 b2 b3 b4 b5 b6 b7 h0 n0 v U'.heap L ∧ FrameEnd U o U' L ({ frames := 0, cells := 0, slots := 0, locals := 0 } : Room).cells ({ frames := 0, cells := 0, slots := 0, locals := 0 } : Room).slots) := by
  refine MetFree.of_bodySF (plainFor_of_name pn_0) hisR ?_
  intro p e s m args below meth c s₁ Bd hml0 hP hK
  obtain ⟨rfl, hZ, hh⟩ := hP
  have hx := Bd.exec
  have hby := Bd.bytes
  have hml : c.maxLocals = 3 := hml0
  have hown : s.vm.findClass "java/lang/StringUTF16" = some m.cls := findClass_of_methodNamed Bd.named
  have hnm := (name_of_methodNamed Bd.named Bd.method).1
  have X0 : Stand p l e ({ frames := 0, cells := 0, slots := 0, locals := 0 } : Room) s m #[(.ref r0), (.int (1 : Int32)), (.int p2)] below meth c s₁ [] 0 0 := Stand.of_body Bd
  have e0 : s₁.heap = h0 := by rw [← hh, Bd.state]; rfl
  have N0 := Fr.nil n0
  have pre0 : ∀ t, Steps p.tables e below (s₁.setTop (mkF m 0 #[.val (.ref r0), .val (.int (1 : Int32)), .val (.int p2)] [])) t → Steps p.tables e below (s₁.setTop (entryFrame m #[(.ref r0), (.int (1 : Int32)), (.int p2)] 3)) t := fun t k => castTop (ef_rmPC1_4 m r0 (1 : Int32) p2) k
  have Kp : Keep h0 h0 [r0] := Keep.refl _ _
  obtain ⟨T1, X1, e1, st1⟩ := getS2 X0 hx hZ hown (host := "") (Or.inl (own_w hw 140 rfl)) Via.refl e0 (SB.2.2.2.2.1.ext Od.2) (g := (mkF m 0 #[.val (.ref r0), .val (.int (1 : Int32)), .val (.int p2)] [])) rfl (hb hby d29_0)
  have st2 : own_S p e below T1 (mkF m 38 #[.val (.ref r0), .val (.int (3 : Int32)), .val (.int p2)] [(.int p2), (.int (2 : Int32)), (.ref r0)]) (mkF m 3 #[.val (.ref r0), .val (.int (1 : Int32)), .val (.int p2)] [(.int (1 : Int32))]) := by
    intro target kt
    refine XS.ifYes X1.here hx rfl (pc0 := 3) (pc' := 28) rfl (hb hby d29_3) rfl ((if0 _ _).trans (feq (by decide : ¬ ((1 : Int32) = (0 : Int32)))).2) (by decide) (by decide) ?_
    refine XS.iloadN X1.here hx rfl (hb hby d29_28) rfl ?_
    refine XS.iconst X1.here hx rfl (hb hby d29_29) ?_
    refine XS.ishl X1.here hx rfl (hb hby d29_30) rfl ?_
    refine XS.istoreN X1.here hx rfl (hb hby d29_31) rfl (l' := #[.val (.ref r0), .val (.int (2 : Int32)), .val (.int p2)]) rfl ?_
    refine XS.aloadN X1.here hx rfl (hb hby d29_32) rfl rfl ?_
    refine XS.iloadN X1.here hx rfl (hb hby d29_33) rfl ?_
    refine XS.iinc X1.here hx rfl (hb hby d29_34) rfl (l' := #[.val (.ref r0), .val (.int (3 : Int32)), .val (.int p2)]) rfl ?_
    refine XS.iloadN X1.here hx rfl (hb hby d29_37) rfl ?_
    exact kt
  obtain ⟨T3, X3, e3, st3⟩ := getS2 X1 hx hZ hown (host := "") (Or.inl (own_w hw 141 rfl)) Via.refl e1 (SB.2.2.2.2.2.1.ext Od.2) (g := (mkF m 38 #[.val (.ref r0), .val (.int (3 : Int32)), .val (.int p2)] [(.int p2), (.int (2 : Int32)), (.ref r0)])) rfl (hb hby d29_38)
  have st4 : own_S p e below T3 (mkF m 43 #[.val (.ref r0), .val (.int (3 : Int32)), .val (.int p2)] [(.int ((p2 >>> ((0 : Int32) &&& 31)).toInt8.toInt32)), (.int (2 : Int32)), (.ref r0)]) (mkF m 41 #[.val (.ref r0), .val (.int (3 : Int32)), .val (.int p2)] [(.int (0 : Int32)), (.int p2), (.int (2 : Int32)), (.ref r0)]) := by
    intro target kt
    refine XS.ishr X3.here hx rfl (hb hby d29_41) rfl ?_
    refine XS.i2b X3.here hx rfl (hb hby d29_42) rfl ?_
    exact kt
  obtain ⟨cl5, Ar5, qc5, Sz5, Mn5, Hs5, Gs5⟩ := id Vb
  have hin5 : ¬ ((2 : Int32) < 0 ∨ cl5.slots.size ≤ ((2 : Int32)).toNatClampNeg) := inb_of Sz5 ⟨by decide, by decide⟩
  obtain ⟨T5, h5, X5, e5, W5, st5⟩ := stB X3 hx hZ e3 Ar5 (j := (2 : Int32)) hin5 (g := (mkF m 43 #[.val (.ref r0), .val (.int (3 : Int32)), .val (.int p2)] [(.int ((p2 >>> ((0 : Int32) &&& 31)).toInt8.toInt32)), (.int (2 : Int32)), (.ref r0)])) rfl rfl (hb hby d29_43)
  have V_r0_5 : Arv Z h5 r0 ky .byte (8 : Int32) [(.int b0), (.int b1), (.int (nar .byte ((p2 >>> ((0 : Int32) &&& 31)).toInt8.toInt32))), (.int b3), (.int b4), (.int b5), (.int b6), (.int b7)] (.int (0 : Int32)) := Arv.set Ar5 qc5 Sz5 Mn5 Hs5 Gs5 (fits_nar_byte _) W5 2 rfl (Nat.le_of_ble_eq_true rfl)
  have Od_5 := Od.wr W5 g_r0
  have Z_5 : n0 ≤ h5.size := Nat.le_trans Z0 (Keep.of_wr W5).1
  have Kp_5 : Keep h0 h5 [r0] := Kp.wr W5 (Or.inl (List.mem_of_getElem? (i := 0) rfl))
  have N5 := Fr.snoc X5 N0 g_r0
  have st6 : own_S p e below T5 (mkF m 47 #[.val (.ref r0), .val (.int (3 : Int32)), .val (.int p2)] [(.int p2), (.int (3 : Int32)), (.ref r0)]) (mkF m 44 #[.val (.ref r0), .val (.int (3 : Int32)), .val (.int p2)] []) := by
    intro target kt
    refine XS.aloadN X5.here hx rfl (hb hby d29_44) rfl rfl ?_
    refine XS.iloadN X5.here hx rfl (hb hby d29_45) rfl ?_
    refine XS.iloadN X5.here hx rfl (hb hby d29_46) rfl ?_
    exact kt
  obtain ⟨T7, X7, e7, st7⟩ := getS2 X5 hx hZ hown (host := "") (Or.inl (own_w hw 142 rfl)) Via.refl e5 (SB.2.2.2.2.2.2.ext Od_5.2) (g := (mkF m 47 #[.val (.ref r0), .val (.int (3 : Int32)), .val (.int p2)] [(.int p2), (.int (3 : Int32)), (.ref r0)])) rfl (hb hby d29_47)
  have st8 : own_S p e below T7 (mkF m 52 #[.val (.ref r0), .val (.int (3 : Int32)), .val (.int p2)] [(.int ((p2 >>> ((8 : Int32) &&& 31)).toInt8.toInt32)), (.int (3 : Int32)), (.ref r0)]) (mkF m 50 #[.val (.ref r0), .val (.int (3 : Int32)), .val (.int p2)] [(.int (8 : Int32)), (.int p2), (.int (3 : Int32)), (.ref r0)]) := by
    intro target kt
    refine XS.ishr X7.here hx rfl (hb hby d29_50) rfl ?_
    refine XS.i2b X7.here hx rfl (hb hby d29_51) rfl ?_
    exact kt
  obtain ⟨cl9, Ar9, qc9, Sz9, Mn9, Hs9, Gs9⟩ := id V_r0_5
  have hin9 : ¬ ((3 : Int32) < 0 ∨ cl9.slots.size ≤ ((3 : Int32)).toNatClampNeg) := inb_of Sz9 ⟨by decide, by decide⟩
  obtain ⟨T9, h9, X9, e9, W9, st9⟩ := stB X7 hx hZ e7 Ar9 (j := (3 : Int32)) hin9 (g := (mkF m 52 #[.val (.ref r0), .val (.int (3 : Int32)), .val (.int p2)] [(.int ((p2 >>> ((8 : Int32) &&& 31)).toInt8.toInt32)), (.int (3 : Int32)), (.ref r0)])) rfl rfl (hb hby d29_52)
  have V_r0_9 : Arv Z h9 r0 ky .byte (8 : Int32) [(.int b0), (.int b1), (.int (nar .byte ((p2 >>> ((0 : Int32) &&& 31)).toInt8.toInt32))), (.int (nar .byte ((p2 >>> ((8 : Int32) &&& 31)).toInt8.toInt32))), (.int b4), (.int b5), (.int b6), (.int b7)] (.int (0 : Int32)) := Arv.set Ar9 qc9 Sz9 Mn9 Hs9 Gs9 (fits_nar_byte _) W9 3 rfl (Nat.le_of_ble_eq_true rfl)
  have Od_9 := Od_5.wr W9 g_r0
  have Z_9 : n0 ≤ h9.size := Nat.le_trans Z_5 (Keep.of_wr W9).1
  have Kp_9 : Keep h0 h9 [r0] := Kp_5.wr W9 (Or.inl (List.mem_of_getElem? (i := 0) rfl))
  have N9 := Fr.snoc X9 N5 g_r0
  obtain ⟨fs, hr, hrun, hended, hW, hsame⟩ := X9.leave (v := none) (fun _ => rfl)
  refine ⟨_, _, pre0 _ (st1 _ (st2 _ (st3 _ (st4 _ (st5 _ (st6 _ (st7 _ (st8 _ (st9 _ ?_))))))))), hrun, hended, _, _, rfl, ?_, ⟨_, rfl⟩, hW, hsame.mono (by decide) (by decide)⟩
  · show Steps p.tables e below (T9.setTop (mkF m 53 #[.val (.ref r0), .val (.int (3 : Int32)), .val (.int p2)] [])) _
    exact X9.returnOut hx Bd.returns (hb hby d29_53) hr
  · show Q_rmPC1_4 Z r0 p2 cs fm ky b0 b1 b2 b3 b4 b5 b6 b7 h0 n0 _ T9.heap _
    rw [e9]
    exact ⟨rfl, N9, Kp_9, V_r0_9⟩
theorem ef_rmPC2_4 (m : MethodId) (x0 : Addr) (x1 : Int32) (x2 : Int32) : entryFrame m #[(.ref x0), (.int x1), (.int x2)] 3 = mkF m 0 #[.val (.ref x0), .val (.int x1), .val (.int x2)] [] := by first | (simp [entryFrame, mkF, argsToLocals, Value.category]; done) | rfl
def Q_rmPC2_4 (Z : State) (r0 : Addr) (p2 : Int32) (cs : Int32) (fm : Value) (ky : ClassId) (b0 : Int32) (b1 : Int32) (b2 : Int32) (b3 : Int32) (b4 : Int32) (b5 : Int32) (b6 : Int32) (b7 : Int32) (h0 : Heap) (n0 : Nat) (v : Option Value) (h : Heap) (L : List Loc) : Prop := v = none ∧ Fr n0 L ∧ Keep h0 h [r0] ∧ Arv Z h r0 ky .byte (8 : Int32) [(.int b0), (.int b1), (.int b2), (.int b3), (.int (own_lo p2)), (.int (own_hi p2)), (.int b6), (.int b7)] (.int (0 : Int32))
set_option maxRecDepth 65536 in
set_option maxHeartbeats 40000000 in
theorem rmPC2_4 (l : Launch) (Z : State) (a0 : Array Value) (hw : ∀ d ∈ tables_1, d.before a0 Z = true) (ws : List Jvm.Cond) (r0 : Addr) (p2 : Int32) (cs : Int32) (fm : Value) (ky : ClassId) (b0 : Int32) (b1 : Int32) (b2 : Int32) (b3 : Int32) (b4 : Int32) (b5 : Int32) (b6 : Int32) (b7 : Int32) (h0 : Heap) (n0 : Nat) (Z0 : n0 ≤ h0.size) (SB : own_St Z cs fm) (Od : Old Z n0 h0) (Vb : Arv Z h0 r0 ky .byte (8 : Int32) [(.int b0), (.int b1), (.int b2), (.int b3), (.int b4), (.int b5), (.int b6), (.int b7)] (.int (0 : Int32))) (g_r0 : n0 ≤ r0) :
    MetFree l (⟨"java/lang/StringUTF16", "putChar", "([BII)V"⟩ : MethodName) (head1 (Jvm.Cond.code (⟨"java/lang/StringUTF16", "putChar", "([BII)V"⟩ : MethodName) jdk_52_method_4_code 3 none :: ws) ({ frames := 0, cells := 0, slots := 0, locals := 0 } : Room)) (fun a U => a = #[(.ref r0), (.int (2 : Int32)), (.int p2)] ∧ Z.Warmed39 U.vm ∧ U.heap = h0) (fun _ _ _ _ _ => True) (fun _ U o U' => ∃ v L, o = .returned v ∧ Q_rmPC2_4 Z r0 p2 cs fm ky b0 b1 b2 b3 b4 b5 b6 b7 h0 n0 v U'.heap L ∧ FrameEnd U o U' L ({ frames := 0, cells := 0, slots := 0, locals := 0 } : Room).cells ({ frames := 0, cells := 0, slots := 0, locals := 0 } : Room).slots) := by
  refine MetFree.of_bodySF (plainFor_of_name pn_0) hisR ?_
  intro p e s m args below meth c s₁ Bd hml0 hP hK
  obtain ⟨rfl, hZ, hh⟩ := hP
  have hx := Bd.exec
  have hby := Bd.bytes
  have hml : c.maxLocals = 3 := hml0
  have hown : s.vm.findClass "java/lang/StringUTF16" = some m.cls := findClass_of_methodNamed Bd.named
  have hnm := (name_of_methodNamed Bd.named Bd.method).1
  have X0 : Stand p l e ({ frames := 0, cells := 0, slots := 0, locals := 0 } : Room) s m #[(.ref r0), (.int (2 : Int32)), (.int p2)] below meth c s₁ [] 0 0 := Stand.of_body Bd
  have e0 : s₁.heap = h0 := by rw [← hh, Bd.state]; rfl
  have N0 := Fr.nil n0
  have pre0 : ∀ t, Steps p.tables e below (s₁.setTop (mkF m 0 #[.val (.ref r0), .val (.int (2 : Int32)), .val (.int p2)] [])) t → Steps p.tables e below (s₁.setTop (entryFrame m #[(.ref r0), (.int (2 : Int32)), (.int p2)] 3)) t := fun t k => castTop (ef_rmPC2_4 m r0 (2 : Int32) p2) k
  have Kp : Keep h0 h0 [r0] := Keep.refl _ _
  obtain ⟨T1, X1, e1, st1⟩ := getS2 X0 hx hZ hown (host := "") (Or.inl (own_w hw 140 rfl)) Via.refl e0 (SB.2.2.2.2.1.ext Od.2) (g := (mkF m 0 #[.val (.ref r0), .val (.int (2 : Int32)), .val (.int p2)] [])) rfl (hb hby d29_0)
  have st2 : own_S p e below T1 (mkF m 38 #[.val (.ref r0), .val (.int (5 : Int32)), .val (.int p2)] [(.int p2), (.int (4 : Int32)), (.ref r0)]) (mkF m 3 #[.val (.ref r0), .val (.int (2 : Int32)), .val (.int p2)] [(.int (1 : Int32))]) := by
    intro target kt
    refine XS.ifYes X1.here hx rfl (pc0 := 3) (pc' := 28) rfl (hb hby d29_3) rfl ((if0 _ _).trans (feq (by decide : ¬ ((1 : Int32) = (0 : Int32)))).2) (by decide) (by decide) ?_
    refine XS.iloadN X1.here hx rfl (hb hby d29_28) rfl ?_
    refine XS.iconst X1.here hx rfl (hb hby d29_29) ?_
    refine XS.ishl X1.here hx rfl (hb hby d29_30) rfl ?_
    refine XS.istoreN X1.here hx rfl (hb hby d29_31) rfl (l' := #[.val (.ref r0), .val (.int (4 : Int32)), .val (.int p2)]) rfl ?_
    refine XS.aloadN X1.here hx rfl (hb hby d29_32) rfl rfl ?_
    refine XS.iloadN X1.here hx rfl (hb hby d29_33) rfl ?_
    refine XS.iinc X1.here hx rfl (hb hby d29_34) rfl (l' := #[.val (.ref r0), .val (.int (5 : Int32)), .val (.int p2)]) rfl ?_
    refine XS.iloadN X1.here hx rfl (hb hby d29_37) rfl ?_
    exact kt
  obtain ⟨T3, X3, e3, st3⟩ := getS2 X1 hx hZ hown (host := "") (Or.inl (own_w hw 141 rfl)) Via.refl e1 (SB.2.2.2.2.2.1.ext Od.2) (g := (mkF m 38 #[.val (.ref r0), .val (.int (5 : Int32)), .val (.int p2)] [(.int p2), (.int (4 : Int32)), (.ref r0)])) rfl (hb hby d29_38)
  have st4 : own_S p e below T3 (mkF m 43 #[.val (.ref r0), .val (.int (5 : Int32)), .val (.int p2)] [(.int ((p2 >>> ((0 : Int32) &&& 31)).toInt8.toInt32)), (.int (4 : Int32)), (.ref r0)]) (mkF m 41 #[.val (.ref r0), .val (.int (5 : Int32)), .val (.int p2)] [(.int (0 : Int32)), (.int p2), (.int (4 : Int32)), (.ref r0)]) := by
    intro target kt
    refine XS.ishr X3.here hx rfl (hb hby d29_41) rfl ?_
    refine XS.i2b X3.here hx rfl (hb hby d29_42) rfl ?_
    exact kt
  obtain ⟨cl5, Ar5, qc5, Sz5, Mn5, Hs5, Gs5⟩ := id Vb
  have hin5 : ¬ ((4 : Int32) < 0 ∨ cl5.slots.size ≤ ((4 : Int32)).toNatClampNeg) := inb_of Sz5 ⟨by decide, by decide⟩
  obtain ⟨T5, h5, X5, e5, W5, st5⟩ := stB X3 hx hZ e3 Ar5 (j := (4 : Int32)) hin5 (g := (mkF m 43 #[.val (.ref r0), .val (.int (5 : Int32)), .val (.int p2)] [(.int ((p2 >>> ((0 : Int32) &&& 31)).toInt8.toInt32)), (.int (4 : Int32)), (.ref r0)])) rfl rfl (hb hby d29_43)
  have V_r0_5 : Arv Z h5 r0 ky .byte (8 : Int32) [(.int b0), (.int b1), (.int b2), (.int b3), (.int (nar .byte ((p2 >>> ((0 : Int32) &&& 31)).toInt8.toInt32))), (.int b5), (.int b6), (.int b7)] (.int (0 : Int32)) := Arv.set Ar5 qc5 Sz5 Mn5 Hs5 Gs5 (fits_nar_byte _) W5 4 rfl (Nat.le_of_ble_eq_true rfl)
  have Od_5 := Od.wr W5 g_r0
  have Z_5 : n0 ≤ h5.size := Nat.le_trans Z0 (Keep.of_wr W5).1
  have Kp_5 : Keep h0 h5 [r0] := Kp.wr W5 (Or.inl (List.mem_of_getElem? (i := 0) rfl))
  have N5 := Fr.snoc X5 N0 g_r0
  have st6 : own_S p e below T5 (mkF m 47 #[.val (.ref r0), .val (.int (5 : Int32)), .val (.int p2)] [(.int p2), (.int (5 : Int32)), (.ref r0)]) (mkF m 44 #[.val (.ref r0), .val (.int (5 : Int32)), .val (.int p2)] []) := by
    intro target kt
    refine XS.aloadN X5.here hx rfl (hb hby d29_44) rfl rfl ?_
    refine XS.iloadN X5.here hx rfl (hb hby d29_45) rfl ?_
    refine XS.iloadN X5.here hx rfl (hb hby d29_46) rfl ?_
    exact kt
  obtain ⟨T7, X7, e7, st7⟩ := getS2 X5 hx hZ hown (host := "") (Or.inl (own_w hw 142 rfl)) Via.refl e5 (SB.2.2.2.2.2.2.ext Od_5.2) (g := (mkF m 47 #[.val (.ref r0), .val (.int (5 : Int32)), .val (.int p2)] [(.int p2), (.int (5 : Int32)), (.ref r0)])) rfl (hb hby d29_47)
  have st8 : own_S p e below T7 (mkF m 52 #[.val (.ref r0), .val (.int (5 : Int32)), .val (.int p2)] [(.int ((p2 >>> ((8 : Int32) &&& 31)).toInt8.toInt32)), (.int (5 : Int32)), (.ref r0)]) (mkF m 50 #[.val (.ref r0), .val (.int (5 : Int32)), .val (.int p2)] [(.int (8 : Int32)), (.int p2), (.int (5 : Int32)), (.ref r0)]) := by
    intro target kt
    refine XS.ishr X7.here hx rfl (hb hby d29_50) rfl ?_
    refine XS.i2b X7.here hx rfl (hb hby d29_51) rfl ?_
    exact kt
  obtain ⟨cl9, Ar9, qc9, Sz9, Mn9, Hs9, Gs9⟩ := id V_r0_5
  have hin9 : ¬ ((5 : Int32) < 0 ∨ cl9.slots.size ≤ ((5 : Int32)).toNatClampNeg) := inb_of Sz9 ⟨by decide, by decide⟩
  obtain ⟨T9, h9, X9, e9, W9, st9⟩ := stB X7 hx hZ e7 Ar9 (j := (5 : Int32)) hin9 (g := (mkF m 52 #[.val (.ref r0), .val (.int (5 : Int32)), .val (.int p2)] [(.int ((p2 >>> ((8 : Int32) &&& 31)).toInt8.toInt32)), (.int (5 : Int32)), (.ref r0)])) rfl rfl (hb hby d29_52)
  have V_r0_9 : Arv Z h9 r0 ky .byte (8 : Int32) [(.int b0), (.int b1), (.int b2), (.int b3), (.int (nar .byte ((p2 >>> ((0 : Int32) &&& 31)).toInt8.toInt32))), (.int (nar .byte ((p2 >>> ((8 : Int32) &&& 31)).toInt8.toInt32))), (.int b6), (.int b7)] (.int (0 : Int32)) := Arv.set Ar9 qc9 Sz9 Mn9 Hs9 Gs9 (fits_nar_byte _) W9 5 rfl (Nat.le_of_ble_eq_true rfl)
  have Od_9 := Od_5.wr W9 g_r0
  have Z_9 : n0 ≤ h9.size := Nat.le_trans Z_5 (Keep.of_wr W9).1
  have Kp_9 : Keep h0 h9 [r0] := Kp_5.wr W9 (Or.inl (List.mem_of_getElem? (i := 0) rfl))
  have N9 := Fr.snoc X9 N5 g_r0
  obtain ⟨fs, hr, hrun, hended, hW, hsame⟩ := X9.leave (v := none) (fun _ => rfl)
  refine ⟨_, _, pre0 _ (st1 _ (st2 _ (st3 _ (st4 _ (st5 _ (st6 _ (st7 _ (st8 _ (st9 _ ?_))))))))), hrun, hended, _, _, rfl, ?_, ⟨_, rfl⟩, hW, hsame.mono (by decide) (by decide)⟩
  · show Steps p.tables e below (T9.setTop (mkF m 53 #[.val (.ref r0), .val (.int (5 : Int32)), .val (.int p2)] [])) _
    exact X9.returnOut hx Bd.returns (hb hby d29_53) hr
  · show Q_rmPC2_4 Z r0 p2 cs fm ky b0 b1 b2 b3 b4 b5 b6 b7 h0 n0 _ T9.heap _
    rw [e9]
    exact ⟨rfl, N9, Kp_9, V_r0_9⟩
theorem ef_rmPC3_4 (m : MethodId) (x0 : Addr) (x1 : Int32) (x2 : Int32) : entryFrame m #[(.ref x0), (.int x1), (.int x2)] 3 = mkF m 0 #[.val (.ref x0), .val (.int x1), .val (.int x2)] [] := by first | (simp [entryFrame, mkF, argsToLocals, Value.category]; done) | rfl
def Q_rmPC3_4 (Z : State) (r0 : Addr) (p2 : Int32) (cs : Int32) (fm : Value) (ky : ClassId) (b0 : Int32) (b1 : Int32) (b2 : Int32) (b3 : Int32) (b4 : Int32) (b5 : Int32) (b6 : Int32) (b7 : Int32) (h0 : Heap) (n0 : Nat) (v : Option Value) (h : Heap) (L : List Loc) : Prop := v = none ∧ Fr n0 L ∧ Keep h0 h [r0] ∧ Arv Z h r0 ky .byte (8 : Int32) [(.int b0), (.int b1), (.int b2), (.int b3), (.int b4), (.int b5), (.int (own_lo p2)), (.int (own_hi p2))] (.int (0 : Int32))
set_option maxRecDepth 65536 in
set_option maxHeartbeats 40000000 in
theorem rmPC3_4 (l : Launch) (Z : State) (a0 : Array Value) (hw : ∀ d ∈ tables_1, d.before a0 Z = true) (ws : List Jvm.Cond) (r0 : Addr) (p2 : Int32) (cs : Int32) (fm : Value) (ky : ClassId) (b0 : Int32) (b1 : Int32) (b2 : Int32) (b3 : Int32) (b4 : Int32) (b5 : Int32) (b6 : Int32) (b7 : Int32) (h0 : Heap) (n0 : Nat) (Z0 : n0 ≤ h0.size) (SB : own_St Z cs fm) (Od : Old Z n0 h0) (Vb : Arv Z h0 r0 ky .byte (8 : Int32) [(.int b0), (.int b1), (.int b2), (.int b3), (.int b4), (.int b5), (.int b6), (.int b7)] (.int (0 : Int32))) (g_r0 : n0 ≤ r0) :
    MetFree l (⟨"java/lang/StringUTF16", "putChar", "([BII)V"⟩ : MethodName) (head1 (Jvm.Cond.code (⟨"java/lang/StringUTF16", "putChar", "([BII)V"⟩ : MethodName) jdk_52_method_4_code 3 none :: ws) ({ frames := 0, cells := 0, slots := 0, locals := 0 } : Room)) (fun a U => a = #[(.ref r0), (.int (3 : Int32)), (.int p2)] ∧ Z.Warmed39 U.vm ∧ U.heap = h0) (fun _ _ _ _ _ => True) (fun _ U o U' => ∃ v L, o = .returned v ∧ Q_rmPC3_4 Z r0 p2 cs fm ky b0 b1 b2 b3 b4 b5 b6 b7 h0 n0 v U'.heap L ∧ FrameEnd U o U' L ({ frames := 0, cells := 0, slots := 0, locals := 0 } : Room).cells ({ frames := 0, cells := 0, slots := 0, locals := 0 } : Room).slots) := by
  refine MetFree.of_bodySF (plainFor_of_name pn_0) hisR ?_
  intro p e s m args below meth c s₁ Bd hml0 hP hK
  obtain ⟨rfl, hZ, hh⟩ := hP
  have hx := Bd.exec
  have hby := Bd.bytes
  have hml : c.maxLocals = 3 := hml0
  have hown : s.vm.findClass "java/lang/StringUTF16" = some m.cls := findClass_of_methodNamed Bd.named
  have hnm := (name_of_methodNamed Bd.named Bd.method).1
  have X0 : Stand p l e ({ frames := 0, cells := 0, slots := 0, locals := 0 } : Room) s m #[(.ref r0), (.int (3 : Int32)), (.int p2)] below meth c s₁ [] 0 0 := Stand.of_body Bd
  have e0 : s₁.heap = h0 := by rw [← hh, Bd.state]; rfl
  have N0 := Fr.nil n0
  have pre0 : ∀ t, Steps p.tables e below (s₁.setTop (mkF m 0 #[.val (.ref r0), .val (.int (3 : Int32)), .val (.int p2)] [])) t → Steps p.tables e below (s₁.setTop (entryFrame m #[(.ref r0), (.int (3 : Int32)), (.int p2)] 3)) t := fun t k => castTop (ef_rmPC3_4 m r0 (3 : Int32) p2) k
  have Kp : Keep h0 h0 [r0] := Keep.refl _ _
  obtain ⟨T1, X1, e1, st1⟩ := getS2 X0 hx hZ hown (host := "") (Or.inl (own_w hw 140 rfl)) Via.refl e0 (SB.2.2.2.2.1.ext Od.2) (g := (mkF m 0 #[.val (.ref r0), .val (.int (3 : Int32)), .val (.int p2)] [])) rfl (hb hby d29_0)
  have st2 : own_S p e below T1 (mkF m 38 #[.val (.ref r0), .val (.int (7 : Int32)), .val (.int p2)] [(.int p2), (.int (6 : Int32)), (.ref r0)]) (mkF m 3 #[.val (.ref r0), .val (.int (3 : Int32)), .val (.int p2)] [(.int (1 : Int32))]) := by
    intro target kt
    refine XS.ifYes X1.here hx rfl (pc0 := 3) (pc' := 28) rfl (hb hby d29_3) rfl ((if0 _ _).trans (feq (by decide : ¬ ((1 : Int32) = (0 : Int32)))).2) (by decide) (by decide) ?_
    refine XS.iloadN X1.here hx rfl (hb hby d29_28) rfl ?_
    refine XS.iconst X1.here hx rfl (hb hby d29_29) ?_
    refine XS.ishl X1.here hx rfl (hb hby d29_30) rfl ?_
    refine XS.istoreN X1.here hx rfl (hb hby d29_31) rfl (l' := #[.val (.ref r0), .val (.int (6 : Int32)), .val (.int p2)]) rfl ?_
    refine XS.aloadN X1.here hx rfl (hb hby d29_32) rfl rfl ?_
    refine XS.iloadN X1.here hx rfl (hb hby d29_33) rfl ?_
    refine XS.iinc X1.here hx rfl (hb hby d29_34) rfl (l' := #[.val (.ref r0), .val (.int (7 : Int32)), .val (.int p2)]) rfl ?_
    refine XS.iloadN X1.here hx rfl (hb hby d29_37) rfl ?_
    exact kt
  obtain ⟨T3, X3, e3, st3⟩ := getS2 X1 hx hZ hown (host := "") (Or.inl (own_w hw 141 rfl)) Via.refl e1 (SB.2.2.2.2.2.1.ext Od.2) (g := (mkF m 38 #[.val (.ref r0), .val (.int (7 : Int32)), .val (.int p2)] [(.int p2), (.int (6 : Int32)), (.ref r0)])) rfl (hb hby d29_38)
  have st4 : own_S p e below T3 (mkF m 43 #[.val (.ref r0), .val (.int (7 : Int32)), .val (.int p2)] [(.int ((p2 >>> ((0 : Int32) &&& 31)).toInt8.toInt32)), (.int (6 : Int32)), (.ref r0)]) (mkF m 41 #[.val (.ref r0), .val (.int (7 : Int32)), .val (.int p2)] [(.int (0 : Int32)), (.int p2), (.int (6 : Int32)), (.ref r0)]) := by
    intro target kt
    refine XS.ishr X3.here hx rfl (hb hby d29_41) rfl ?_
    refine XS.i2b X3.here hx rfl (hb hby d29_42) rfl ?_
    exact kt
  obtain ⟨cl5, Ar5, qc5, Sz5, Mn5, Hs5, Gs5⟩ := id Vb
  have hin5 : ¬ ((6 : Int32) < 0 ∨ cl5.slots.size ≤ ((6 : Int32)).toNatClampNeg) := inb_of Sz5 ⟨by decide, by decide⟩
  obtain ⟨T5, h5, X5, e5, W5, st5⟩ := stB X3 hx hZ e3 Ar5 (j := (6 : Int32)) hin5 (g := (mkF m 43 #[.val (.ref r0), .val (.int (7 : Int32)), .val (.int p2)] [(.int ((p2 >>> ((0 : Int32) &&& 31)).toInt8.toInt32)), (.int (6 : Int32)), (.ref r0)])) rfl rfl (hb hby d29_43)
  have V_r0_5 : Arv Z h5 r0 ky .byte (8 : Int32) [(.int b0), (.int b1), (.int b2), (.int b3), (.int b4), (.int b5), (.int (nar .byte ((p2 >>> ((0 : Int32) &&& 31)).toInt8.toInt32))), (.int b7)] (.int (0 : Int32)) := Arv.set Ar5 qc5 Sz5 Mn5 Hs5 Gs5 (fits_nar_byte _) W5 6 rfl (Nat.le_of_ble_eq_true rfl)
  have Od_5 := Od.wr W5 g_r0
  have Z_5 : n0 ≤ h5.size := Nat.le_trans Z0 (Keep.of_wr W5).1
  have Kp_5 : Keep h0 h5 [r0] := Kp.wr W5 (Or.inl (List.mem_of_getElem? (i := 0) rfl))
  have N5 := Fr.snoc X5 N0 g_r0
  have st6 : own_S p e below T5 (mkF m 47 #[.val (.ref r0), .val (.int (7 : Int32)), .val (.int p2)] [(.int p2), (.int (7 : Int32)), (.ref r0)]) (mkF m 44 #[.val (.ref r0), .val (.int (7 : Int32)), .val (.int p2)] []) := by
    intro target kt
    refine XS.aloadN X5.here hx rfl (hb hby d29_44) rfl rfl ?_
    refine XS.iloadN X5.here hx rfl (hb hby d29_45) rfl ?_
    refine XS.iloadN X5.here hx rfl (hb hby d29_46) rfl ?_
    exact kt
  obtain ⟨T7, X7, e7, st7⟩ := getS2 X5 hx hZ hown (host := "") (Or.inl (own_w hw 142 rfl)) Via.refl e5 (SB.2.2.2.2.2.2.ext Od_5.2) (g := (mkF m 47 #[.val (.ref r0), .val (.int (7 : Int32)), .val (.int p2)] [(.int p2), (.int (7 : Int32)), (.ref r0)])) rfl (hb hby d29_47)
  have st8 : own_S p e below T7 (mkF m 52 #[.val (.ref r0), .val (.int (7 : Int32)), .val (.int p2)] [(.int ((p2 >>> ((8 : Int32) &&& 31)).toInt8.toInt32)), (.int (7 : Int32)), (.ref r0)]) (mkF m 50 #[.val (.ref r0), .val (.int (7 : Int32)), .val (.int p2)] [(.int (8 : Int32)), (.int p2), (.int (7 : Int32)), (.ref r0)]) := by
    intro target kt
    refine XS.ishr X7.here hx rfl (hb hby d29_50) rfl ?_
    refine XS.i2b X7.here hx rfl (hb hby d29_51) rfl ?_
    exact kt
  obtain ⟨cl9, Ar9, qc9, Sz9, Mn9, Hs9, Gs9⟩ := id V_r0_5
  have hin9 : ¬ ((7 : Int32) < 0 ∨ cl9.slots.size ≤ ((7 : Int32)).toNatClampNeg) := inb_of Sz9 ⟨by decide, by decide⟩
  obtain ⟨T9, h9, X9, e9, W9, st9⟩ := stB X7 hx hZ e7 Ar9 (j := (7 : Int32)) hin9 (g := (mkF m 52 #[.val (.ref r0), .val (.int (7 : Int32)), .val (.int p2)] [(.int ((p2 >>> ((8 : Int32) &&& 31)).toInt8.toInt32)), (.int (7 : Int32)), (.ref r0)])) rfl rfl (hb hby d29_52)
  have V_r0_9 : Arv Z h9 r0 ky .byte (8 : Int32) [(.int b0), (.int b1), (.int b2), (.int b3), (.int b4), (.int b5), (.int (nar .byte ((p2 >>> ((0 : Int32) &&& 31)).toInt8.toInt32))), (.int (nar .byte ((p2 >>> ((8 : Int32) &&& 31)).toInt8.toInt32)))] (.int (0 : Int32)) := Arv.set Ar9 qc9 Sz9 Mn9 Hs9 Gs9 (fits_nar_byte _) W9 7 rfl (Nat.le_of_ble_eq_true rfl)
  have Od_9 := Od_5.wr W9 g_r0
  have Z_9 : n0 ≤ h9.size := Nat.le_trans Z_5 (Keep.of_wr W9).1
  have Kp_9 : Keep h0 h9 [r0] := Kp_5.wr W9 (Or.inl (List.mem_of_getElem? (i := 0) rfl))
  have N9 := Fr.snoc X9 N5 g_r0
  obtain ⟨fs, hr, hrun, hended, hW, hsame⟩ := X9.leave (v := none) (fun _ => rfl)
  refine ⟨_, _, pre0 _ (st1 _ (st2 _ (st3 _ (st4 _ (st5 _ (st6 _ (st7 _ (st8 _ (st9 _ ?_))))))))), hrun, hended, _, _, rfl, ?_, ⟨_, rfl⟩, hW, hsame.mono (by decide) (by decide)⟩
  · show Steps p.tables e below (T9.setTop (mkF m 53 #[.val (.ref r0), .val (.int (7 : Int32)), .val (.int p2)] [])) _
    exact X9.returnOut hx Bd.returns (hb hby d29_53) hr
  · show Q_rmPC3_4 Z r0 p2 cs fm ky b0 b1 b2 b3 b4 b5 b6 b7 h0 n0 _ T9.heap _
    rw [e9]
    exact ⟨rfl, N9, Kp_9, V_r0_9⟩
theorem d28_0 : decode jdk_52_method_3_code 0 = .ok (.iload_n 0, 1) := by decide +kernel
theorem d28_1 : decode jdk_52_method_3_code 1 = .ok (.ifCond .ge 11, 3) := by decide +kernel
theorem d28_12 : decode jdk_52_method_3_code 12 = .ok (.iload_n 0, 1) := by decide +kernel
theorem d28_13 : decode jdk_52_method_3_code 13 = .ok (.ldc 20, 2) := by decide +kernel
theorem d28_15 : decode jdk_52_method_3_code 15 = .ok (.if_icmp .lt 40, 3) := by decide +kernel
theorem d28_55 : decode jdk_52_method_3_code 55 = .ok (.iload_n 0, 1) := by decide +kernel
theorem d28_56 : decode jdk_52_method_3_code 56 = .ok (.iconst 1, 1) := by decide +kernel
theorem d28_57 : decode jdk_52_method_3_code 57 = .ok (.ishl, 1) := by decide +kernel
theorem d28_58 : decode jdk_52_method_3_code 58 = .ok (.ireturn, 1) := by decide +kernel
theorem ef_rmNL4 (m : MethodId) (x0 : Int32) : entryFrame m #[(.int x0)] 1 = mkF m 0 #[.val (.int x0)] [] := by first | (simp [entryFrame, mkF, argsToLocals, Value.category]; done) | rfl
def Q_rmNL4 (Z : State)  (h0 : Heap) (n0 : Nat) (v : Option Value) (h : Heap) (L : List Loc) : Prop := v = some (.int (8 : Int32)) ∧ Fr n0 L ∧ h = h0
set_option maxRecDepth 65536 in
set_option maxHeartbeats 40000000 in
theorem rmNL4 (l : Launch) (Z : State) (a0 : Array Value) (hw : ∀ d ∈ tables_1, d.before a0 Z = true) (ws : List Jvm.Cond)  (h0 : Heap) (n0 : Nat) (Z0 : n0 ≤ h0.size) :
    MetFree l (⟨"java/lang/StringUTF16", "newBytesLength", "(I)I"⟩ : MethodName) (head1 (Jvm.Cond.code (⟨"java/lang/StringUTF16", "newBytesLength", "(I)I"⟩ : MethodName) jdk_52_method_3_code 1 (some .int) :: ws) ({ frames := 0, cells := 0, slots := 0, locals := 0 } : Room)) (fun a U => a = #[(.int (4 : Int32))] ∧ Z.Warmed39 U.vm ∧ U.heap = h0) (fun _ _ _ _ _ => True) (fun _ U o U' => ∃ v L, o = .returned v ∧ Q_rmNL4 Z  h0 n0 v U'.heap L ∧ FrameEnd U o U' L ({ frames := 0, cells := 0, slots := 0, locals := 0 } : Room).cells ({ frames := 0, cells := 0, slots := 0, locals := 0 } : Room).slots) := by
  refine MetFree.of_bodySF (plainFor_of_name pn_0) hisR ?_
  intro p e s m args below meth c s₁ Bd hml0 hP hK
  obtain ⟨rfl, hZ, hh⟩ := hP
  have hx := Bd.exec
  have hby := Bd.bytes
  have hml : c.maxLocals = 1 := hml0
  have hown : s.vm.findClass "java/lang/StringUTF16" = some m.cls := findClass_of_methodNamed Bd.named
  have hnm := (name_of_methodNamed Bd.named Bd.method).1
  have X0 : Stand p l e ({ frames := 0, cells := 0, slots := 0, locals := 0 } : Room) s m #[(.int (4 : Int32))] below meth c s₁ [] 0 0 := Stand.of_body Bd
  have e0 : s₁.heap = h0 := by rw [← hh, Bd.state]; rfl
  have N0 := Fr.nil n0
  have pre0 : ∀ t, Steps p.tables e below (s₁.setTop (mkF m 0 #[.val (.int (4 : Int32))] [])) t → Steps p.tables e below (s₁.setTop (entryFrame m #[(.int (4 : Int32))] 1)) t := fun t k => castTop (ef_rmNL4 m (4 : Int32)) k
  obtain ⟨fs, hr, hrun, hended, hW, hsame⟩ := X0.leave (v := some (.int (8 : Int32))) (fun h => by rw [Bd.returns] at h; cases h)
  refine ⟨_, _, pre0 _ ?_, hrun, hended, _, _, rfl, ?_, ⟨_, rfl⟩, hW, hsame.mono (by decide) (by decide)⟩
  · refine XS.iloadN X0.here hx rfl (hb hby d28_0) rfl ?_
    refine XS.ifYes X0.here hx rfl (pc0 := 1) (pc' := 12) rfl (hb hby d28_1) rfl ((if0 _ _).trans (flt (by decide : ¬ ((4 : Int32) < (0 : Int32)))).2.1) (by decide) (by decide) ?_
    refine XS.iloadN X0.here hx rfl (hb hby d28_12) rfl ?_
    refine X0.ldcInt hx hown (mvT hZ (own_w hw 136 rfl)) (g := (mkF m 13 #[.val (.int (4 : Int32))] [(.int (4 : Int32))])) rfl (hb hby d28_13) _ ?_
    refine XS.icmpYes X0.here hx rfl (pc0 := 15) (pc' := 55) rfl (hb hby d28_15) rfl (tlt (by decide : ((4 : Int32) < (1073741823 : Int32)))).1 (by decide) (by decide) ?_
    refine XS.iloadN X0.here hx rfl (hb hby d28_55) rfl ?_
    refine XS.iconst X0.here hx rfl (hb hby d28_56) ?_
    refine XS.ishl X0.here hx rfl (hb hby d28_57) rfl ?_
    show Steps p.tables e below (s₁.setTop (mkF m 58 #[.val (.int (4 : Int32))] [(.int (8 : Int32))])) _
    exact retI X0 hx Bd.returns (hb hby d28_58) hr
  · show Q_rmNL4 Z  h0 n0 _ s₁.heap _
    rw [e0]
    exact ⟨rfl, N0, rfl⟩
theorem d27_0 : decode jdk_52_method_2_code 0 = .ok (.iload_n 0, 1) := by decide +kernel
theorem d27_1 : decode jdk_52_method_2_code 1 = .ok (.invokestatic 11, 3) := by decide +kernel
theorem d27_4 : decode jdk_52_method_2_code 4 = .ok (.newarray .byte, 2) := by decide +kernel
theorem d27_6 : decode jdk_52_method_2_code 6 = .ok (.areturn, 1) := by decide +kernel
theorem ef_rmNB4 (m : MethodId) (x0 : Int32) : entryFrame m #[(.int x0)] 1 = mkF m 0 #[.val (.int x0)] [] := by first | (simp [entryFrame, mkF, argsToLocals, Value.category]; done) | rfl
def Q_rmNB4 (Z : State)  (h0 : Heap) (n0 : Nat) (v : Option Value) (h : Heap) (L : List Loc) : Prop := ∃ y, v = some (.ref y) ∧ Fr n0 L ∧ Keep h0 h [] ∧ h0.size ≤ y ∧ ∃ k, Arv Z h y k .byte (8 : Int32) [(.int (0 : Int32)), (.int (0 : Int32)), (.int (0 : Int32)), (.int (0 : Int32)), (.int (0 : Int32)), (.int (0 : Int32)), (.int (0 : Int32)), (.int (0 : Int32))] (.int (0 : Int32))
set_option maxRecDepth 65536 in
set_option maxHeartbeats 40000000 in
theorem rmNB4 (l : Launch) (Z : State) (a0 : Array Value) (hw : ∀ d ∈ tables_1, d.before a0 Z = true) (ws : List Jvm.Cond)  (h0 : Heap) (n0 : Nat) (Z0 : n0 ≤ h0.size) :
    MetFree l (⟨"java/lang/StringUTF16", "newBytesFor", "(I)[B"⟩ : MethodName) (head1 (Jvm.Cond.code (⟨"java/lang/StringUTF16", "newBytesFor", "(I)[B"⟩ : MethodName) jdk_52_method_2_code 1 (some (.array .byte)) :: ws) ({ frames := 1, cells := 1, slots := 8, locals := 12 } : Room)) (fun a U => a = #[(.int (4 : Int32))] ∧ Z.Warmed39 U.vm ∧ U.heap = h0) (fun _ _ _ _ _ => True) (fun _ U o U' => ∃ v L, o = .returned v ∧ Q_rmNB4 Z  h0 n0 v U'.heap L ∧ FrameEnd U o U' L ({ frames := 1, cells := 1, slots := 8, locals := 12 } : Room).cells ({ frames := 1, cells := 1, slots := 8, locals := 12 } : Room).slots) := by
  refine MetFree.of_bodySF (plainFor_of_name pn_0) hisR ?_
  intro p e s m args below meth c s₁ Bd hml0 hP hK
  obtain ⟨rfl, hZ, hh⟩ := hP
  have hx := Bd.exec
  have hby := Bd.bytes
  have hml : c.maxLocals = 1 := hml0
  have hown : s.vm.findClass "java/lang/StringUTF16" = some m.cls := findClass_of_methodNamed Bd.named
  have hnm := (name_of_methodNamed Bd.named Bd.method).1
  have X0 : Stand p l e ({ frames := 1, cells := 1, slots := 8, locals := 12 } : Room) s m #[(.int (4 : Int32))] below meth c s₁ [] 0 0 := Stand.of_body Bd
  have e0 : s₁.heap = h0 := by rw [← hh, Bd.state]; rfl
  have N0 := Fr.nil n0
  have pre0 : ∀ t, Steps p.tables e below (s₁.setTop (mkF m 0 #[.val (.int (4 : Int32))] [])) t → Steps p.tables e below (s₁.setTop (entryFrame m #[(.int (4 : Int32))] 1)) t := fun t k => castTop (ef_rmNB4 m (4 : Int32)) k
  have Kp : Keep h0 h0 [] := Keep.refl _ _
  have st1 : own_S p e below s₁ (mkF m 1 #[.val (.int (4 : Int32))] [(.int (4 : Int32))]) (mkF m 0 #[.val (.int (4 : Int32))] []) := by
    intro target kt
    refine XS.iloadN X0.here hx rfl (hb hby d27_0) rfl ?_
    exact kt
  obtain ⟨_, _, ⟨T2, L2, k2, n2⟩, -, X2, ⟨Lc2, hQ2, l2, y2, z2⟩, st2⟩ := Jvm.LawKit.callS X0 hx (y := (⟨"java/lang/StringUTF16", "newBytesLength", "(I)I"⟩ : MethodName)) hown (mvT hZ (own_w hw 133 rfl)) (mvT hZ (own_w hw 134 rfl)) (mvT hZ (own_w hw 24 rfl)) (mvT hZ (own_w hw 135 rfl)) (by decide) (backOf (W := 0) (rmNL4 l Z a0 hw []   h0 n0 Z0 ) hZ (own_w hw 135 rfl) (own_w hw 24 rfl) (by decide) (by decide)) (g := (mkF m 1 #[.val (.int (4 : Int32))] [(.int (4 : Int32))])) rfl (by rw [hml]; rfl) (argsL := [(.int (4 : Int32))]) (rest := []) (lenOf pd_21 rfl) rfl (by show 2 * 0 + _ ≤ _; exact Nat.le_of_eq rfl) (hb hby d27_1) (fun _ _ => ⟨rfl, e0, (by decide : 0 + 0 ≤ _), (by decide : 0 + 0 ≤ _)⟩)
  dsimp only [Pt.U, Pt.locs, Pt.cells, Pt.slots] at X2 l2 y2 z2 st2 hQ2
  subst l2 y2 z2
  obtain ⟨rfl, Nq2, e2⟩ := hQ2
  have N2 := Fr.app N0 Nq2
  obtain ⟨T3, h3, k3, X3, e3, E3, A3, st3⟩ := newP X2 hx hZ (own_w hw 26 rfl) e2 (g := (mkF m 4 #[.val (.int (4 : Int32))] [(.int (8 : Int32))])) rfl (hb hby d27_4) rfl (by decide) (cap := 8) (by decide) (by decide) (by decide) (by decide)
  obtain ⟨y, g3⟩ : ∃ z, z = h0.size := ⟨_, rfl⟩
  rw [← g3] at A3 st3
  have g_y : n0 ≤ y := Nat.le_trans Z0 (Nat.le_of_eq g3.symm)
  have sz_y : h0.size ≤ y := Nat.le_trans Kp.1 (Nat.le_of_eq g3.symm)
  have Z_3 : n0 ≤ h3.size := Nat.le_trans Z0 E3.1
  have Kp_3 : Keep h0 h3 [] := Kp.ext E3
  have V_y : Arv Z h3 y k3 .byte (8 : Int32) [(.int (0 : Int32)), (.int (0 : Int32)), (.int (0 : Int32)), (.int (0 : Int32)), (.int (0 : Int32)), (.int (0 : Int32)), (.int (0 : Int32)), (.int (0 : Int32))] (.int (0 : Int32)) := (Arv.new A3 (by decide)).pad (pad_rep [] (.int (0 : Int32)) 8)
  obtain ⟨fs, hr, hrun, hended, hW, hsame⟩ := X3.leave (v := some (.ref y)) (fun h => by rw [Bd.returns] at h; cases h)
  refine ⟨_, _, pre0 _ (st1 _ (st2 _ (st3 _ ?_))), hrun, hended, _, _, rfl, ?_, ⟨_, rfl⟩, hW, hsame.mono (by decide) (by decide)⟩
  · show Steps p.tables e below (T3.setTop (mkF m 6 #[.val (.int (4 : Int32))] [(.ref y)])) _
    jvm_step X3.here [X3.here.top, hx, (hb hby d27_6), X3.method', Bd.returns, Value.isRef, FieldType.isReference]
    first | (intro acts; rw [hr _ acts rfl rfl rfl]) | rw [hr _ _ rfl rfl rfl]
    exact Steps.refl _
  · show Q_rmNB4 Z  h0 n0 _ T3.heap _
    rw [e3]
    exact ⟨y, rfl, N2, Kp_3, sz_y, _, V_y⟩
theorem d26_0 : decode jdk_52_method_14_code 0 = .ok (.iload_n 2, 1) := by decide +kernel
theorem d26_1 : decode jdk_52_method_14_code 1 = .ok (.invokestatic 107, 3) := by decide +kernel
theorem d26_4 : decode jdk_52_method_14_code 4 = .ok (.astore_n 3, 1) := by decide +kernel
theorem d26_5 : decode jdk_52_method_14_code 5 = .ok (.iconst 0, 1) := by decide +kernel
theorem d26_6 : decode jdk_52_method_14_code 6 = .ok (.istore 4, 2) := by decide +kernel
theorem d26_8 : decode jdk_52_method_14_code 8 = .ok (.iload 4, 2) := by decide +kernel
theorem d26_10 : decode jdk_52_method_14_code 10 = .ok (.iload_n 2, 1) := by decide +kernel
theorem d26_11 : decode jdk_52_method_14_code 11 = .ok (.if_icmp .ge 21, 3) := by decide +kernel
theorem d26_14 : decode jdk_52_method_14_code 14 = .ok (.aload_n 3, 1) := by decide +kernel
theorem d26_15 : decode jdk_52_method_14_code 15 = .ok (.iload 4, 2) := by decide +kernel
theorem d26_17 : decode jdk_52_method_14_code 17 = .ok (.aload_n 0, 1) := by decide +kernel
theorem d26_18 : decode jdk_52_method_14_code 18 = .ok (.iload_n 1, 1) := by decide +kernel
theorem d26_19 : decode jdk_52_method_14_code 19 = .ok (.caload, 1) := by decide +kernel
theorem d26_20 : decode jdk_52_method_14_code 20 = .ok (.invokestatic 111, 3) := by decide +kernel
theorem d26_23 : decode jdk_52_method_14_code 23 = .ok (.iinc 1 1, 3) := by decide +kernel
theorem d26_26 : decode jdk_52_method_14_code 26 = .ok (.iinc 4 1, 3) := by decide +kernel
theorem d26_29 : decode jdk_52_method_14_code 29 = .ok (.goto (-21), 3) := by decide +kernel
theorem d26_32 : decode jdk_52_method_14_code 32 = .ok (.aload_n 3, 1) := by decide +kernel
theorem d26_33 : decode jdk_52_method_14_code 33 = .ok (.areturn, 1) := by decide +kernel
theorem ef_rmTB4 (m : MethodId) (x0 : Addr) (x1 : Int32) (x2 : Int32) : entryFrame m #[(.ref x0), (.int x1), (.int x2)] 5 = mkF m 0 #[.val (.ref x0), .val (.int x1), .val (.int x2), .unset, .unset] [] := by first | (simp [entryFrame, mkF, argsToLocals, Value.category]; done) | rfl
def Q_rmTB4 (Z : State) (r0 : Addr) (cs : Int32) (fm : Value) (kc : ClassId) (c0 : Int32) (c1 : Int32) (c2 : Int32) (c3 : Int32) (h0 : Heap) (n0 : Nat) (v : Option Value) (h : Heap) (L : List Loc) : Prop := ∃ y, v = some (.ref y) ∧ Fr n0 L ∧ Keep h0 h [] ∧ h0.size ≤ y ∧ ∃ ky, Arv Z h y ky .byte (8 : Int32) [(.int (own_lo c0)), (.int (own_hi c0)), (.int (own_lo c1)), (.int (own_hi c1)), (.int (own_lo c2)), (.int (own_hi c2)), (.int (own_lo c3)), (.int (own_hi c3))] (.int (0 : Int32))
set_option maxRecDepth 65536 in
set_option maxHeartbeats 40000000 in
theorem rmTB4 (l : Launch) (Z : State) (a0 : Array Value) (hw : ∀ d ∈ tables_1, d.before a0 Z = true) (ws : List Jvm.Cond) (r0 : Addr) (cs : Int32) (fm : Value) (kc : ClassId) (c0 : Int32) (c1 : Int32) (c2 : Int32) (c3 : Int32) (h0 : Heap) (n0 : Nat) (Z0 : n0 ≤ h0.size) (SB : own_St Z cs fm) (Od : Old Z n0 h0) (Vc : Arv Z h0 r0 kc .char (4 : Int32) [(.int c0), (.int c1), (.int c2), (.int c3)] (.int (0 : Int32))) :
    MetFree l (⟨"java/lang/StringUTF16", "toBytes", "([CII)[B"⟩ : MethodName) (head1 (Jvm.Cond.code (⟨"java/lang/StringUTF16", "toBytes", "([CII)[B"⟩ : MethodName) jdk_52_method_14_code 5 (some (.array .byte)) :: ws) ({ frames := 2, cells := 1, slots := 8, locals := 24 } : Room)) (fun a U => a = #[(.ref r0), (.int (0 : Int32)), (.int (4 : Int32))] ∧ Z.Warmed39 U.vm ∧ U.heap = h0) (fun _ _ _ _ _ => True) (fun _ U o U' => ∃ v L, o = .returned v ∧ Q_rmTB4 Z r0 cs fm kc c0 c1 c2 c3 h0 n0 v U'.heap L ∧ FrameEnd U o U' L ({ frames := 2, cells := 1, slots := 8, locals := 24 } : Room).cells ({ frames := 2, cells := 1, slots := 8, locals := 24 } : Room).slots) := by
  refine MetFree.of_bodySF (plainFor_of_name pn_0) hisR ?_
  intro p e s m args below meth c s₁ Bd hml0 hP hK
  obtain ⟨rfl, hZ, hh⟩ := hP
  have hx := Bd.exec
  have hby := Bd.bytes
  have hml : c.maxLocals = 5 := hml0
  have hown : s.vm.findClass "java/lang/StringUTF16" = some m.cls := findClass_of_methodNamed Bd.named
  have hnm := (name_of_methodNamed Bd.named Bd.method).1
  have X0 : Stand p l e ({ frames := 2, cells := 1, slots := 8, locals := 24 } : Room) s m #[(.ref r0), (.int (0 : Int32)), (.int (4 : Int32))] below meth c s₁ [] 0 0 := Stand.of_body Bd
  have e0 : s₁.heap = h0 := by rw [← hh, Bd.state]; rfl
  have N0 := Fr.nil n0
  have pre0 : ∀ t, Steps p.tables e below (s₁.setTop (mkF m 0 #[.val (.ref r0), .val (.int (0 : Int32)), .val (.int (4 : Int32)), .unset, .unset] [])) t → Steps p.tables e below (s₁.setTop (entryFrame m #[(.ref r0), (.int (0 : Int32)), (.int (4 : Int32))] 5)) t := fun t k => castTop (ef_rmTB4 m r0 (0 : Int32) (4 : Int32)) k
  have Kp : Keep h0 h0 [] := Keep.refl _ _
  have st1 : own_S p e below s₁ (mkF m 1 #[.val (.ref r0), .val (.int (0 : Int32)), .val (.int (4 : Int32)), .unset, .unset] [(.int (4 : Int32))]) (mkF m 0 #[.val (.ref r0), .val (.int (0 : Int32)), .val (.int (4 : Int32)), .unset, .unset] []) := by
    intro target kt
    refine XS.iloadN X0.here hx rfl (hb hby d26_0) rfl ?_
    exact kt
  obtain ⟨_, _, ⟨T2, L2, k2, n2⟩, -, X2, ⟨Lc2, hQ2, l2, y2, z2⟩, st2⟩ := Jvm.LawKit.callS X0 hx (y := (⟨"java/lang/StringUTF16", "newBytesFor", "(I)[B"⟩ : MethodName)) hown (mvT hZ (own_w hw 130 rfl)) (mvT hZ (own_w hw 131 rfl)) (mvT hZ (own_w hw 24 rfl)) (mvT hZ (own_w hw 132 rfl)) (by decide) (backOf (W := 0) (rmNB4 l Z a0 hw []   h0 n0 Z0 ) hZ (own_w hw 132 rfl) (own_w hw 24 rfl) (by decide) (by decide)) (g := (mkF m 1 #[.val (.ref r0), .val (.int (0 : Int32)), .val (.int (4 : Int32)), .unset, .unset] [(.int (4 : Int32))])) rfl (by rw [hml]; rfl) (argsL := [(.int (4 : Int32))]) (rest := []) (lenOf pd_20 rfl) rfl (by show 2 * 0 + _ ≤ _; exact Nat.le_of_eq rfl) (hb hby d26_1) (fun _ _ => ⟨rfl, e0, (by decide : 0 + 1 ≤ _), (by decide : 0 + 8 ≤ _)⟩)
  dsimp only [Pt.U, Pt.locs, Pt.cells, Pt.slots] at X2 l2 y2 z2 st2 hQ2
  subst l2 y2 z2
  obtain ⟨y2, rfl, Nq2, K2, sz2, ky, Vy⟩ := hQ2
  have N2 := Fr.app N0 Nq2
  have g_y2 : n0 ≤ y2 := Nat.le_trans Z0 sz2
  have sz_y2 : h0.size ≤ y2 := Nat.le_trans Kp.1 sz2
  have ne_r0_y2 : r0 ≠ y2 := Nat.ne_of_lt (Nat.lt_of_lt_of_le Vc.lt sz2)
  have Od_2 := Od.keep K2 (all0)
  have Vc_2 := Vc.keep K2 nin0
  have Z_2 : n0 ≤ T2.heap.size := Nat.le_trans Z0 K2.1
  have Kp_2 : Keep h0 T2.heap [] := Kp.trans K2 (all0)
  have st3 : own_S p e below T2 (mkF m 19 #[.val (.ref r0), .val (.int (0 : Int32)), .val (.int (4 : Int32)), .val (.ref y2), .val (.int (0 : Int32))] [(.int (0 : Int32)), (.ref r0), (.int (0 : Int32)), (.ref y2)]) (mkF m 4 #[.val (.ref r0), .val (.int (0 : Int32)), .val (.int (4 : Int32)), .unset, .unset] [(.ref y2)]) := by
    intro target kt
    refine XS.astoreN X2.here hx rfl (hb hby d26_4) rfl rfl (l' := #[.val (.ref r0), .val (.int (0 : Int32)), .val (.int (4 : Int32)), .val (.ref y2), .unset]) rfl ?_
    refine XS.iconst X2.here hx rfl (hb hby d26_5) ?_
    refine XS.istore X2.here hx rfl (hb hby d26_6) rfl (l' := #[.val (.ref r0), .val (.int (0 : Int32)), .val (.int (4 : Int32)), .val (.ref y2), .val (.int (0 : Int32))]) rfl ?_
    refine XS.iload X2.here hx rfl (hb hby d26_8) rfl ?_
    refine XS.iloadN X2.here hx rfl (hb hby d26_10) rfl ?_
    refine XS.icmpNo X2.here hx rfl (hb hby d26_11) rfl (tlt (by decide : ((0 : Int32) < (4 : Int32)))).2.1 ?_
    refine XS.aloadN X2.here hx rfl (hb hby d26_14) rfl rfl ?_
    refine XS.iload X2.here hx rfl (hb hby d26_15) rfl ?_
    refine XS.aloadN X2.here hx rfl (hb hby d26_17) rfl rfl ?_
    refine XS.iloadN X2.here hx rfl (hb hby d26_18) rfl ?_
    exact kt
  obtain ⟨cl4, Ar4, qc4, Sz4, Mn4, Hs4, Gs4⟩ := id Vc_2
  have hin4 : ¬ ((0 : Int32) < 0 ∨ cl4.slots.size ≤ ((0 : Int32)).toNatClampNeg) := inb_of Sz4 ⟨by decide, by decide⟩
  have hat4 : cl4.slots[((0 : Int32)).toNatClampNeg]? = some (.int c0) := Hs4.at hin4 rfl
  have st4 : own_S p e below T2 (mkF m 20 #[.val (.ref r0), .val (.int (0 : Int32)), .val (.int (4 : Int32)), .val (.ref y2), .val (.int (0 : Int32))] [(.int c0), (.int (0 : Int32)), (.ref y2)]) (mkF m 19 #[.val (.ref r0), .val (.int (0 : Int32)), .val (.int (4 : Int32)), .val (.ref y2), .val (.int (0 : Int32))] [(.int (0 : Int32)), (.ref r0), (.int (0 : Int32)), (.ref y2)]) := fun target kt => X2.caload hx (j := (0 : Int32)) (v := (.int c0)) Ar4.1 (State.isArrayOf_alike hZ.alike Ar4.2.1) Ar4.2.2 hin4 hat4 (g := (mkF m 19 #[.val (.ref r0), .val (.int (0 : Int32)), .val (.int (4 : Int32)), .val (.ref y2), .val (.int (0 : Int32))] [(.int (0 : Int32)), (.ref r0), (.int (0 : Int32)), (.ref y2)])) rfl rfl (hb hby d26_19) _ kt
  obtain ⟨_, _, ⟨T5, L5, k5, n5⟩, -, X5, ⟨Lc5, hQ5, l5, y5, z5⟩, st5⟩ := Jvm.LawKit.callS X2 hx (y := (⟨"java/lang/StringUTF16", "putChar", "([BII)V"⟩ : MethodName)) hown (mvT hZ (own_w hw 137 rfl)) (mvT hZ (own_w hw 138 rfl)) (mvT hZ (own_w hw 24 rfl)) (mvT hZ (own_w hw 139 rfl)) (by decide) (backOf (W := 0) (rmPC0_4 l Z a0 hw [] y2 c0 cs fm ky (0 : Int32) (0 : Int32) (0 : Int32) (0 : Int32) (0 : Int32) (0 : Int32) (0 : Int32) (0 : Int32) T2.heap n0 Z_2 SB Od_2 Vy g_y2) hZ (own_w hw 139 rfl) (own_w hw 24 rfl) (by decide) (by decide)) (g := (mkF m 20 #[.val (.ref r0), .val (.int (0 : Int32)), .val (.int (4 : Int32)), .val (.ref y2), .val (.int (0 : Int32))] [(.int c0), (.int (0 : Int32)), (.ref y2)])) rfl (by rw [hml]; rfl) (argsL := [(.ref y2), (.int (0 : Int32)), (.int c0)]) (rest := []) (lenOf pd_22 rfl) rfl (by show 2 * 0 + _ ≤ _; exact Nat.le_of_eq rfl) (hb hby d26_20) (fun _ _ => ⟨rfl, rfl, (by decide : 1 + 0 ≤ _), (by decide : 8 + 0 ≤ _)⟩)
  dsimp only [Pt.U, Pt.locs, Pt.cells, Pt.slots] at X5 l5 y5 z5 st5 hQ5
  subst l5 y5 z5
  obtain ⟨rfl, Nq5, K5, Vy5⟩ := hQ5
  have N5 := Fr.app N2 Nq5
  have Od_5 := Od_2.keep K5 (allS g_y2 (all0))
  have Vc_5 := Vc_2.keep K5 (ninS ne_r0_y2 nin0)
  have Z_5 : n0 ≤ T5.heap.size := Nat.le_trans Z_2 K5.1
  have Kp_5 : Keep h0 T5.heap [] := Kp_2.trans K5 (allS (Or.inr sz_y2) (all0))
  have st6 : own_S p e below T5 (mkF m 19 #[.val (.ref r0), .val (.int (1 : Int32)), .val (.int (4 : Int32)), .val (.ref y2), .val (.int (1 : Int32))] [(.int (1 : Int32)), (.ref r0), (.int (1 : Int32)), (.ref y2)]) (mkF m 23 #[.val (.ref r0), .val (.int (0 : Int32)), .val (.int (4 : Int32)), .val (.ref y2), .val (.int (0 : Int32))] []) := by
    intro target kt
    refine XS.iinc X5.here hx rfl (hb hby d26_23) rfl (l' := #[.val (.ref r0), .val (.int (1 : Int32)), .val (.int (4 : Int32)), .val (.ref y2), .val (.int (0 : Int32))]) rfl ?_
    refine XS.iinc X5.here hx rfl (hb hby d26_26) rfl (l' := #[.val (.ref r0), .val (.int (1 : Int32)), .val (.int (4 : Int32)), .val (.ref y2), .val (.int (1 : Int32))]) rfl ?_
    refine XS.goto X5.here hx rfl (pc0 := 29) (pc' := 8) rfl (hb hby d26_29) (by decide) (by decide) ?_
    refine XS.iload X5.here hx rfl (hb hby d26_8) rfl ?_
    refine XS.iloadN X5.here hx rfl (hb hby d26_10) rfl ?_
    refine XS.icmpNo X5.here hx rfl (hb hby d26_11) rfl (tlt (by decide : ((1 : Int32) < (4 : Int32)))).2.1 ?_
    refine XS.aloadN X5.here hx rfl (hb hby d26_14) rfl rfl ?_
    refine XS.iload X5.here hx rfl (hb hby d26_15) rfl ?_
    refine XS.aloadN X5.here hx rfl (hb hby d26_17) rfl rfl ?_
    refine XS.iloadN X5.here hx rfl (hb hby d26_18) rfl ?_
    exact kt
  obtain ⟨cl7, Ar7, qc7, Sz7, Mn7, Hs7, Gs7⟩ := id Vc_5
  have hin7 : ¬ ((1 : Int32) < 0 ∨ cl7.slots.size ≤ ((1 : Int32)).toNatClampNeg) := inb_of Sz7 ⟨by decide, by decide⟩
  have hat7 : cl7.slots[((1 : Int32)).toNatClampNeg]? = some (.int c1) := Hs7.at hin7 rfl
  have st7 : own_S p e below T5 (mkF m 20 #[.val (.ref r0), .val (.int (1 : Int32)), .val (.int (4 : Int32)), .val (.ref y2), .val (.int (1 : Int32))] [(.int c1), (.int (1 : Int32)), (.ref y2)]) (mkF m 19 #[.val (.ref r0), .val (.int (1 : Int32)), .val (.int (4 : Int32)), .val (.ref y2), .val (.int (1 : Int32))] [(.int (1 : Int32)), (.ref r0), (.int (1 : Int32)), (.ref y2)]) := fun target kt => X5.caload hx (j := (1 : Int32)) (v := (.int c1)) Ar7.1 (State.isArrayOf_alike hZ.alike Ar7.2.1) Ar7.2.2 hin7 hat7 (g := (mkF m 19 #[.val (.ref r0), .val (.int (1 : Int32)), .val (.int (4 : Int32)), .val (.ref y2), .val (.int (1 : Int32))] [(.int (1 : Int32)), (.ref r0), (.int (1 : Int32)), (.ref y2)])) rfl rfl (hb hby d26_19) _ kt
  obtain ⟨_, _, ⟨T8, L8, k8, n8⟩, -, X8, ⟨Lc8, hQ8, l8, y8, z8⟩, st8⟩ := Jvm.LawKit.callS X5 hx (y := (⟨"java/lang/StringUTF16", "putChar", "([BII)V"⟩ : MethodName)) hown (mvT hZ (own_w hw 137 rfl)) (mvT hZ (own_w hw 138 rfl)) (mvT hZ (own_w hw 24 rfl)) (mvT hZ (own_w hw 139 rfl)) (by decide) (backOf (W := 0) (rmPC1_4 l Z a0 hw [] y2 c1 cs fm ky (own_lo c0) (own_hi c0) (0 : Int32) (0 : Int32) (0 : Int32) (0 : Int32) (0 : Int32) (0 : Int32) T5.heap n0 Z_5 SB Od_5 Vy5 g_y2) hZ (own_w hw 139 rfl) (own_w hw 24 rfl) (by decide) (by decide)) (g := (mkF m 20 #[.val (.ref r0), .val (.int (1 : Int32)), .val (.int (4 : Int32)), .val (.ref y2), .val (.int (1 : Int32))] [(.int c1), (.int (1 : Int32)), (.ref y2)])) rfl (by rw [hml]; rfl) (argsL := [(.ref y2), (.int (1 : Int32)), (.int c1)]) (rest := []) (lenOf pd_22 rfl) rfl (by show 2 * 0 + _ ≤ _; exact Nat.le_of_eq rfl) (hb hby d26_20) (fun _ _ => ⟨rfl, rfl, (by decide : 1 + 0 ≤ _), (by decide : 8 + 0 ≤ _)⟩)
  dsimp only [Pt.U, Pt.locs, Pt.cells, Pt.slots] at X8 l8 y8 z8 st8 hQ8
  subst l8 y8 z8
  obtain ⟨rfl, Nq8, K8, Vy8⟩ := hQ8
  have N8 := Fr.app N5 Nq8
  have Od_8 := Od_5.keep K8 (allS g_y2 (all0))
  have Vc_8 := Vc_5.keep K8 (ninS ne_r0_y2 nin0)
  have Z_8 : n0 ≤ T8.heap.size := Nat.le_trans Z_5 K8.1
  have Kp_8 : Keep h0 T8.heap [] := Kp_5.trans K8 (allS (Or.inr sz_y2) (all0))
  have st9 : own_S p e below T8 (mkF m 19 #[.val (.ref r0), .val (.int (2 : Int32)), .val (.int (4 : Int32)), .val (.ref y2), .val (.int (2 : Int32))] [(.int (2 : Int32)), (.ref r0), (.int (2 : Int32)), (.ref y2)]) (mkF m 23 #[.val (.ref r0), .val (.int (1 : Int32)), .val (.int (4 : Int32)), .val (.ref y2), .val (.int (1 : Int32))] []) := by
    intro target kt
    refine XS.iinc X8.here hx rfl (hb hby d26_23) rfl (l' := #[.val (.ref r0), .val (.int (2 : Int32)), .val (.int (4 : Int32)), .val (.ref y2), .val (.int (1 : Int32))]) rfl ?_
    refine XS.iinc X8.here hx rfl (hb hby d26_26) rfl (l' := #[.val (.ref r0), .val (.int (2 : Int32)), .val (.int (4 : Int32)), .val (.ref y2), .val (.int (2 : Int32))]) rfl ?_
    refine XS.goto X8.here hx rfl (pc0 := 29) (pc' := 8) rfl (hb hby d26_29) (by decide) (by decide) ?_
    refine XS.iload X8.here hx rfl (hb hby d26_8) rfl ?_
    refine XS.iloadN X8.here hx rfl (hb hby d26_10) rfl ?_
    refine XS.icmpNo X8.here hx rfl (hb hby d26_11) rfl (tlt (by decide : ((2 : Int32) < (4 : Int32)))).2.1 ?_
    refine XS.aloadN X8.here hx rfl (hb hby d26_14) rfl rfl ?_
    refine XS.iload X8.here hx rfl (hb hby d26_15) rfl ?_
    refine XS.aloadN X8.here hx rfl (hb hby d26_17) rfl rfl ?_
    refine XS.iloadN X8.here hx rfl (hb hby d26_18) rfl ?_
    exact kt
  obtain ⟨cl10, Ar10, qc10, Sz10, Mn10, Hs10, Gs10⟩ := id Vc_8
  have hin10 : ¬ ((2 : Int32) < 0 ∨ cl10.slots.size ≤ ((2 : Int32)).toNatClampNeg) := inb_of Sz10 ⟨by decide, by decide⟩
  have hat10 : cl10.slots[((2 : Int32)).toNatClampNeg]? = some (.int c2) := Hs10.at hin10 rfl
  have st10 : own_S p e below T8 (mkF m 20 #[.val (.ref r0), .val (.int (2 : Int32)), .val (.int (4 : Int32)), .val (.ref y2), .val (.int (2 : Int32))] [(.int c2), (.int (2 : Int32)), (.ref y2)]) (mkF m 19 #[.val (.ref r0), .val (.int (2 : Int32)), .val (.int (4 : Int32)), .val (.ref y2), .val (.int (2 : Int32))] [(.int (2 : Int32)), (.ref r0), (.int (2 : Int32)), (.ref y2)]) := fun target kt => X8.caload hx (j := (2 : Int32)) (v := (.int c2)) Ar10.1 (State.isArrayOf_alike hZ.alike Ar10.2.1) Ar10.2.2 hin10 hat10 (g := (mkF m 19 #[.val (.ref r0), .val (.int (2 : Int32)), .val (.int (4 : Int32)), .val (.ref y2), .val (.int (2 : Int32))] [(.int (2 : Int32)), (.ref r0), (.int (2 : Int32)), (.ref y2)])) rfl rfl (hb hby d26_19) _ kt
  obtain ⟨_, _, ⟨T11, L11, k11, n11⟩, -, X11, ⟨Lc11, hQ11, l11, y11, z11⟩, st11⟩ := Jvm.LawKit.callS X8 hx (y := (⟨"java/lang/StringUTF16", "putChar", "([BII)V"⟩ : MethodName)) hown (mvT hZ (own_w hw 137 rfl)) (mvT hZ (own_w hw 138 rfl)) (mvT hZ (own_w hw 24 rfl)) (mvT hZ (own_w hw 139 rfl)) (by decide) (backOf (W := 0) (rmPC2_4 l Z a0 hw [] y2 c2 cs fm ky (own_lo c0) (own_hi c0) (own_lo c1) (own_hi c1) (0 : Int32) (0 : Int32) (0 : Int32) (0 : Int32) T8.heap n0 Z_8 SB Od_8 Vy8 g_y2) hZ (own_w hw 139 rfl) (own_w hw 24 rfl) (by decide) (by decide)) (g := (mkF m 20 #[.val (.ref r0), .val (.int (2 : Int32)), .val (.int (4 : Int32)), .val (.ref y2), .val (.int (2 : Int32))] [(.int c2), (.int (2 : Int32)), (.ref y2)])) rfl (by rw [hml]; rfl) (argsL := [(.ref y2), (.int (2 : Int32)), (.int c2)]) (rest := []) (lenOf pd_22 rfl) rfl (by show 2 * 0 + _ ≤ _; exact Nat.le_of_eq rfl) (hb hby d26_20) (fun _ _ => ⟨rfl, rfl, (by decide : 1 + 0 ≤ _), (by decide : 8 + 0 ≤ _)⟩)
  dsimp only [Pt.U, Pt.locs, Pt.cells, Pt.slots] at X11 l11 y11 z11 st11 hQ11
  subst l11 y11 z11
  obtain ⟨rfl, Nq11, K11, Vy11⟩ := hQ11
  have N11 := Fr.app N8 Nq11
  have Od_11 := Od_8.keep K11 (allS g_y2 (all0))
  have Vc_11 := Vc_8.keep K11 (ninS ne_r0_y2 nin0)
  have Z_11 : n0 ≤ T11.heap.size := Nat.le_trans Z_8 K11.1
  have Kp_11 : Keep h0 T11.heap [] := Kp_8.trans K11 (allS (Or.inr sz_y2) (all0))
  have st12 : own_S p e below T11 (mkF m 19 #[.val (.ref r0), .val (.int (3 : Int32)), .val (.int (4 : Int32)), .val (.ref y2), .val (.int (3 : Int32))] [(.int (3 : Int32)), (.ref r0), (.int (3 : Int32)), (.ref y2)]) (mkF m 23 #[.val (.ref r0), .val (.int (2 : Int32)), .val (.int (4 : Int32)), .val (.ref y2), .val (.int (2 : Int32))] []) := by
    intro target kt
    refine XS.iinc X11.here hx rfl (hb hby d26_23) rfl (l' := #[.val (.ref r0), .val (.int (3 : Int32)), .val (.int (4 : Int32)), .val (.ref y2), .val (.int (2 : Int32))]) rfl ?_
    refine XS.iinc X11.here hx rfl (hb hby d26_26) rfl (l' := #[.val (.ref r0), .val (.int (3 : Int32)), .val (.int (4 : Int32)), .val (.ref y2), .val (.int (3 : Int32))]) rfl ?_
    refine XS.goto X11.here hx rfl (pc0 := 29) (pc' := 8) rfl (hb hby d26_29) (by decide) (by decide) ?_
    refine XS.iload X11.here hx rfl (hb hby d26_8) rfl ?_
    refine XS.iloadN X11.here hx rfl (hb hby d26_10) rfl ?_
    refine XS.icmpNo X11.here hx rfl (hb hby d26_11) rfl (tlt (by decide : ((3 : Int32) < (4 : Int32)))).2.1 ?_
    refine XS.aloadN X11.here hx rfl (hb hby d26_14) rfl rfl ?_
    refine XS.iload X11.here hx rfl (hb hby d26_15) rfl ?_
    refine XS.aloadN X11.here hx rfl (hb hby d26_17) rfl rfl ?_
    refine XS.iloadN X11.here hx rfl (hb hby d26_18) rfl ?_
    exact kt
  obtain ⟨cl13, Ar13, qc13, Sz13, Mn13, Hs13, Gs13⟩ := id Vc_11
  have hin13 : ¬ ((3 : Int32) < 0 ∨ cl13.slots.size ≤ ((3 : Int32)).toNatClampNeg) := inb_of Sz13 ⟨by decide, by decide⟩
  have hat13 : cl13.slots[((3 : Int32)).toNatClampNeg]? = some (.int c3) := Hs13.at hin13 rfl
  have st13 : own_S p e below T11 (mkF m 20 #[.val (.ref r0), .val (.int (3 : Int32)), .val (.int (4 : Int32)), .val (.ref y2), .val (.int (3 : Int32))] [(.int c3), (.int (3 : Int32)), (.ref y2)]) (mkF m 19 #[.val (.ref r0), .val (.int (3 : Int32)), .val (.int (4 : Int32)), .val (.ref y2), .val (.int (3 : Int32))] [(.int (3 : Int32)), (.ref r0), (.int (3 : Int32)), (.ref y2)]) := fun target kt => X11.caload hx (j := (3 : Int32)) (v := (.int c3)) Ar13.1 (State.isArrayOf_alike hZ.alike Ar13.2.1) Ar13.2.2 hin13 hat13 (g := (mkF m 19 #[.val (.ref r0), .val (.int (3 : Int32)), .val (.int (4 : Int32)), .val (.ref y2), .val (.int (3 : Int32))] [(.int (3 : Int32)), (.ref r0), (.int (3 : Int32)), (.ref y2)])) rfl rfl (hb hby d26_19) _ kt
  obtain ⟨_, _, ⟨T14, L14, k14, n14⟩, -, X14, ⟨Lc14, hQ14, l14, y14, z14⟩, st14⟩ := Jvm.LawKit.callS X11 hx (y := (⟨"java/lang/StringUTF16", "putChar", "([BII)V"⟩ : MethodName)) hown (mvT hZ (own_w hw 137 rfl)) (mvT hZ (own_w hw 138 rfl)) (mvT hZ (own_w hw 24 rfl)) (mvT hZ (own_w hw 139 rfl)) (by decide) (backOf (W := 0) (rmPC3_4 l Z a0 hw [] y2 c3 cs fm ky (own_lo c0) (own_hi c0) (own_lo c1) (own_hi c1) (own_lo c2) (own_hi c2) (0 : Int32) (0 : Int32) T11.heap n0 Z_11 SB Od_11 Vy11 g_y2) hZ (own_w hw 139 rfl) (own_w hw 24 rfl) (by decide) (by decide)) (g := (mkF m 20 #[.val (.ref r0), .val (.int (3 : Int32)), .val (.int (4 : Int32)), .val (.ref y2), .val (.int (3 : Int32))] [(.int c3), (.int (3 : Int32)), (.ref y2)])) rfl (by rw [hml]; rfl) (argsL := [(.ref y2), (.int (3 : Int32)), (.int c3)]) (rest := []) (lenOf pd_22 rfl) rfl (by show 2 * 0 + _ ≤ _; exact Nat.le_of_eq rfl) (hb hby d26_20) (fun _ _ => ⟨rfl, rfl, (by decide : 1 + 0 ≤ _), (by decide : 8 + 0 ≤ _)⟩)
  dsimp only [Pt.U, Pt.locs, Pt.cells, Pt.slots] at X14 l14 y14 z14 st14 hQ14
  subst l14 y14 z14
  obtain ⟨rfl, Nq14, K14, Vy14⟩ := hQ14
  have N14 := Fr.app N11 Nq14
  have Od_14 := Od_11.keep K14 (allS g_y2 (all0))
  have Vc_14 := Vc_11.keep K14 (ninS ne_r0_y2 nin0)
  have Z_14 : n0 ≤ T14.heap.size := Nat.le_trans Z_11 K14.1
  have Kp_14 : Keep h0 T14.heap [] := Kp_11.trans K14 (allS (Or.inr sz_y2) (all0))
  obtain ⟨fs, hr, hrun, hended, hW, hsame⟩ := X14.leave (v := some (.ref y2)) (fun h => by rw [Bd.returns] at h; cases h)
  refine ⟨_, _, pre0 _ (st1 _ (st2 _ (st3 _ (st4 _ (st5 _ (st6 _ (st7 _ (st8 _ (st9 _ (st10 _ (st11 _ (st12 _ (st13 _ (st14 _ ?_)))))))))))))), hrun, hended, _, _, rfl, ?_, ⟨_, rfl⟩, hW, hsame.mono (by decide) (by decide)⟩
  · refine XS.iinc X14.here hx rfl (hb hby d26_23) rfl (l' := #[.val (.ref r0), .val (.int (4 : Int32)), .val (.int (4 : Int32)), .val (.ref y2), .val (.int (3 : Int32))]) rfl ?_
    refine XS.iinc X14.here hx rfl (hb hby d26_26) rfl (l' := #[.val (.ref r0), .val (.int (4 : Int32)), .val (.int (4 : Int32)), .val (.ref y2), .val (.int (4 : Int32))]) rfl ?_
    refine XS.goto X14.here hx rfl (pc0 := 29) (pc' := 8) rfl (hb hby d26_29) (by decide) (by decide) ?_
    refine XS.iload X14.here hx rfl (hb hby d26_8) rfl ?_
    refine XS.iloadN X14.here hx rfl (hb hby d26_10) rfl ?_
    refine XS.icmpYes X14.here hx rfl (pc0 := 11) (pc' := 32) rfl (hb hby d26_11) rfl (flt (by decide : ¬ ((4 : Int32) < (4 : Int32)))).2.1 (by decide) (by decide) ?_
    refine XS.aloadN X14.here hx rfl (hb hby d26_32) rfl rfl ?_
    show Steps p.tables e below (T14.setTop (mkF m 33 #[.val (.ref r0), .val (.int (4 : Int32)), .val (.int (4 : Int32)), .val (.ref y2), .val (.int (4 : Int32))] [(.ref y2)])) _
    jvm_step X14.here [X14.here.top, hx, (hb hby d26_33), X14.method', Bd.returns, Value.isRef, FieldType.isReference]
    first | (intro acts; rw [hr _ acts rfl rfl rfl]) | rw [hr _ _ rfl rfl rfl]
    exact Steps.refl _
  · show Q_rmTB4 Z r0 cs fm kc c0 c1 c2 c3 h0 n0 _ T14.heap _
    exact ⟨y2, rfl, N14, Kp_14, sz_y2, _, Vy14⟩
theorem d30_0 : decode jdk_52_method_5_code 0 = .ok (.getstatic 44, 3) := by decide +kernel
theorem d30_3 : decode jdk_52_method_5_code 3 = .ok (.ifCond .ne 25, 3) := by decide +kernel
theorem d30_28 : decode jdk_52_method_5_code 28 = .ok (.iload_n 1, 1) := by decide +kernel
theorem d30_29 : decode jdk_52_method_5_code 29 = .ok (.iconst 1, 1) := by decide +kernel
theorem d30_30 : decode jdk_52_method_5_code 30 = .ok (.ishl, 1) := by decide +kernel
theorem d30_31 : decode jdk_52_method_5_code 31 = .ok (.istore_n 1, 1) := by decide +kernel
theorem d30_32 : decode jdk_52_method_5_code 32 = .ok (.aload_n 0, 1) := by decide +kernel
theorem d30_33 : decode jdk_52_method_5_code 33 = .ok (.iload_n 1, 1) := by decide +kernel
theorem d30_34 : decode jdk_52_method_5_code 34 = .ok (.iinc 1 1, 3) := by decide +kernel
theorem d30_37 : decode jdk_52_method_5_code 37 = .ok (.baload, 1) := by decide +kernel
theorem d30_38 : decode jdk_52_method_5_code 38 = .ok (.sipush 255, 3) := by decide +kernel
theorem d30_41 : decode jdk_52_method_5_code 41 = .ok (.iand, 1) := by decide +kernel
theorem d30_42 : decode jdk_52_method_5_code 42 = .ok (.getstatic 59, 3) := by decide +kernel
theorem d30_45 : decode jdk_52_method_5_code 45 = .ok (.ishl, 1) := by decide +kernel
theorem d30_46 : decode jdk_52_method_5_code 46 = .ok (.aload_n 0, 1) := by decide +kernel
theorem d30_47 : decode jdk_52_method_5_code 47 = .ok (.iload_n 1, 1) := by decide +kernel
theorem d30_48 : decode jdk_52_method_5_code 48 = .ok (.baload, 1) := by decide +kernel
theorem d30_49 : decode jdk_52_method_5_code 49 = .ok (.sipush 255, 3) := by decide +kernel
theorem d30_52 : decode jdk_52_method_5_code 52 = .ok (.iand, 1) := by decide +kernel
theorem d30_53 : decode jdk_52_method_5_code 53 = .ok (.getstatic 63, 3) := by decide +kernel
theorem d30_56 : decode jdk_52_method_5_code 56 = .ok (.ishl, 1) := by decide +kernel
theorem d30_57 : decode jdk_52_method_5_code 57 = .ok (.ior, 1) := by decide +kernel
theorem d30_58 : decode jdk_52_method_5_code 58 = .ok (.i2c, 1) := by decide +kernel
theorem d30_59 : decode jdk_52_method_5_code 59 = .ok (.ireturn, 1) := by decide +kernel
theorem ef_rmGC0_U4 (m : MethodId) (x0 : Addr) (x1 : Int32) : entryFrame m #[(.ref x0), (.int x1)] 2 = mkF m 0 #[.val (.ref x0), .val (.int x1)] [] := by first | (simp [entryFrame, mkF, argsToLocals, Value.category]; done) | rfl
def Q_rmGC0_U4 (Z : State) (r0 : Addr) (cs : Int32) (fm : Value) (ky : ClassId) (c0 : Int32) (c1 : Int32) (c2 : Int32) (c3 : Int32) (h0 : Heap) (n0 : Nat) (v : Option Value) (h : Heap) (L : List Loc) : Prop := v = some (.int c0) ∧ Fr n0 L ∧ h = h0
set_option maxRecDepth 65536 in
set_option maxHeartbeats 40000000 in
theorem rmGC0_U4 (l : Launch) (Z : State) (a0 : Array Value) (hw : ∀ d ∈ tables_1, d.before a0 Z = true) (ws : List Jvm.Cond) (r0 : Addr) (cs : Int32) (fm : Value) (ky : ClassId) (c0 : Int32) (c1 : Int32) (c2 : Int32) (c3 : Int32) (h0 : Heap) (n0 : Nat) (Z0 : n0 ≤ h0.size) (SB : own_St Z cs fm) (Od : Old Z n0 h0) (Vy : Arv Z h0 r0 ky .byte (8 : Int32) [(.int (own_lo c0)), (.int (own_hi c0)), (.int (own_lo c1)), (.int (own_hi c1)), (.int (own_lo c2)), (.int (own_hi c2)), (.int (own_lo c3)), (.int (own_hi c3))] (.int (0 : Int32))) (hc0_ : own_ch c0) :
    MetFree l (⟨"java/lang/StringUTF16", "getChar", "([BI)C"⟩ : MethodName) (head1 (Jvm.Cond.code (⟨"java/lang/StringUTF16", "getChar", "([BI)C"⟩ : MethodName) jdk_52_method_5_code 2 (some .char) :: ws) ({ frames := 0, cells := 0, slots := 0, locals := 0 } : Room)) (fun a U => a = #[(.ref r0), (.int (0 : Int32))] ∧ Z.Warmed39 U.vm ∧ U.heap = h0) (fun _ _ _ _ _ => True) (fun _ U o U' => ∃ v L, o = .returned v ∧ Q_rmGC0_U4 Z r0 cs fm ky c0 c1 c2 c3 h0 n0 v U'.heap L ∧ FrameEnd U o U' L ({ frames := 0, cells := 0, slots := 0, locals := 0 } : Room).cells ({ frames := 0, cells := 0, slots := 0, locals := 0 } : Room).slots) := by
  refine MetFree.of_bodySF (plainFor_of_name pn_0) hisR ?_
  intro p e s m args below meth c s₁ Bd hml0 hP hK
  obtain ⟨rfl, hZ, hh⟩ := hP
  have hx := Bd.exec
  have hby := Bd.bytes
  have hml : c.maxLocals = 2 := hml0
  have hown : s.vm.findClass "java/lang/StringUTF16" = some m.cls := findClass_of_methodNamed Bd.named
  have hnm := (name_of_methodNamed Bd.named Bd.method).1
  have X0 : Stand p l e ({ frames := 0, cells := 0, slots := 0, locals := 0 } : Room) s m #[(.ref r0), (.int (0 : Int32))] below meth c s₁ [] 0 0 := Stand.of_body Bd
  have e0 : s₁.heap = h0 := by rw [← hh, Bd.state]; rfl
  have N0 := Fr.nil n0
  have pre0 : ∀ t, Steps p.tables e below (s₁.setTop (mkF m 0 #[.val (.ref r0), .val (.int (0 : Int32))] [])) t → Steps p.tables e below (s₁.setTop (entryFrame m #[(.ref r0), (.int (0 : Int32))] 2)) t := fun t k => castTop (ef_rmGC0_U4 m r0 (0 : Int32)) k
  obtain ⟨T1, X1, e1, st1⟩ := getS2 X0 hx hZ hown (host := "") (Or.inl (own_w hw 140 rfl)) Via.refl e0 (SB.2.2.2.2.1.ext Od.2) (g := (mkF m 0 #[.val (.ref r0), .val (.int (0 : Int32))] [])) rfl (hb hby d30_0)
  have st2 : own_S p e below T1 (mkF m 37 #[.val (.ref r0), .val (.int (1 : Int32))] [(.int (0 : Int32)), (.ref r0)]) (mkF m 3 #[.val (.ref r0), .val (.int (0 : Int32))] [(.int (1 : Int32))]) := by
    intro target kt
    refine XS.ifYes X1.here hx rfl (pc0 := 3) (pc' := 28) rfl (hb hby d30_3) rfl ((if0 _ _).trans (feq (by decide : ¬ ((1 : Int32) = (0 : Int32)))).2) (by decide) (by decide) ?_
    refine XS.iloadN X1.here hx rfl (hb hby d30_28) rfl ?_
    refine XS.iconst X1.here hx rfl (hb hby d30_29) ?_
    refine XS.ishl X1.here hx rfl (hb hby d30_30) rfl ?_
    refine XS.istoreN X1.here hx rfl (hb hby d30_31) rfl (l' := #[.val (.ref r0), .val (.int (0 : Int32))]) rfl ?_
    refine XS.aloadN X1.here hx rfl (hb hby d30_32) rfl rfl ?_
    refine XS.iloadN X1.here hx rfl (hb hby d30_33) rfl ?_
    refine XS.iinc X1.here hx rfl (hb hby d30_34) rfl (l' := #[.val (.ref r0), .val (.int (1 : Int32))]) rfl ?_
    exact kt
  obtain ⟨cl3, Ar3, qc3, Sz3, Mn3, Hs3, Gs3⟩ := id Vy
  have hin3 : ¬ ((0 : Int32) < 0 ∨ cl3.slots.size ≤ ((0 : Int32)).toNatClampNeg) := inb_of Sz3 ⟨by decide, by decide⟩
  have hat3 : cl3.slots[((0 : Int32)).toNatClampNeg]? = some (.int (own_lo c0)) := Hs3.at hin3 rfl
  have st3 : own_S p e below T1 (mkF m 38 #[.val (.ref r0), .val (.int (1 : Int32))] [(.int (own_lo c0))]) (mkF m 37 #[.val (.ref r0), .val (.int (1 : Int32))] [(.int (0 : Int32)), (.ref r0)]) := fun target kt => X1.baloadBytes hx (j := (0 : Int32)) (v := (.int (own_lo c0))) (by rw [e1]; exact Ar3.1) (State.isArrayOf_alike hZ.alike Ar3.2.1) Ar3.2.2 hin3 hat3 (g := (mkF m 37 #[.val (.ref r0), .val (.int (1 : Int32))] [(.int (0 : Int32)), (.ref r0)])) rfl rfl (hb hby d30_37) _ kt
  have st4 : own_S p e below T1 (mkF m 42 #[.val (.ref r0), .val (.int (1 : Int32))] [(.int ((own_lo c0) &&& (255 : Int32)))]) (mkF m 38 #[.val (.ref r0), .val (.int (1 : Int32))] [(.int (own_lo c0))]) := by
    intro target kt
    refine XS.sipush X1.here hx rfl (hb hby d30_38) ?_
    refine XS.iand X1.here hx rfl (hb hby d30_41) rfl ?_
    exact kt
  obtain ⟨T5, X5, e5, st5⟩ := getS2 X1 hx hZ hown (host := "") (Or.inl (own_w hw 141 rfl)) Via.refl e1 (SB.2.2.2.2.2.1.ext Od.2) (g := (mkF m 42 #[.val (.ref r0), .val (.int (1 : Int32))] [(.int ((own_lo c0) &&& (255 : Int32)))])) rfl (hb hby d30_42)
  have st6 : own_S p e below T5 (mkF m 48 #[.val (.ref r0), .val (.int (1 : Int32))] [(.int (1 : Int32)), (.ref r0), (.int (((own_lo c0) &&& (255 : Int32)) <<< ((0 : Int32) &&& 31)))]) (mkF m 45 #[.val (.ref r0), .val (.int (1 : Int32))] [(.int (0 : Int32)), (.int ((own_lo c0) &&& (255 : Int32)))]) := by
    intro target kt
    refine XS.ishl X5.here hx rfl (hb hby d30_45) rfl ?_
    refine XS.aloadN X5.here hx rfl (hb hby d30_46) rfl rfl ?_
    refine XS.iloadN X5.here hx rfl (hb hby d30_47) rfl ?_
    exact kt
  obtain ⟨cl7, Ar7, qc7, Sz7, Mn7, Hs7, Gs7⟩ := id Vy
  have hin7 : ¬ ((1 : Int32) < 0 ∨ cl7.slots.size ≤ ((1 : Int32)).toNatClampNeg) := inb_of Sz7 ⟨by decide, by decide⟩
  have hat7 : cl7.slots[((1 : Int32)).toNatClampNeg]? = some (.int (own_hi c0)) := Hs7.at hin7 rfl
  have st7 : own_S p e below T5 (mkF m 49 #[.val (.ref r0), .val (.int (1 : Int32))] [(.int (own_hi c0)), (.int (((own_lo c0) &&& (255 : Int32)) <<< ((0 : Int32) &&& 31)))]) (mkF m 48 #[.val (.ref r0), .val (.int (1 : Int32))] [(.int (1 : Int32)), (.ref r0), (.int (((own_lo c0) &&& (255 : Int32)) <<< ((0 : Int32) &&& 31)))]) := fun target kt => X5.baloadBytes hx (j := (1 : Int32)) (v := (.int (own_hi c0))) (by rw [e5]; exact Ar7.1) (State.isArrayOf_alike hZ.alike Ar7.2.1) Ar7.2.2 hin7 hat7 (g := (mkF m 48 #[.val (.ref r0), .val (.int (1 : Int32))] [(.int (1 : Int32)), (.ref r0), (.int (((own_lo c0) &&& (255 : Int32)) <<< ((0 : Int32) &&& 31)))])) rfl rfl (hb hby d30_48) _ kt
  have st8 : own_S p e below T5 (mkF m 53 #[.val (.ref r0), .val (.int (1 : Int32))] [(.int ((own_hi c0) &&& (255 : Int32))), (.int (((own_lo c0) &&& (255 : Int32)) <<< ((0 : Int32) &&& 31)))]) (mkF m 49 #[.val (.ref r0), .val (.int (1 : Int32))] [(.int (own_hi c0)), (.int (((own_lo c0) &&& (255 : Int32)) <<< ((0 : Int32) &&& 31)))]) := by
    intro target kt
    refine XS.sipush X5.here hx rfl (hb hby d30_49) ?_
    refine XS.iand X5.here hx rfl (hb hby d30_52) rfl ?_
    exact kt
  obtain ⟨T9, X9, e9, st9⟩ := getS2 X5 hx hZ hown (host := "") (Or.inl (own_w hw 142 rfl)) Via.refl e5 (SB.2.2.2.2.2.2.ext Od.2) (g := (mkF m 53 #[.val (.ref r0), .val (.int (1 : Int32))] [(.int ((own_hi c0) &&& (255 : Int32))), (.int (((own_lo c0) &&& (255 : Int32)) <<< ((0 : Int32) &&& 31)))])) rfl (hb hby d30_53)
  obtain ⟨fs, hr, hrun, hended, hW, hsame⟩ := X9.leave (v := some (.int (nar .char (((((own_lo c0) &&& (255 : Int32)) <<< ((0 : Int32) &&& 31)) ||| (((own_hi c0) &&& (255 : Int32)) <<< ((8 : Int32) &&& 31))).toUInt32.toUInt16.toUInt32.toInt32)))) (fun h => by rw [Bd.returns] at h; cases h)
  refine ⟨_, _, pre0 _ (st1 _ (st2 _ (st3 _ (st4 _ (st5 _ (st6 _ (st7 _ (st8 _ (st9 _ ?_))))))))), hrun, hended, _, _, rfl, ?_, ⟨_, rfl⟩, hW, hsame.mono (by decide) (by decide)⟩
  · refine XS.ishl X9.here hx rfl (hb hby d30_56) rfl ?_
    refine XS.ior X9.here hx rfl (hb hby d30_57) rfl ?_
    refine XS.i2c X9.here hx rfl (hb hby d30_58) rfl ?_
    show Steps p.tables e below (T9.setTop (mkF m 59 #[.val (.ref r0), .val (.int (1 : Int32))] [(.int (((((own_lo c0) &&& (255 : Int32)) <<< ((0 : Int32) &&& 31)) ||| (((own_hi c0) &&& (255 : Int32)) <<< ((8 : Int32) &&& 31))).toUInt32.toUInt16.toUInt32.toInt32))])) _
    exact retN X9 hx (t := .char) Bd.returns (by simp) (hb hby d30_59) hr
  · show Q_rmGC0_U4 Z r0 cs fm ky c0 c1 c2 c3 h0 n0 _ T9.heap _
    rw [e9]
    exact ⟨congrArg (fun z => some (Value.int z)) (own_gc_eq hc0_), N0, rfl⟩
theorem ef_rmGC1_U4 (m : MethodId) (x0 : Addr) (x1 : Int32) : entryFrame m #[(.ref x0), (.int x1)] 2 = mkF m 0 #[.val (.ref x0), .val (.int x1)] [] := by first | (simp [entryFrame, mkF, argsToLocals, Value.category]; done) | rfl
def Q_rmGC1_U4 (Z : State) (r0 : Addr) (cs : Int32) (fm : Value) (ky : ClassId) (c0 : Int32) (c1 : Int32) (c2 : Int32) (c3 : Int32) (h0 : Heap) (n0 : Nat) (v : Option Value) (h : Heap) (L : List Loc) : Prop := v = some (.int c1) ∧ Fr n0 L ∧ h = h0
set_option maxRecDepth 65536 in
set_option maxHeartbeats 40000000 in
theorem rmGC1_U4 (l : Launch) (Z : State) (a0 : Array Value) (hw : ∀ d ∈ tables_1, d.before a0 Z = true) (ws : List Jvm.Cond) (r0 : Addr) (cs : Int32) (fm : Value) (ky : ClassId) (c0 : Int32) (c1 : Int32) (c2 : Int32) (c3 : Int32) (h0 : Heap) (n0 : Nat) (Z0 : n0 ≤ h0.size) (SB : own_St Z cs fm) (Od : Old Z n0 h0) (Vy : Arv Z h0 r0 ky .byte (8 : Int32) [(.int (own_lo c0)), (.int (own_hi c0)), (.int (own_lo c1)), (.int (own_hi c1)), (.int (own_lo c2)), (.int (own_hi c2)), (.int (own_lo c3)), (.int (own_hi c3))] (.int (0 : Int32))) (hc1_ : own_ch c1) :
    MetFree l (⟨"java/lang/StringUTF16", "getChar", "([BI)C"⟩ : MethodName) (head1 (Jvm.Cond.code (⟨"java/lang/StringUTF16", "getChar", "([BI)C"⟩ : MethodName) jdk_52_method_5_code 2 (some .char) :: ws) ({ frames := 0, cells := 0, slots := 0, locals := 0 } : Room)) (fun a U => a = #[(.ref r0), (.int (1 : Int32))] ∧ Z.Warmed39 U.vm ∧ U.heap = h0) (fun _ _ _ _ _ => True) (fun _ U o U' => ∃ v L, o = .returned v ∧ Q_rmGC1_U4 Z r0 cs fm ky c0 c1 c2 c3 h0 n0 v U'.heap L ∧ FrameEnd U o U' L ({ frames := 0, cells := 0, slots := 0, locals := 0 } : Room).cells ({ frames := 0, cells := 0, slots := 0, locals := 0 } : Room).slots) := by
  refine MetFree.of_bodySF (plainFor_of_name pn_0) hisR ?_
  intro p e s m args below meth c s₁ Bd hml0 hP hK
  obtain ⟨rfl, hZ, hh⟩ := hP
  have hx := Bd.exec
  have hby := Bd.bytes
  have hml : c.maxLocals = 2 := hml0
  have hown : s.vm.findClass "java/lang/StringUTF16" = some m.cls := findClass_of_methodNamed Bd.named
  have hnm := (name_of_methodNamed Bd.named Bd.method).1
  have X0 : Stand p l e ({ frames := 0, cells := 0, slots := 0, locals := 0 } : Room) s m #[(.ref r0), (.int (1 : Int32))] below meth c s₁ [] 0 0 := Stand.of_body Bd
  have e0 : s₁.heap = h0 := by rw [← hh, Bd.state]; rfl
  have N0 := Fr.nil n0
  have pre0 : ∀ t, Steps p.tables e below (s₁.setTop (mkF m 0 #[.val (.ref r0), .val (.int (1 : Int32))] [])) t → Steps p.tables e below (s₁.setTop (entryFrame m #[(.ref r0), (.int (1 : Int32))] 2)) t := fun t k => castTop (ef_rmGC1_U4 m r0 (1 : Int32)) k
  obtain ⟨T1, X1, e1, st1⟩ := getS2 X0 hx hZ hown (host := "") (Or.inl (own_w hw 140 rfl)) Via.refl e0 (SB.2.2.2.2.1.ext Od.2) (g := (mkF m 0 #[.val (.ref r0), .val (.int (1 : Int32))] [])) rfl (hb hby d30_0)
  have st2 : own_S p e below T1 (mkF m 37 #[.val (.ref r0), .val (.int (3 : Int32))] [(.int (2 : Int32)), (.ref r0)]) (mkF m 3 #[.val (.ref r0), .val (.int (1 : Int32))] [(.int (1 : Int32))]) := by
    intro target kt
    refine XS.ifYes X1.here hx rfl (pc0 := 3) (pc' := 28) rfl (hb hby d30_3) rfl ((if0 _ _).trans (feq (by decide : ¬ ((1 : Int32) = (0 : Int32)))).2) (by decide) (by decide) ?_
    refine XS.iloadN X1.here hx rfl (hb hby d30_28) rfl ?_
    refine XS.iconst X1.here hx rfl (hb hby d30_29) ?_
    refine XS.ishl X1.here hx rfl (hb hby d30_30) rfl ?_
    refine XS.istoreN X1.here hx rfl (hb hby d30_31) rfl (l' := #[.val (.ref r0), .val (.int (2 : Int32))]) rfl ?_
    refine XS.aloadN X1.here hx rfl (hb hby d30_32) rfl rfl ?_
    refine XS.iloadN X1.here hx rfl (hb hby d30_33) rfl ?_
    refine XS.iinc X1.here hx rfl (hb hby d30_34) rfl (l' := #[.val (.ref r0), .val (.int (3 : Int32))]) rfl ?_
    exact kt
  obtain ⟨cl3, Ar3, qc3, Sz3, Mn3, Hs3, Gs3⟩ := id Vy
  have hin3 : ¬ ((2 : Int32) < 0 ∨ cl3.slots.size ≤ ((2 : Int32)).toNatClampNeg) := inb_of Sz3 ⟨by decide, by decide⟩
  have hat3 : cl3.slots[((2 : Int32)).toNatClampNeg]? = some (.int (own_lo c1)) := Hs3.at hin3 rfl
  have st3 : own_S p e below T1 (mkF m 38 #[.val (.ref r0), .val (.int (3 : Int32))] [(.int (own_lo c1))]) (mkF m 37 #[.val (.ref r0), .val (.int (3 : Int32))] [(.int (2 : Int32)), (.ref r0)]) := fun target kt => X1.baloadBytes hx (j := (2 : Int32)) (v := (.int (own_lo c1))) (by rw [e1]; exact Ar3.1) (State.isArrayOf_alike hZ.alike Ar3.2.1) Ar3.2.2 hin3 hat3 (g := (mkF m 37 #[.val (.ref r0), .val (.int (3 : Int32))] [(.int (2 : Int32)), (.ref r0)])) rfl rfl (hb hby d30_37) _ kt
  have st4 : own_S p e below T1 (mkF m 42 #[.val (.ref r0), .val (.int (3 : Int32))] [(.int ((own_lo c1) &&& (255 : Int32)))]) (mkF m 38 #[.val (.ref r0), .val (.int (3 : Int32))] [(.int (own_lo c1))]) := by
    intro target kt
    refine XS.sipush X1.here hx rfl (hb hby d30_38) ?_
    refine XS.iand X1.here hx rfl (hb hby d30_41) rfl ?_
    exact kt
  obtain ⟨T5, X5, e5, st5⟩ := getS2 X1 hx hZ hown (host := "") (Or.inl (own_w hw 141 rfl)) Via.refl e1 (SB.2.2.2.2.2.1.ext Od.2) (g := (mkF m 42 #[.val (.ref r0), .val (.int (3 : Int32))] [(.int ((own_lo c1) &&& (255 : Int32)))])) rfl (hb hby d30_42)
  have st6 : own_S p e below T5 (mkF m 48 #[.val (.ref r0), .val (.int (3 : Int32))] [(.int (3 : Int32)), (.ref r0), (.int (((own_lo c1) &&& (255 : Int32)) <<< ((0 : Int32) &&& 31)))]) (mkF m 45 #[.val (.ref r0), .val (.int (3 : Int32))] [(.int (0 : Int32)), (.int ((own_lo c1) &&& (255 : Int32)))]) := by
    intro target kt
    refine XS.ishl X5.here hx rfl (hb hby d30_45) rfl ?_
    refine XS.aloadN X5.here hx rfl (hb hby d30_46) rfl rfl ?_
    refine XS.iloadN X5.here hx rfl (hb hby d30_47) rfl ?_
    exact kt
  obtain ⟨cl7, Ar7, qc7, Sz7, Mn7, Hs7, Gs7⟩ := id Vy
  have hin7 : ¬ ((3 : Int32) < 0 ∨ cl7.slots.size ≤ ((3 : Int32)).toNatClampNeg) := inb_of Sz7 ⟨by decide, by decide⟩
  have hat7 : cl7.slots[((3 : Int32)).toNatClampNeg]? = some (.int (own_hi c1)) := Hs7.at hin7 rfl
  have st7 : own_S p e below T5 (mkF m 49 #[.val (.ref r0), .val (.int (3 : Int32))] [(.int (own_hi c1)), (.int (((own_lo c1) &&& (255 : Int32)) <<< ((0 : Int32) &&& 31)))]) (mkF m 48 #[.val (.ref r0), .val (.int (3 : Int32))] [(.int (3 : Int32)), (.ref r0), (.int (((own_lo c1) &&& (255 : Int32)) <<< ((0 : Int32) &&& 31)))]) := fun target kt => X5.baloadBytes hx (j := (3 : Int32)) (v := (.int (own_hi c1))) (by rw [e5]; exact Ar7.1) (State.isArrayOf_alike hZ.alike Ar7.2.1) Ar7.2.2 hin7 hat7 (g := (mkF m 48 #[.val (.ref r0), .val (.int (3 : Int32))] [(.int (3 : Int32)), (.ref r0), (.int (((own_lo c1) &&& (255 : Int32)) <<< ((0 : Int32) &&& 31)))])) rfl rfl (hb hby d30_48) _ kt
  have st8 : own_S p e below T5 (mkF m 53 #[.val (.ref r0), .val (.int (3 : Int32))] [(.int ((own_hi c1) &&& (255 : Int32))), (.int (((own_lo c1) &&& (255 : Int32)) <<< ((0 : Int32) &&& 31)))]) (mkF m 49 #[.val (.ref r0), .val (.int (3 : Int32))] [(.int (own_hi c1)), (.int (((own_lo c1) &&& (255 : Int32)) <<< ((0 : Int32) &&& 31)))]) := by
    intro target kt
    refine XS.sipush X5.here hx rfl (hb hby d30_49) ?_
    refine XS.iand X5.here hx rfl (hb hby d30_52) rfl ?_
    exact kt
  obtain ⟨T9, X9, e9, st9⟩ := getS2 X5 hx hZ hown (host := "") (Or.inl (own_w hw 142 rfl)) Via.refl e5 (SB.2.2.2.2.2.2.ext Od.2) (g := (mkF m 53 #[.val (.ref r0), .val (.int (3 : Int32))] [(.int ((own_hi c1) &&& (255 : Int32))), (.int (((own_lo c1) &&& (255 : Int32)) <<< ((0 : Int32) &&& 31)))])) rfl (hb hby d30_53)
  obtain ⟨fs, hr, hrun, hended, hW, hsame⟩ := X9.leave (v := some (.int (nar .char (((((own_lo c1) &&& (255 : Int32)) <<< ((0 : Int32) &&& 31)) ||| (((own_hi c1) &&& (255 : Int32)) <<< ((8 : Int32) &&& 31))).toUInt32.toUInt16.toUInt32.toInt32)))) (fun h => by rw [Bd.returns] at h; cases h)
  refine ⟨_, _, pre0 _ (st1 _ (st2 _ (st3 _ (st4 _ (st5 _ (st6 _ (st7 _ (st8 _ (st9 _ ?_))))))))), hrun, hended, _, _, rfl, ?_, ⟨_, rfl⟩, hW, hsame.mono (by decide) (by decide)⟩
  · refine XS.ishl X9.here hx rfl (hb hby d30_56) rfl ?_
    refine XS.ior X9.here hx rfl (hb hby d30_57) rfl ?_
    refine XS.i2c X9.here hx rfl (hb hby d30_58) rfl ?_
    show Steps p.tables e below (T9.setTop (mkF m 59 #[.val (.ref r0), .val (.int (3 : Int32))] [(.int (((((own_lo c1) &&& (255 : Int32)) <<< ((0 : Int32) &&& 31)) ||| (((own_hi c1) &&& (255 : Int32)) <<< ((8 : Int32) &&& 31))).toUInt32.toUInt16.toUInt32.toInt32))])) _
    exact retN X9 hx (t := .char) Bd.returns (by simp) (hb hby d30_59) hr
  · show Q_rmGC1_U4 Z r0 cs fm ky c0 c1 c2 c3 h0 n0 _ T9.heap _
    rw [e9]
    exact ⟨congrArg (fun z => some (Value.int z)) (own_gc_eq hc1_), N0, rfl⟩
theorem ef_rmGC2_U4 (m : MethodId) (x0 : Addr) (x1 : Int32) : entryFrame m #[(.ref x0), (.int x1)] 2 = mkF m 0 #[.val (.ref x0), .val (.int x1)] [] := by first | (simp [entryFrame, mkF, argsToLocals, Value.category]; done) | rfl
def Q_rmGC2_U4 (Z : State) (r0 : Addr) (cs : Int32) (fm : Value) (ky : ClassId) (c0 : Int32) (c1 : Int32) (c2 : Int32) (c3 : Int32) (h0 : Heap) (n0 : Nat) (v : Option Value) (h : Heap) (L : List Loc) : Prop := v = some (.int c2) ∧ Fr n0 L ∧ h = h0
set_option maxRecDepth 65536 in
set_option maxHeartbeats 40000000 in
theorem rmGC2_U4 (l : Launch) (Z : State) (a0 : Array Value) (hw : ∀ d ∈ tables_1, d.before a0 Z = true) (ws : List Jvm.Cond) (r0 : Addr) (cs : Int32) (fm : Value) (ky : ClassId) (c0 : Int32) (c1 : Int32) (c2 : Int32) (c3 : Int32) (h0 : Heap) (n0 : Nat) (Z0 : n0 ≤ h0.size) (SB : own_St Z cs fm) (Od : Old Z n0 h0) (Vy : Arv Z h0 r0 ky .byte (8 : Int32) [(.int (own_lo c0)), (.int (own_hi c0)), (.int (own_lo c1)), (.int (own_hi c1)), (.int (own_lo c2)), (.int (own_hi c2)), (.int (own_lo c3)), (.int (own_hi c3))] (.int (0 : Int32))) (hc2_ : own_ch c2) :
    MetFree l (⟨"java/lang/StringUTF16", "getChar", "([BI)C"⟩ : MethodName) (head1 (Jvm.Cond.code (⟨"java/lang/StringUTF16", "getChar", "([BI)C"⟩ : MethodName) jdk_52_method_5_code 2 (some .char) :: ws) ({ frames := 0, cells := 0, slots := 0, locals := 0 } : Room)) (fun a U => a = #[(.ref r0), (.int (2 : Int32))] ∧ Z.Warmed39 U.vm ∧ U.heap = h0) (fun _ _ _ _ _ => True) (fun _ U o U' => ∃ v L, o = .returned v ∧ Q_rmGC2_U4 Z r0 cs fm ky c0 c1 c2 c3 h0 n0 v U'.heap L ∧ FrameEnd U o U' L ({ frames := 0, cells := 0, slots := 0, locals := 0 } : Room).cells ({ frames := 0, cells := 0, slots := 0, locals := 0 } : Room).slots) := by
  refine MetFree.of_bodySF (plainFor_of_name pn_0) hisR ?_
  intro p e s m args below meth c s₁ Bd hml0 hP hK
  obtain ⟨rfl, hZ, hh⟩ := hP
  have hx := Bd.exec
  have hby := Bd.bytes
  have hml : c.maxLocals = 2 := hml0
  have hown : s.vm.findClass "java/lang/StringUTF16" = some m.cls := findClass_of_methodNamed Bd.named
  have hnm := (name_of_methodNamed Bd.named Bd.method).1
  have X0 : Stand p l e ({ frames := 0, cells := 0, slots := 0, locals := 0 } : Room) s m #[(.ref r0), (.int (2 : Int32))] below meth c s₁ [] 0 0 := Stand.of_body Bd
  have e0 : s₁.heap = h0 := by rw [← hh, Bd.state]; rfl
  have N0 := Fr.nil n0
  have pre0 : ∀ t, Steps p.tables e below (s₁.setTop (mkF m 0 #[.val (.ref r0), .val (.int (2 : Int32))] [])) t → Steps p.tables e below (s₁.setTop (entryFrame m #[(.ref r0), (.int (2 : Int32))] 2)) t := fun t k => castTop (ef_rmGC2_U4 m r0 (2 : Int32)) k
  obtain ⟨T1, X1, e1, st1⟩ := getS2 X0 hx hZ hown (host := "") (Or.inl (own_w hw 140 rfl)) Via.refl e0 (SB.2.2.2.2.1.ext Od.2) (g := (mkF m 0 #[.val (.ref r0), .val (.int (2 : Int32))] [])) rfl (hb hby d30_0)
  have st2 : own_S p e below T1 (mkF m 37 #[.val (.ref r0), .val (.int (5 : Int32))] [(.int (4 : Int32)), (.ref r0)]) (mkF m 3 #[.val (.ref r0), .val (.int (2 : Int32))] [(.int (1 : Int32))]) := by
    intro target kt
    refine XS.ifYes X1.here hx rfl (pc0 := 3) (pc' := 28) rfl (hb hby d30_3) rfl ((if0 _ _).trans (feq (by decide : ¬ ((1 : Int32) = (0 : Int32)))).2) (by decide) (by decide) ?_
    refine XS.iloadN X1.here hx rfl (hb hby d30_28) rfl ?_
    refine XS.iconst X1.here hx rfl (hb hby d30_29) ?_
    refine XS.ishl X1.here hx rfl (hb hby d30_30) rfl ?_
    refine XS.istoreN X1.here hx rfl (hb hby d30_31) rfl (l' := #[.val (.ref r0), .val (.int (4 : Int32))]) rfl ?_
    refine XS.aloadN X1.here hx rfl (hb hby d30_32) rfl rfl ?_
    refine XS.iloadN X1.here hx rfl (hb hby d30_33) rfl ?_
    refine XS.iinc X1.here hx rfl (hb hby d30_34) rfl (l' := #[.val (.ref r0), .val (.int (5 : Int32))]) rfl ?_
    exact kt
  obtain ⟨cl3, Ar3, qc3, Sz3, Mn3, Hs3, Gs3⟩ := id Vy
  have hin3 : ¬ ((4 : Int32) < 0 ∨ cl3.slots.size ≤ ((4 : Int32)).toNatClampNeg) := inb_of Sz3 ⟨by decide, by decide⟩
  have hat3 : cl3.slots[((4 : Int32)).toNatClampNeg]? = some (.int (own_lo c2)) := Hs3.at hin3 rfl
  have st3 : own_S p e below T1 (mkF m 38 #[.val (.ref r0), .val (.int (5 : Int32))] [(.int (own_lo c2))]) (mkF m 37 #[.val (.ref r0), .val (.int (5 : Int32))] [(.int (4 : Int32)), (.ref r0)]) := fun target kt => X1.baloadBytes hx (j := (4 : Int32)) (v := (.int (own_lo c2))) (by rw [e1]; exact Ar3.1) (State.isArrayOf_alike hZ.alike Ar3.2.1) Ar3.2.2 hin3 hat3 (g := (mkF m 37 #[.val (.ref r0), .val (.int (5 : Int32))] [(.int (4 : Int32)), (.ref r0)])) rfl rfl (hb hby d30_37) _ kt
  have st4 : own_S p e below T1 (mkF m 42 #[.val (.ref r0), .val (.int (5 : Int32))] [(.int ((own_lo c2) &&& (255 : Int32)))]) (mkF m 38 #[.val (.ref r0), .val (.int (5 : Int32))] [(.int (own_lo c2))]) := by
    intro target kt
    refine XS.sipush X1.here hx rfl (hb hby d30_38) ?_
    refine XS.iand X1.here hx rfl (hb hby d30_41) rfl ?_
    exact kt
  obtain ⟨T5, X5, e5, st5⟩ := getS2 X1 hx hZ hown (host := "") (Or.inl (own_w hw 141 rfl)) Via.refl e1 (SB.2.2.2.2.2.1.ext Od.2) (g := (mkF m 42 #[.val (.ref r0), .val (.int (5 : Int32))] [(.int ((own_lo c2) &&& (255 : Int32)))])) rfl (hb hby d30_42)
  have st6 : own_S p e below T5 (mkF m 48 #[.val (.ref r0), .val (.int (5 : Int32))] [(.int (5 : Int32)), (.ref r0), (.int (((own_lo c2) &&& (255 : Int32)) <<< ((0 : Int32) &&& 31)))]) (mkF m 45 #[.val (.ref r0), .val (.int (5 : Int32))] [(.int (0 : Int32)), (.int ((own_lo c2) &&& (255 : Int32)))]) := by
    intro target kt
    refine XS.ishl X5.here hx rfl (hb hby d30_45) rfl ?_
    refine XS.aloadN X5.here hx rfl (hb hby d30_46) rfl rfl ?_
    refine XS.iloadN X5.here hx rfl (hb hby d30_47) rfl ?_
    exact kt
  obtain ⟨cl7, Ar7, qc7, Sz7, Mn7, Hs7, Gs7⟩ := id Vy
  have hin7 : ¬ ((5 : Int32) < 0 ∨ cl7.slots.size ≤ ((5 : Int32)).toNatClampNeg) := inb_of Sz7 ⟨by decide, by decide⟩
  have hat7 : cl7.slots[((5 : Int32)).toNatClampNeg]? = some (.int (own_hi c2)) := Hs7.at hin7 rfl
  have st7 : own_S p e below T5 (mkF m 49 #[.val (.ref r0), .val (.int (5 : Int32))] [(.int (own_hi c2)), (.int (((own_lo c2) &&& (255 : Int32)) <<< ((0 : Int32) &&& 31)))]) (mkF m 48 #[.val (.ref r0), .val (.int (5 : Int32))] [(.int (5 : Int32)), (.ref r0), (.int (((own_lo c2) &&& (255 : Int32)) <<< ((0 : Int32) &&& 31)))]) := fun target kt => X5.baloadBytes hx (j := (5 : Int32)) (v := (.int (own_hi c2))) (by rw [e5]; exact Ar7.1) (State.isArrayOf_alike hZ.alike Ar7.2.1) Ar7.2.2 hin7 hat7 (g := (mkF m 48 #[.val (.ref r0), .val (.int (5 : Int32))] [(.int (5 : Int32)), (.ref r0), (.int (((own_lo c2) &&& (255 : Int32)) <<< ((0 : Int32) &&& 31)))])) rfl rfl (hb hby d30_48) _ kt
  have st8 : own_S p e below T5 (mkF m 53 #[.val (.ref r0), .val (.int (5 : Int32))] [(.int ((own_hi c2) &&& (255 : Int32))), (.int (((own_lo c2) &&& (255 : Int32)) <<< ((0 : Int32) &&& 31)))]) (mkF m 49 #[.val (.ref r0), .val (.int (5 : Int32))] [(.int (own_hi c2)), (.int (((own_lo c2) &&& (255 : Int32)) <<< ((0 : Int32) &&& 31)))]) := by
    intro target kt
    refine XS.sipush X5.here hx rfl (hb hby d30_49) ?_
    refine XS.iand X5.here hx rfl (hb hby d30_52) rfl ?_
    exact kt
  obtain ⟨T9, X9, e9, st9⟩ := getS2 X5 hx hZ hown (host := "") (Or.inl (own_w hw 142 rfl)) Via.refl e5 (SB.2.2.2.2.2.2.ext Od.2) (g := (mkF m 53 #[.val (.ref r0), .val (.int (5 : Int32))] [(.int ((own_hi c2) &&& (255 : Int32))), (.int (((own_lo c2) &&& (255 : Int32)) <<< ((0 : Int32) &&& 31)))])) rfl (hb hby d30_53)
  obtain ⟨fs, hr, hrun, hended, hW, hsame⟩ := X9.leave (v := some (.int (nar .char (((((own_lo c2) &&& (255 : Int32)) <<< ((0 : Int32) &&& 31)) ||| (((own_hi c2) &&& (255 : Int32)) <<< ((8 : Int32) &&& 31))).toUInt32.toUInt16.toUInt32.toInt32)))) (fun h => by rw [Bd.returns] at h; cases h)
  refine ⟨_, _, pre0 _ (st1 _ (st2 _ (st3 _ (st4 _ (st5 _ (st6 _ (st7 _ (st8 _ (st9 _ ?_))))))))), hrun, hended, _, _, rfl, ?_, ⟨_, rfl⟩, hW, hsame.mono (by decide) (by decide)⟩
  · refine XS.ishl X9.here hx rfl (hb hby d30_56) rfl ?_
    refine XS.ior X9.here hx rfl (hb hby d30_57) rfl ?_
    refine XS.i2c X9.here hx rfl (hb hby d30_58) rfl ?_
    show Steps p.tables e below (T9.setTop (mkF m 59 #[.val (.ref r0), .val (.int (5 : Int32))] [(.int (((((own_lo c2) &&& (255 : Int32)) <<< ((0 : Int32) &&& 31)) ||| (((own_hi c2) &&& (255 : Int32)) <<< ((8 : Int32) &&& 31))).toUInt32.toUInt16.toUInt32.toInt32))])) _
    exact retN X9 hx (t := .char) Bd.returns (by simp) (hb hby d30_59) hr
  · show Q_rmGC2_U4 Z r0 cs fm ky c0 c1 c2 c3 h0 n0 _ T9.heap _
    rw [e9]
    exact ⟨congrArg (fun z => some (Value.int z)) (own_gc_eq hc2_), N0, rfl⟩
theorem ef_rmGC3_U4 (m : MethodId) (x0 : Addr) (x1 : Int32) : entryFrame m #[(.ref x0), (.int x1)] 2 = mkF m 0 #[.val (.ref x0), .val (.int x1)] [] := by first | (simp [entryFrame, mkF, argsToLocals, Value.category]; done) | rfl
def Q_rmGC3_U4 (Z : State) (r0 : Addr) (cs : Int32) (fm : Value) (ky : ClassId) (c0 : Int32) (c1 : Int32) (c2 : Int32) (c3 : Int32) (h0 : Heap) (n0 : Nat) (v : Option Value) (h : Heap) (L : List Loc) : Prop := v = some (.int c3) ∧ Fr n0 L ∧ h = h0
set_option maxRecDepth 65536 in
set_option maxHeartbeats 40000000 in
theorem rmGC3_U4 (l : Launch) (Z : State) (a0 : Array Value) (hw : ∀ d ∈ tables_1, d.before a0 Z = true) (ws : List Jvm.Cond) (r0 : Addr) (cs : Int32) (fm : Value) (ky : ClassId) (c0 : Int32) (c1 : Int32) (c2 : Int32) (c3 : Int32) (h0 : Heap) (n0 : Nat) (Z0 : n0 ≤ h0.size) (SB : own_St Z cs fm) (Od : Old Z n0 h0) (Vy : Arv Z h0 r0 ky .byte (8 : Int32) [(.int (own_lo c0)), (.int (own_hi c0)), (.int (own_lo c1)), (.int (own_hi c1)), (.int (own_lo c2)), (.int (own_hi c2)), (.int (own_lo c3)), (.int (own_hi c3))] (.int (0 : Int32))) (hc3_ : own_ch c3) :
    MetFree l (⟨"java/lang/StringUTF16", "getChar", "([BI)C"⟩ : MethodName) (head1 (Jvm.Cond.code (⟨"java/lang/StringUTF16", "getChar", "([BI)C"⟩ : MethodName) jdk_52_method_5_code 2 (some .char) :: ws) ({ frames := 0, cells := 0, slots := 0, locals := 0 } : Room)) (fun a U => a = #[(.ref r0), (.int (3 : Int32))] ∧ Z.Warmed39 U.vm ∧ U.heap = h0) (fun _ _ _ _ _ => True) (fun _ U o U' => ∃ v L, o = .returned v ∧ Q_rmGC3_U4 Z r0 cs fm ky c0 c1 c2 c3 h0 n0 v U'.heap L ∧ FrameEnd U o U' L ({ frames := 0, cells := 0, slots := 0, locals := 0 } : Room).cells ({ frames := 0, cells := 0, slots := 0, locals := 0 } : Room).slots) := by
  refine MetFree.of_bodySF (plainFor_of_name pn_0) hisR ?_
  intro p e s m args below meth c s₁ Bd hml0 hP hK
  obtain ⟨rfl, hZ, hh⟩ := hP
  have hx := Bd.exec
  have hby := Bd.bytes
  have hml : c.maxLocals = 2 := hml0
  have hown : s.vm.findClass "java/lang/StringUTF16" = some m.cls := findClass_of_methodNamed Bd.named
  have hnm := (name_of_methodNamed Bd.named Bd.method).1
  have X0 : Stand p l e ({ frames := 0, cells := 0, slots := 0, locals := 0 } : Room) s m #[(.ref r0), (.int (3 : Int32))] below meth c s₁ [] 0 0 := Stand.of_body Bd
  have e0 : s₁.heap = h0 := by rw [← hh, Bd.state]; rfl
  have N0 := Fr.nil n0
  have pre0 : ∀ t, Steps p.tables e below (s₁.setTop (mkF m 0 #[.val (.ref r0), .val (.int (3 : Int32))] [])) t → Steps p.tables e below (s₁.setTop (entryFrame m #[(.ref r0), (.int (3 : Int32))] 2)) t := fun t k => castTop (ef_rmGC3_U4 m r0 (3 : Int32)) k
  obtain ⟨T1, X1, e1, st1⟩ := getS2 X0 hx hZ hown (host := "") (Or.inl (own_w hw 140 rfl)) Via.refl e0 (SB.2.2.2.2.1.ext Od.2) (g := (mkF m 0 #[.val (.ref r0), .val (.int (3 : Int32))] [])) rfl (hb hby d30_0)
  have st2 : own_S p e below T1 (mkF m 37 #[.val (.ref r0), .val (.int (7 : Int32))] [(.int (6 : Int32)), (.ref r0)]) (mkF m 3 #[.val (.ref r0), .val (.int (3 : Int32))] [(.int (1 : Int32))]) := by
    intro target kt
    refine XS.ifYes X1.here hx rfl (pc0 := 3) (pc' := 28) rfl (hb hby d30_3) rfl ((if0 _ _).trans (feq (by decide : ¬ ((1 : Int32) = (0 : Int32)))).2) (by decide) (by decide) ?_
    refine XS.iloadN X1.here hx rfl (hb hby d30_28) rfl ?_
    refine XS.iconst X1.here hx rfl (hb hby d30_29) ?_
    refine XS.ishl X1.here hx rfl (hb hby d30_30) rfl ?_
    refine XS.istoreN X1.here hx rfl (hb hby d30_31) rfl (l' := #[.val (.ref r0), .val (.int (6 : Int32))]) rfl ?_
    refine XS.aloadN X1.here hx rfl (hb hby d30_32) rfl rfl ?_
    refine XS.iloadN X1.here hx rfl (hb hby d30_33) rfl ?_
    refine XS.iinc X1.here hx rfl (hb hby d30_34) rfl (l' := #[.val (.ref r0), .val (.int (7 : Int32))]) rfl ?_
    exact kt
  obtain ⟨cl3, Ar3, qc3, Sz3, Mn3, Hs3, Gs3⟩ := id Vy
  have hin3 : ¬ ((6 : Int32) < 0 ∨ cl3.slots.size ≤ ((6 : Int32)).toNatClampNeg) := inb_of Sz3 ⟨by decide, by decide⟩
  have hat3 : cl3.slots[((6 : Int32)).toNatClampNeg]? = some (.int (own_lo c3)) := Hs3.at hin3 rfl
  have st3 : own_S p e below T1 (mkF m 38 #[.val (.ref r0), .val (.int (7 : Int32))] [(.int (own_lo c3))]) (mkF m 37 #[.val (.ref r0), .val (.int (7 : Int32))] [(.int (6 : Int32)), (.ref r0)]) := fun target kt => X1.baloadBytes hx (j := (6 : Int32)) (v := (.int (own_lo c3))) (by rw [e1]; exact Ar3.1) (State.isArrayOf_alike hZ.alike Ar3.2.1) Ar3.2.2 hin3 hat3 (g := (mkF m 37 #[.val (.ref r0), .val (.int (7 : Int32))] [(.int (6 : Int32)), (.ref r0)])) rfl rfl (hb hby d30_37) _ kt
  have st4 : own_S p e below T1 (mkF m 42 #[.val (.ref r0), .val (.int (7 : Int32))] [(.int ((own_lo c3) &&& (255 : Int32)))]) (mkF m 38 #[.val (.ref r0), .val (.int (7 : Int32))] [(.int (own_lo c3))]) := by
    intro target kt
    refine XS.sipush X1.here hx rfl (hb hby d30_38) ?_
    refine XS.iand X1.here hx rfl (hb hby d30_41) rfl ?_
    exact kt
  obtain ⟨T5, X5, e5, st5⟩ := getS2 X1 hx hZ hown (host := "") (Or.inl (own_w hw 141 rfl)) Via.refl e1 (SB.2.2.2.2.2.1.ext Od.2) (g := (mkF m 42 #[.val (.ref r0), .val (.int (7 : Int32))] [(.int ((own_lo c3) &&& (255 : Int32)))])) rfl (hb hby d30_42)
  have st6 : own_S p e below T5 (mkF m 48 #[.val (.ref r0), .val (.int (7 : Int32))] [(.int (7 : Int32)), (.ref r0), (.int (((own_lo c3) &&& (255 : Int32)) <<< ((0 : Int32) &&& 31)))]) (mkF m 45 #[.val (.ref r0), .val (.int (7 : Int32))] [(.int (0 : Int32)), (.int ((own_lo c3) &&& (255 : Int32)))]) := by
    intro target kt
    refine XS.ishl X5.here hx rfl (hb hby d30_45) rfl ?_
    refine XS.aloadN X5.here hx rfl (hb hby d30_46) rfl rfl ?_
    refine XS.iloadN X5.here hx rfl (hb hby d30_47) rfl ?_
    exact kt
  obtain ⟨cl7, Ar7, qc7, Sz7, Mn7, Hs7, Gs7⟩ := id Vy
  have hin7 : ¬ ((7 : Int32) < 0 ∨ cl7.slots.size ≤ ((7 : Int32)).toNatClampNeg) := inb_of Sz7 ⟨by decide, by decide⟩
  have hat7 : cl7.slots[((7 : Int32)).toNatClampNeg]? = some (.int (own_hi c3)) := Hs7.at hin7 rfl
  have st7 : own_S p e below T5 (mkF m 49 #[.val (.ref r0), .val (.int (7 : Int32))] [(.int (own_hi c3)), (.int (((own_lo c3) &&& (255 : Int32)) <<< ((0 : Int32) &&& 31)))]) (mkF m 48 #[.val (.ref r0), .val (.int (7 : Int32))] [(.int (7 : Int32)), (.ref r0), (.int (((own_lo c3) &&& (255 : Int32)) <<< ((0 : Int32) &&& 31)))]) := fun target kt => X5.baloadBytes hx (j := (7 : Int32)) (v := (.int (own_hi c3))) (by rw [e5]; exact Ar7.1) (State.isArrayOf_alike hZ.alike Ar7.2.1) Ar7.2.2 hin7 hat7 (g := (mkF m 48 #[.val (.ref r0), .val (.int (7 : Int32))] [(.int (7 : Int32)), (.ref r0), (.int (((own_lo c3) &&& (255 : Int32)) <<< ((0 : Int32) &&& 31)))])) rfl rfl (hb hby d30_48) _ kt
  have st8 : own_S p e below T5 (mkF m 53 #[.val (.ref r0), .val (.int (7 : Int32))] [(.int ((own_hi c3) &&& (255 : Int32))), (.int (((own_lo c3) &&& (255 : Int32)) <<< ((0 : Int32) &&& 31)))]) (mkF m 49 #[.val (.ref r0), .val (.int (7 : Int32))] [(.int (own_hi c3)), (.int (((own_lo c3) &&& (255 : Int32)) <<< ((0 : Int32) &&& 31)))]) := by
    intro target kt
    refine XS.sipush X5.here hx rfl (hb hby d30_49) ?_
    refine XS.iand X5.here hx rfl (hb hby d30_52) rfl ?_
    exact kt
  obtain ⟨T9, X9, e9, st9⟩ := getS2 X5 hx hZ hown (host := "") (Or.inl (own_w hw 142 rfl)) Via.refl e5 (SB.2.2.2.2.2.2.ext Od.2) (g := (mkF m 53 #[.val (.ref r0), .val (.int (7 : Int32))] [(.int ((own_hi c3) &&& (255 : Int32))), (.int (((own_lo c3) &&& (255 : Int32)) <<< ((0 : Int32) &&& 31)))])) rfl (hb hby d30_53)
  obtain ⟨fs, hr, hrun, hended, hW, hsame⟩ := X9.leave (v := some (.int (nar .char (((((own_lo c3) &&& (255 : Int32)) <<< ((0 : Int32) &&& 31)) ||| (((own_hi c3) &&& (255 : Int32)) <<< ((8 : Int32) &&& 31))).toUInt32.toUInt16.toUInt32.toInt32)))) (fun h => by rw [Bd.returns] at h; cases h)
  refine ⟨_, _, pre0 _ (st1 _ (st2 _ (st3 _ (st4 _ (st5 _ (st6 _ (st7 _ (st8 _ (st9 _ ?_))))))))), hrun, hended, _, _, rfl, ?_, ⟨_, rfl⟩, hW, hsame.mono (by decide) (by decide)⟩
  · refine XS.ishl X9.here hx rfl (hb hby d30_56) rfl ?_
    refine XS.ior X9.here hx rfl (hb hby d30_57) rfl ?_
    refine XS.i2c X9.here hx rfl (hb hby d30_58) rfl ?_
    show Steps p.tables e below (T9.setTop (mkF m 59 #[.val (.ref r0), .val (.int (7 : Int32))] [(.int (((((own_lo c3) &&& (255 : Int32)) <<< ((0 : Int32) &&& 31)) ||| (((own_hi c3) &&& (255 : Int32)) <<< ((8 : Int32) &&& 31))).toUInt32.toUInt16.toUInt32.toInt32))])) _
    exact retN X9 hx (t := .char) Bd.returns (by simp) (hb hby d30_59) hr
  · show Q_rmGC3_U4 Z r0 cs fm ky c0 c1 c2 c3 h0 n0 _ T9.heap _
    rw [e9]
    exact ⟨congrArg (fun z => some (Value.int z)) (own_gc_eq hc3_), N0, rfl⟩
theorem d6_0 : decode jdk_52_method_21_code 0 = .ok (.iconst 0, 1) := by decide +kernel
theorem d6_1 : decode jdk_52_method_21_code 1 = .ok (.istore 5, 2) := by decide +kernel
theorem d6_3 : decode jdk_52_method_21_code 3 = .ok (.iload 5, 2) := by decide +kernel
theorem d6_5 : decode jdk_52_method_21_code 5 = .ok (.iload 4, 2) := by decide +kernel
theorem d6_7 : decode jdk_52_method_21_code 7 = .ok (.if_icmp .ge 37, 3) := by decide +kernel
theorem d6_10 : decode jdk_52_method_21_code 10 = .ok (.aload_n 0, 1) := by decide +kernel
theorem d6_11 : decode jdk_52_method_21_code 11 = .ok (.iload_n 1, 1) := by decide +kernel
theorem d6_12 : decode jdk_52_method_21_code 12 = .ok (.caload, 1) := by decide +kernel
theorem d6_13 : decode jdk_52_method_21_code 13 = .ok (.istore 6, 2) := by decide +kernel
theorem d6_15 : decode jdk_52_method_21_code 15 = .ok (.iload 6, 2) := by decide +kernel
theorem d6_17 : decode jdk_52_method_21_code 17 = .ok (.sipush 255, 3) := by decide +kernel
theorem d6_20 : decode jdk_52_method_21_code 20 = .ok (.if_icmp .le 6, 3) := by decide +kernel
theorem d6_23 : decode jdk_52_method_21_code 23 = .ok (.iload 5, 2) := by decide +kernel
theorem d6_25 : decode jdk_52_method_21_code 25 = .ok (.ireturn, 1) := by decide +kernel
theorem d6_26 : decode jdk_52_method_21_code 26 = .ok (.aload_n 2, 1) := by decide +kernel
theorem d6_27 : decode jdk_52_method_21_code 27 = .ok (.iload_n 3, 1) := by decide +kernel
theorem d6_28 : decode jdk_52_method_21_code 28 = .ok (.iload 6, 2) := by decide +kernel
theorem d6_30 : decode jdk_52_method_21_code 30 = .ok (.i2b, 1) := by decide +kernel
theorem d6_31 : decode jdk_52_method_21_code 31 = .ok (.bastore, 1) := by decide +kernel
theorem d6_32 : decode jdk_52_method_21_code 32 = .ok (.iinc 1 1, 3) := by decide +kernel
theorem d6_35 : decode jdk_52_method_21_code 35 = .ok (.iinc 3 1, 3) := by decide +kernel
theorem d6_38 : decode jdk_52_method_21_code 38 = .ok (.iinc 5 1, 3) := by decide +kernel
theorem d6_41 : decode jdk_52_method_21_code 41 = .ok (.goto (-38), 3) := by decide +kernel
theorem ef_rmCi0_4 (m : MethodId) (x0 : Addr) (x1 : Int32) (x2 : Addr) (x3 : Int32) (x4 : Int32) : entryFrame m #[(.ref x0), (.int x1), (.ref x2), (.int x1), (.int x4)] 7 = mkF m 0 #[.val (.ref x0), .val (.int x1), .val (.ref x2), .val (.int x1), .val (.int x4), .unset, .unset] [] := by first | (simp [entryFrame, mkF, argsToLocals, Value.category]; done) | rfl
def Q_rmCi0_4 (Z : State) (r0 : Addr) (r2 : Addr) (kc : ClassId) (kb : ClassId) (c0 : Int32) (c1 : Int32) (c2 : Int32) (c3 : Int32) (h0 : Heap) (n0 : Nat) (v : Option Value) (h : Heap) (L : List Loc) : Prop := v = some (.int (0 : Int32)) ∧ Fr n0 L ∧ Keep h0 h [r2]
set_option maxRecDepth 65536 in
set_option maxHeartbeats 40000000 in
theorem rmCi0_4 (l : Launch) (Z : State) (a0 : Array Value) (hw : ∀ d ∈ tables_1, d.before a0 Z = true) (ws : List Jvm.Cond) (r0 : Addr) (r2 : Addr) (kc : ClassId) (kb : ClassId) (c0 : Int32) (c1 : Int32) (c2 : Int32) (c3 : Int32) (h0 : Heap) (n0 : Nat) (Z0 : n0 ≤ h0.size) (Vc : Arv Z h0 r0 kc .char (4 : Int32) [(.int c0), (.int c1), (.int c2), (.int c3)] (.int (0 : Int32))) (Vb : Arv Z h0 r2 kb .byte (4 : Int32) [(.int (0 : Int32)), (.int (0 : Int32)), (.int (0 : Int32)), (.int (0 : Int32))] (.int (0 : Int32))) (g_r2 : n0 ≤ r2) (hne : r0 ≠ r2) (l0 : (255 : Int32) < c0) :
    MetFree l (⟨"java/lang/StringUTF16", "compress", "([CI[BII)I"⟩ : MethodName) (head1 (Jvm.Cond.code (⟨"java/lang/StringUTF16", "compress", "([CI[BII)I"⟩ : MethodName) jdk_52_method_21_code 7 (some .int) :: ws) ({ frames := 0, cells := 0, slots := 0, locals := 0 } : Room)) (fun a U => a = #[(.ref r0), (.int (0 : Int32)), (.ref r2), (.int (0 : Int32)), (.int (4 : Int32))] ∧ Z.Warmed39 U.vm ∧ U.heap = h0) (fun _ _ _ _ _ => True) (fun _ U o U' => ∃ v L, o = .returned v ∧ Q_rmCi0_4 Z r0 r2 kc kb c0 c1 c2 c3 h0 n0 v U'.heap L ∧ FrameEnd U o U' L ({ frames := 0, cells := 0, slots := 0, locals := 0 } : Room).cells ({ frames := 0, cells := 0, slots := 0, locals := 0 } : Room).slots) := by
  refine MetFree.of_bodySF (plainFor_of_name pn_0) hisR ?_
  intro p e s m args below meth c s₁ Bd hml0 hP hK
  obtain ⟨rfl, hZ, hh⟩ := hP
  have hx := Bd.exec
  have hby := Bd.bytes
  have hml : c.maxLocals = 7 := hml0
  have hown : s.vm.findClass "java/lang/StringUTF16" = some m.cls := findClass_of_methodNamed Bd.named
  have hnm := (name_of_methodNamed Bd.named Bd.method).1
  have X0 : Stand p l e ({ frames := 0, cells := 0, slots := 0, locals := 0 } : Room) s m #[(.ref r0), (.int (0 : Int32)), (.ref r2), (.int (0 : Int32)), (.int (4 : Int32))] below meth c s₁ [] 0 0 := Stand.of_body Bd
  have e0 : s₁.heap = h0 := by rw [← hh, Bd.state]; rfl
  have N0 := Fr.nil n0
  have pre0 : ∀ t, Steps p.tables e below (s₁.setTop (mkF m 0 #[.val (.ref r0), .val (.int (0 : Int32)), .val (.ref r2), .val (.int (0 : Int32)), .val (.int (4 : Int32)), .unset, .unset] [])) t → Steps p.tables e below (s₁.setTop (entryFrame m #[(.ref r0), (.int (0 : Int32)), (.ref r2), (.int (0 : Int32)), (.int (4 : Int32))] 7)) t := fun t k => castTop (ef_rmCi0_4 m r0 (0 : Int32) r2 (0 : Int32) (4 : Int32)) k
  have Kp : Keep h0 h0 [r2] := Keep.refl _ _
  have st1 : own_S p e below s₁ (mkF m 12 #[.val (.ref r0), .val (.int (0 : Int32)), .val (.ref r2), .val (.int (0 : Int32)), .val (.int (4 : Int32)), .val (.int (0 : Int32)), .unset] [(.int (0 : Int32)), (.ref r0)]) (mkF m 0 #[.val (.ref r0), .val (.int (0 : Int32)), .val (.ref r2), .val (.int (0 : Int32)), .val (.int (4 : Int32)), .unset, .unset] []) := by
    intro target kt
    refine XS.iconst X0.here hx rfl (hb hby d6_0) ?_
    refine XS.istore X0.here hx rfl (hb hby d6_1) rfl (l' := #[.val (.ref r0), .val (.int (0 : Int32)), .val (.ref r2), .val (.int (0 : Int32)), .val (.int (4 : Int32)), .val (.int (0 : Int32)), .unset]) rfl ?_
    refine XS.iload X0.here hx rfl (hb hby d6_3) rfl ?_
    refine XS.iload X0.here hx rfl (hb hby d6_5) rfl ?_
    refine XS.icmpNo X0.here hx rfl (hb hby d6_7) rfl (tlt (by decide : ((0 : Int32) < (4 : Int32)))).2.1 ?_
    refine XS.aloadN X0.here hx rfl (hb hby d6_10) rfl rfl ?_
    refine XS.iloadN X0.here hx rfl (hb hby d6_11) rfl ?_
    exact kt
  obtain ⟨cl2, Ar2, qc2, Sz2, Mn2, Hs2, Gs2⟩ := id Vc
  have hin2 : ¬ ((0 : Int32) < 0 ∨ cl2.slots.size ≤ ((0 : Int32)).toNatClampNeg) := inb_of Sz2 ⟨by decide, by decide⟩
  have hat2 : cl2.slots[((0 : Int32)).toNatClampNeg]? = some (.int c0) := Hs2.at hin2 rfl
  have st2 : own_S p e below s₁ (mkF m 13 #[.val (.ref r0), .val (.int (0 : Int32)), .val (.ref r2), .val (.int (0 : Int32)), .val (.int (4 : Int32)), .val (.int (0 : Int32)), .unset] [(.int c0)]) (mkF m 12 #[.val (.ref r0), .val (.int (0 : Int32)), .val (.ref r2), .val (.int (0 : Int32)), .val (.int (4 : Int32)), .val (.int (0 : Int32)), .unset] [(.int (0 : Int32)), (.ref r0)]) := fun target kt => X0.caload hx (j := (0 : Int32)) (v := (.int c0)) (by rw [e0]; exact Ar2.1) (State.isArrayOf_alike hZ.alike Ar2.2.1) Ar2.2.2 hin2 hat2 (g := (mkF m 12 #[.val (.ref r0), .val (.int (0 : Int32)), .val (.ref r2), .val (.int (0 : Int32)), .val (.int (4 : Int32)), .val (.int (0 : Int32)), .unset] [(.int (0 : Int32)), (.ref r0)])) rfl rfl (hb hby d6_12) _ kt
  obtain ⟨fs, hr, hrun, hended, hW, hsame⟩ := X0.leave (v := some (.int (0 : Int32))) (fun h => by rw [Bd.returns] at h; cases h)
  refine ⟨_, _, pre0 _ (st1 _ (st2 _ ?_)), hrun, hended, _, _, rfl, ?_, ⟨_, rfl⟩, hW, hsame.mono (by decide) (by decide)⟩
  · refine XS.istore X0.here hx rfl (hb hby d6_13) rfl (l' := #[.val (.ref r0), .val (.int (0 : Int32)), .val (.ref r2), .val (.int (0 : Int32)), .val (.int (4 : Int32)), .val (.int (0 : Int32)), .val (.int c0)]) rfl ?_
    refine XS.iload X0.here hx rfl (hb hby d6_15) rfl ?_
    refine XS.sipush X0.here hx rfl (hb hby d6_17) ?_
    refine XS.icmpNo X0.here hx rfl (hb hby d6_20) rfl (tlt l0).2.2.2 ?_
    refine XS.iload X0.here hx rfl (hb hby d6_23) rfl ?_
    show Steps p.tables e below (s₁.setTop (mkF m 25 #[.val (.ref r0), .val (.int (0 : Int32)), .val (.ref r2), .val (.int (0 : Int32)), .val (.int (4 : Int32)), .val (.int (0 : Int32)), .val (.int c0)] [(.int (0 : Int32))])) _
    exact retI X0 hx Bd.returns (hb hby d6_25) hr
  · show Q_rmCi0_4 Z r0 r2 kc kb c0 c1 c2 c3 h0 n0 _ s₁.heap _
    rw [e0]
    exact ⟨rfl, N0, Kp⟩
theorem ef_rmCi1_4 (m : MethodId) (x0 : Addr) (x1 : Int32) (x2 : Addr) (x3 : Int32) (x4 : Int32) : entryFrame m #[(.ref x0), (.int x1), (.ref x2), (.int x1), (.int x4)] 7 = mkF m 0 #[.val (.ref x0), .val (.int x1), .val (.ref x2), .val (.int x1), .val (.int x4), .unset, .unset] [] := by first | (simp [entryFrame, mkF, argsToLocals, Value.category]; done) | rfl
def Q_rmCi1_4 (Z : State) (r0 : Addr) (r2 : Addr) (kc : ClassId) (kb : ClassId) (c0 : Int32) (c1 : Int32) (c2 : Int32) (c3 : Int32) (h0 : Heap) (n0 : Nat) (v : Option Value) (h : Heap) (L : List Loc) : Prop := v = some (.int (1 : Int32)) ∧ Fr n0 L ∧ Keep h0 h [r2]
set_option maxRecDepth 65536 in
set_option maxHeartbeats 40000000 in
theorem rmCi1_4 (l : Launch) (Z : State) (a0 : Array Value) (hw : ∀ d ∈ tables_1, d.before a0 Z = true) (ws : List Jvm.Cond) (r0 : Addr) (r2 : Addr) (kc : ClassId) (kb : ClassId) (c0 : Int32) (c1 : Int32) (c2 : Int32) (c3 : Int32) (h0 : Heap) (n0 : Nat) (Z0 : n0 ≤ h0.size) (Vc : Arv Z h0 r0 kc .char (4 : Int32) [(.int c0), (.int c1), (.int c2), (.int c3)] (.int (0 : Int32))) (Vb : Arv Z h0 r2 kb .byte (4 : Int32) [(.int (0 : Int32)), (.int (0 : Int32)), (.int (0 : Int32)), (.int (0 : Int32))] (.int (0 : Int32))) (g_r2 : n0 ≤ r2) (hne : r0 ≠ r2) (l0 : ¬ (255 : Int32) < c0) (l1 : (255 : Int32) < c1) :
    MetFree l (⟨"java/lang/StringUTF16", "compress", "([CI[BII)I"⟩ : MethodName) (head1 (Jvm.Cond.code (⟨"java/lang/StringUTF16", "compress", "([CI[BII)I"⟩ : MethodName) jdk_52_method_21_code 7 (some .int) :: ws) ({ frames := 0, cells := 0, slots := 0, locals := 0 } : Room)) (fun a U => a = #[(.ref r0), (.int (0 : Int32)), (.ref r2), (.int (0 : Int32)), (.int (4 : Int32))] ∧ Z.Warmed39 U.vm ∧ U.heap = h0) (fun _ _ _ _ _ => True) (fun _ U o U' => ∃ v L, o = .returned v ∧ Q_rmCi1_4 Z r0 r2 kc kb c0 c1 c2 c3 h0 n0 v U'.heap L ∧ FrameEnd U o U' L ({ frames := 0, cells := 0, slots := 0, locals := 0 } : Room).cells ({ frames := 0, cells := 0, slots := 0, locals := 0 } : Room).slots) := by
  refine MetFree.of_bodySF (plainFor_of_name pn_0) hisR ?_
  intro p e s m args below meth c s₁ Bd hml0 hP hK
  obtain ⟨rfl, hZ, hh⟩ := hP
  have hx := Bd.exec
  have hby := Bd.bytes
  have hml : c.maxLocals = 7 := hml0
  have hown : s.vm.findClass "java/lang/StringUTF16" = some m.cls := findClass_of_methodNamed Bd.named
  have hnm := (name_of_methodNamed Bd.named Bd.method).1
  have X0 : Stand p l e ({ frames := 0, cells := 0, slots := 0, locals := 0 } : Room) s m #[(.ref r0), (.int (0 : Int32)), (.ref r2), (.int (0 : Int32)), (.int (4 : Int32))] below meth c s₁ [] 0 0 := Stand.of_body Bd
  have e0 : s₁.heap = h0 := by rw [← hh, Bd.state]; rfl
  have N0 := Fr.nil n0
  have pre0 : ∀ t, Steps p.tables e below (s₁.setTop (mkF m 0 #[.val (.ref r0), .val (.int (0 : Int32)), .val (.ref r2), .val (.int (0 : Int32)), .val (.int (4 : Int32)), .unset, .unset] [])) t → Steps p.tables e below (s₁.setTop (entryFrame m #[(.ref r0), (.int (0 : Int32)), (.ref r2), (.int (0 : Int32)), (.int (4 : Int32))] 7)) t := fun t k => castTop (ef_rmCi1_4 m r0 (0 : Int32) r2 (0 : Int32) (4 : Int32)) k
  have Kp : Keep h0 h0 [r2] := Keep.refl _ _
  have st1 : own_S p e below s₁ (mkF m 12 #[.val (.ref r0), .val (.int (0 : Int32)), .val (.ref r2), .val (.int (0 : Int32)), .val (.int (4 : Int32)), .val (.int (0 : Int32)), .unset] [(.int (0 : Int32)), (.ref r0)]) (mkF m 0 #[.val (.ref r0), .val (.int (0 : Int32)), .val (.ref r2), .val (.int (0 : Int32)), .val (.int (4 : Int32)), .unset, .unset] []) := by
    intro target kt
    refine XS.iconst X0.here hx rfl (hb hby d6_0) ?_
    refine XS.istore X0.here hx rfl (hb hby d6_1) rfl (l' := #[.val (.ref r0), .val (.int (0 : Int32)), .val (.ref r2), .val (.int (0 : Int32)), .val (.int (4 : Int32)), .val (.int (0 : Int32)), .unset]) rfl ?_
    refine XS.iload X0.here hx rfl (hb hby d6_3) rfl ?_
    refine XS.iload X0.here hx rfl (hb hby d6_5) rfl ?_
    refine XS.icmpNo X0.here hx rfl (hb hby d6_7) rfl (tlt (by decide : ((0 : Int32) < (4 : Int32)))).2.1 ?_
    refine XS.aloadN X0.here hx rfl (hb hby d6_10) rfl rfl ?_
    refine XS.iloadN X0.here hx rfl (hb hby d6_11) rfl ?_
    exact kt
  obtain ⟨cl2, Ar2, qc2, Sz2, Mn2, Hs2, Gs2⟩ := id Vc
  have hin2 : ¬ ((0 : Int32) < 0 ∨ cl2.slots.size ≤ ((0 : Int32)).toNatClampNeg) := inb_of Sz2 ⟨by decide, by decide⟩
  have hat2 : cl2.slots[((0 : Int32)).toNatClampNeg]? = some (.int c0) := Hs2.at hin2 rfl
  have st2 : own_S p e below s₁ (mkF m 13 #[.val (.ref r0), .val (.int (0 : Int32)), .val (.ref r2), .val (.int (0 : Int32)), .val (.int (4 : Int32)), .val (.int (0 : Int32)), .unset] [(.int c0)]) (mkF m 12 #[.val (.ref r0), .val (.int (0 : Int32)), .val (.ref r2), .val (.int (0 : Int32)), .val (.int (4 : Int32)), .val (.int (0 : Int32)), .unset] [(.int (0 : Int32)), (.ref r0)]) := fun target kt => X0.caload hx (j := (0 : Int32)) (v := (.int c0)) (by rw [e0]; exact Ar2.1) (State.isArrayOf_alike hZ.alike Ar2.2.1) Ar2.2.2 hin2 hat2 (g := (mkF m 12 #[.val (.ref r0), .val (.int (0 : Int32)), .val (.ref r2), .val (.int (0 : Int32)), .val (.int (4 : Int32)), .val (.int (0 : Int32)), .unset] [(.int (0 : Int32)), (.ref r0)])) rfl rfl (hb hby d6_12) _ kt
  have st3 : own_S p e below s₁ (mkF m 31 #[.val (.ref r0), .val (.int (0 : Int32)), .val (.ref r2), .val (.int (0 : Int32)), .val (.int (4 : Int32)), .val (.int (0 : Int32)), .val (.int c0)] [(.int (c0.toInt8.toInt32)), (.int (0 : Int32)), (.ref r2)]) (mkF m 13 #[.val (.ref r0), .val (.int (0 : Int32)), .val (.ref r2), .val (.int (0 : Int32)), .val (.int (4 : Int32)), .val (.int (0 : Int32)), .unset] [(.int c0)]) := by
    intro target kt
    refine XS.istore X0.here hx rfl (hb hby d6_13) rfl (l' := #[.val (.ref r0), .val (.int (0 : Int32)), .val (.ref r2), .val (.int (0 : Int32)), .val (.int (4 : Int32)), .val (.int (0 : Int32)), .val (.int c0)]) rfl ?_
    refine XS.iload X0.here hx rfl (hb hby d6_15) rfl ?_
    refine XS.sipush X0.here hx rfl (hb hby d6_17) ?_
    refine XS.icmpYes X0.here hx rfl (pc0 := 20) (pc' := 26) rfl (hb hby d6_20) rfl (flt l0).2.2.2 (by decide) (by decide) ?_
    refine XS.aloadN X0.here hx rfl (hb hby d6_26) rfl rfl ?_
    refine XS.iloadN X0.here hx rfl (hb hby d6_27) rfl ?_
    refine XS.iload X0.here hx rfl (hb hby d6_28) rfl ?_
    refine XS.i2b X0.here hx rfl (hb hby d6_30) rfl ?_
    exact kt
  obtain ⟨cl4, Ar4, qc4, Sz4, Mn4, Hs4, Gs4⟩ := id Vb
  have hin4 : ¬ ((0 : Int32) < 0 ∨ cl4.slots.size ≤ ((0 : Int32)).toNatClampNeg) := inb_of Sz4 ⟨by decide, by decide⟩
  obtain ⟨T4, h4, X4, e4, W4, st4⟩ := stB X0 hx hZ e0 Ar4 (j := (0 : Int32)) hin4 (g := (mkF m 31 #[.val (.ref r0), .val (.int (0 : Int32)), .val (.ref r2), .val (.int (0 : Int32)), .val (.int (4 : Int32)), .val (.int (0 : Int32)), .val (.int c0)] [(.int (c0.toInt8.toInt32)), (.int (0 : Int32)), (.ref r2)])) rfl rfl (hb hby d6_31)
  have V_r2_4 : Arv Z h4 r2 kb .byte (4 : Int32) [(.int (nar .byte (c0.toInt8.toInt32))), (.int (0 : Int32)), (.int (0 : Int32)), (.int (0 : Int32))] (.int (0 : Int32)) := Arv.set Ar4 qc4 Sz4 Mn4 Hs4 Gs4 (fits_nar_byte _) W4 0 rfl (Nat.le_of_ble_eq_true rfl)
  have Vc_4 := Vc.other W4 hne
  have Z_4 : n0 ≤ h4.size := Nat.le_trans Z0 (Keep.of_wr W4).1
  have Kp_4 : Keep h0 h4 [r2] := Kp.wr W4 (Or.inl (List.mem_of_getElem? (i := 0) rfl))
  have N4 := Fr.snoc X4 N0 g_r2
  have st5 : own_S p e below T4 (mkF m 12 #[.val (.ref r0), .val (.int (1 : Int32)), .val (.ref r2), .val (.int (1 : Int32)), .val (.int (4 : Int32)), .val (.int (1 : Int32)), .val (.int c0)] [(.int (1 : Int32)), (.ref r0)]) (mkF m 32 #[.val (.ref r0), .val (.int (0 : Int32)), .val (.ref r2), .val (.int (0 : Int32)), .val (.int (4 : Int32)), .val (.int (0 : Int32)), .val (.int c0)] []) := by
    intro target kt
    refine XS.iinc X4.here hx rfl (hb hby d6_32) rfl (l' := #[.val (.ref r0), .val (.int (1 : Int32)), .val (.ref r2), .val (.int (0 : Int32)), .val (.int (4 : Int32)), .val (.int (0 : Int32)), .val (.int c0)]) rfl ?_
    refine XS.iinc X4.here hx rfl (hb hby d6_35) rfl (l' := #[.val (.ref r0), .val (.int (1 : Int32)), .val (.ref r2), .val (.int (1 : Int32)), .val (.int (4 : Int32)), .val (.int (0 : Int32)), .val (.int c0)]) rfl ?_
    refine XS.iinc X4.here hx rfl (hb hby d6_38) rfl (l' := #[.val (.ref r0), .val (.int (1 : Int32)), .val (.ref r2), .val (.int (1 : Int32)), .val (.int (4 : Int32)), .val (.int (1 : Int32)), .val (.int c0)]) rfl ?_
    refine XS.goto X4.here hx rfl (pc0 := 41) (pc' := 3) rfl (hb hby d6_41) (by decide) (by decide) ?_
    refine XS.iload X4.here hx rfl (hb hby d6_3) rfl ?_
    refine XS.iload X4.here hx rfl (hb hby d6_5) rfl ?_
    refine XS.icmpNo X4.here hx rfl (hb hby d6_7) rfl (tlt (by decide : ((1 : Int32) < (4 : Int32)))).2.1 ?_
    refine XS.aloadN X4.here hx rfl (hb hby d6_10) rfl rfl ?_
    refine XS.iloadN X4.here hx rfl (hb hby d6_11) rfl ?_
    exact kt
  obtain ⟨cl6, Ar6, qc6, Sz6, Mn6, Hs6, Gs6⟩ := id Vc_4
  have hin6 : ¬ ((1 : Int32) < 0 ∨ cl6.slots.size ≤ ((1 : Int32)).toNatClampNeg) := inb_of Sz6 ⟨by decide, by decide⟩
  have hat6 : cl6.slots[((1 : Int32)).toNatClampNeg]? = some (.int c1) := Hs6.at hin6 rfl
  have st6 : own_S p e below T4 (mkF m 13 #[.val (.ref r0), .val (.int (1 : Int32)), .val (.ref r2), .val (.int (1 : Int32)), .val (.int (4 : Int32)), .val (.int (1 : Int32)), .val (.int c0)] [(.int c1)]) (mkF m 12 #[.val (.ref r0), .val (.int (1 : Int32)), .val (.ref r2), .val (.int (1 : Int32)), .val (.int (4 : Int32)), .val (.int (1 : Int32)), .val (.int c0)] [(.int (1 : Int32)), (.ref r0)]) := fun target kt => X4.caload hx (j := (1 : Int32)) (v := (.int c1)) (by rw [e4]; exact Ar6.1) (State.isArrayOf_alike hZ.alike Ar6.2.1) Ar6.2.2 hin6 hat6 (g := (mkF m 12 #[.val (.ref r0), .val (.int (1 : Int32)), .val (.ref r2), .val (.int (1 : Int32)), .val (.int (4 : Int32)), .val (.int (1 : Int32)), .val (.int c0)] [(.int (1 : Int32)), (.ref r0)])) rfl rfl (hb hby d6_12) _ kt
  obtain ⟨fs, hr, hrun, hended, hW, hsame⟩ := X4.leave (v := some (.int (1 : Int32))) (fun h => by rw [Bd.returns] at h; cases h)
  refine ⟨_, _, pre0 _ (st1 _ (st2 _ (st3 _ (st4 _ (st5 _ (st6 _ ?_)))))), hrun, hended, _, _, rfl, ?_, ⟨_, rfl⟩, hW, hsame.mono (by decide) (by decide)⟩
  · refine XS.istore X4.here hx rfl (hb hby d6_13) rfl (l' := #[.val (.ref r0), .val (.int (1 : Int32)), .val (.ref r2), .val (.int (1 : Int32)), .val (.int (4 : Int32)), .val (.int (1 : Int32)), .val (.int c1)]) rfl ?_
    refine XS.iload X4.here hx rfl (hb hby d6_15) rfl ?_
    refine XS.sipush X4.here hx rfl (hb hby d6_17) ?_
    refine XS.icmpNo X4.here hx rfl (hb hby d6_20) rfl (tlt l1).2.2.2 ?_
    refine XS.iload X4.here hx rfl (hb hby d6_23) rfl ?_
    show Steps p.tables e below (T4.setTop (mkF m 25 #[.val (.ref r0), .val (.int (1 : Int32)), .val (.ref r2), .val (.int (1 : Int32)), .val (.int (4 : Int32)), .val (.int (1 : Int32)), .val (.int c1)] [(.int (1 : Int32))])) _
    exact retI X4 hx Bd.returns (hb hby d6_25) hr
  · show Q_rmCi1_4 Z r0 r2 kc kb c0 c1 c2 c3 h0 n0 _ T4.heap _
    rw [e4]
    exact ⟨rfl, N4, Kp_4⟩
theorem ef_rmCi2_4 (m : MethodId) (x0 : Addr) (x1 : Int32) (x2 : Addr) (x3 : Int32) (x4 : Int32) : entryFrame m #[(.ref x0), (.int x1), (.ref x2), (.int x1), (.int x4)] 7 = mkF m 0 #[.val (.ref x0), .val (.int x1), .val (.ref x2), .val (.int x1), .val (.int x4), .unset, .unset] [] := by first | (simp [entryFrame, mkF, argsToLocals, Value.category]; done) | rfl
def Q_rmCi2_4 (Z : State) (r0 : Addr) (r2 : Addr) (kc : ClassId) (kb : ClassId) (c0 : Int32) (c1 : Int32) (c2 : Int32) (c3 : Int32) (h0 : Heap) (n0 : Nat) (v : Option Value) (h : Heap) (L : List Loc) : Prop := v = some (.int (2 : Int32)) ∧ Fr n0 L ∧ Keep h0 h [r2]
set_option maxRecDepth 65536 in
set_option maxHeartbeats 40000000 in
theorem rmCi2_4 (l : Launch) (Z : State) (a0 : Array Value) (hw : ∀ d ∈ tables_1, d.before a0 Z = true) (ws : List Jvm.Cond) (r0 : Addr) (r2 : Addr) (kc : ClassId) (kb : ClassId) (c0 : Int32) (c1 : Int32) (c2 : Int32) (c3 : Int32) (h0 : Heap) (n0 : Nat) (Z0 : n0 ≤ h0.size) (Vc : Arv Z h0 r0 kc .char (4 : Int32) [(.int c0), (.int c1), (.int c2), (.int c3)] (.int (0 : Int32))) (Vb : Arv Z h0 r2 kb .byte (4 : Int32) [(.int (0 : Int32)), (.int (0 : Int32)), (.int (0 : Int32)), (.int (0 : Int32))] (.int (0 : Int32))) (g_r2 : n0 ≤ r2) (hne : r0 ≠ r2) (l0 : ¬ (255 : Int32) < c0) (l1 : ¬ (255 : Int32) < c1) (l2 : (255 : Int32) < c2) :
    MetFree l (⟨"java/lang/StringUTF16", "compress", "([CI[BII)I"⟩ : MethodName) (head1 (Jvm.Cond.code (⟨"java/lang/StringUTF16", "compress", "([CI[BII)I"⟩ : MethodName) jdk_52_method_21_code 7 (some .int) :: ws) ({ frames := 0, cells := 0, slots := 0, locals := 0 } : Room)) (fun a U => a = #[(.ref r0), (.int (0 : Int32)), (.ref r2), (.int (0 : Int32)), (.int (4 : Int32))] ∧ Z.Warmed39 U.vm ∧ U.heap = h0) (fun _ _ _ _ _ => True) (fun _ U o U' => ∃ v L, o = .returned v ∧ Q_rmCi2_4 Z r0 r2 kc kb c0 c1 c2 c3 h0 n0 v U'.heap L ∧ FrameEnd U o U' L ({ frames := 0, cells := 0, slots := 0, locals := 0 } : Room).cells ({ frames := 0, cells := 0, slots := 0, locals := 0 } : Room).slots) := by
  refine MetFree.of_bodySF (plainFor_of_name pn_0) hisR ?_
  intro p e s m args below meth c s₁ Bd hml0 hP hK
  obtain ⟨rfl, hZ, hh⟩ := hP
  have hx := Bd.exec
  have hby := Bd.bytes
  have hml : c.maxLocals = 7 := hml0
  have hown : s.vm.findClass "java/lang/StringUTF16" = some m.cls := findClass_of_methodNamed Bd.named
  have hnm := (name_of_methodNamed Bd.named Bd.method).1
  have X0 : Stand p l e ({ frames := 0, cells := 0, slots := 0, locals := 0 } : Room) s m #[(.ref r0), (.int (0 : Int32)), (.ref r2), (.int (0 : Int32)), (.int (4 : Int32))] below meth c s₁ [] 0 0 := Stand.of_body Bd
  have e0 : s₁.heap = h0 := by rw [← hh, Bd.state]; rfl
  have N0 := Fr.nil n0
  have pre0 : ∀ t, Steps p.tables e below (s₁.setTop (mkF m 0 #[.val (.ref r0), .val (.int (0 : Int32)), .val (.ref r2), .val (.int (0 : Int32)), .val (.int (4 : Int32)), .unset, .unset] [])) t → Steps p.tables e below (s₁.setTop (entryFrame m #[(.ref r0), (.int (0 : Int32)), (.ref r2), (.int (0 : Int32)), (.int (4 : Int32))] 7)) t := fun t k => castTop (ef_rmCi2_4 m r0 (0 : Int32) r2 (0 : Int32) (4 : Int32)) k
  have Kp : Keep h0 h0 [r2] := Keep.refl _ _
  have st1 : own_S p e below s₁ (mkF m 12 #[.val (.ref r0), .val (.int (0 : Int32)), .val (.ref r2), .val (.int (0 : Int32)), .val (.int (4 : Int32)), .val (.int (0 : Int32)), .unset] [(.int (0 : Int32)), (.ref r0)]) (mkF m 0 #[.val (.ref r0), .val (.int (0 : Int32)), .val (.ref r2), .val (.int (0 : Int32)), .val (.int (4 : Int32)), .unset, .unset] []) := by
    intro target kt
    refine XS.iconst X0.here hx rfl (hb hby d6_0) ?_
    refine XS.istore X0.here hx rfl (hb hby d6_1) rfl (l' := #[.val (.ref r0), .val (.int (0 : Int32)), .val (.ref r2), .val (.int (0 : Int32)), .val (.int (4 : Int32)), .val (.int (0 : Int32)), .unset]) rfl ?_
    refine XS.iload X0.here hx rfl (hb hby d6_3) rfl ?_
    refine XS.iload X0.here hx rfl (hb hby d6_5) rfl ?_
    refine XS.icmpNo X0.here hx rfl (hb hby d6_7) rfl (tlt (by decide : ((0 : Int32) < (4 : Int32)))).2.1 ?_
    refine XS.aloadN X0.here hx rfl (hb hby d6_10) rfl rfl ?_
    refine XS.iloadN X0.here hx rfl (hb hby d6_11) rfl ?_
    exact kt
  obtain ⟨cl2, Ar2, qc2, Sz2, Mn2, Hs2, Gs2⟩ := id Vc
  have hin2 : ¬ ((0 : Int32) < 0 ∨ cl2.slots.size ≤ ((0 : Int32)).toNatClampNeg) := inb_of Sz2 ⟨by decide, by decide⟩
  have hat2 : cl2.slots[((0 : Int32)).toNatClampNeg]? = some (.int c0) := Hs2.at hin2 rfl
  have st2 : own_S p e below s₁ (mkF m 13 #[.val (.ref r0), .val (.int (0 : Int32)), .val (.ref r2), .val (.int (0 : Int32)), .val (.int (4 : Int32)), .val (.int (0 : Int32)), .unset] [(.int c0)]) (mkF m 12 #[.val (.ref r0), .val (.int (0 : Int32)), .val (.ref r2), .val (.int (0 : Int32)), .val (.int (4 : Int32)), .val (.int (0 : Int32)), .unset] [(.int (0 : Int32)), (.ref r0)]) := fun target kt => X0.caload hx (j := (0 : Int32)) (v := (.int c0)) (by rw [e0]; exact Ar2.1) (State.isArrayOf_alike hZ.alike Ar2.2.1) Ar2.2.2 hin2 hat2 (g := (mkF m 12 #[.val (.ref r0), .val (.int (0 : Int32)), .val (.ref r2), .val (.int (0 : Int32)), .val (.int (4 : Int32)), .val (.int (0 : Int32)), .unset] [(.int (0 : Int32)), (.ref r0)])) rfl rfl (hb hby d6_12) _ kt
  have st3 : own_S p e below s₁ (mkF m 31 #[.val (.ref r0), .val (.int (0 : Int32)), .val (.ref r2), .val (.int (0 : Int32)), .val (.int (4 : Int32)), .val (.int (0 : Int32)), .val (.int c0)] [(.int (c0.toInt8.toInt32)), (.int (0 : Int32)), (.ref r2)]) (mkF m 13 #[.val (.ref r0), .val (.int (0 : Int32)), .val (.ref r2), .val (.int (0 : Int32)), .val (.int (4 : Int32)), .val (.int (0 : Int32)), .unset] [(.int c0)]) := by
    intro target kt
    refine XS.istore X0.here hx rfl (hb hby d6_13) rfl (l' := #[.val (.ref r0), .val (.int (0 : Int32)), .val (.ref r2), .val (.int (0 : Int32)), .val (.int (4 : Int32)), .val (.int (0 : Int32)), .val (.int c0)]) rfl ?_
    refine XS.iload X0.here hx rfl (hb hby d6_15) rfl ?_
    refine XS.sipush X0.here hx rfl (hb hby d6_17) ?_
    refine XS.icmpYes X0.here hx rfl (pc0 := 20) (pc' := 26) rfl (hb hby d6_20) rfl (flt l0).2.2.2 (by decide) (by decide) ?_
    refine XS.aloadN X0.here hx rfl (hb hby d6_26) rfl rfl ?_
    refine XS.iloadN X0.here hx rfl (hb hby d6_27) rfl ?_
    refine XS.iload X0.here hx rfl (hb hby d6_28) rfl ?_
    refine XS.i2b X0.here hx rfl (hb hby d6_30) rfl ?_
    exact kt
  obtain ⟨cl4, Ar4, qc4, Sz4, Mn4, Hs4, Gs4⟩ := id Vb
  have hin4 : ¬ ((0 : Int32) < 0 ∨ cl4.slots.size ≤ ((0 : Int32)).toNatClampNeg) := inb_of Sz4 ⟨by decide, by decide⟩
  obtain ⟨T4, h4, X4, e4, W4, st4⟩ := stB X0 hx hZ e0 Ar4 (j := (0 : Int32)) hin4 (g := (mkF m 31 #[.val (.ref r0), .val (.int (0 : Int32)), .val (.ref r2), .val (.int (0 : Int32)), .val (.int (4 : Int32)), .val (.int (0 : Int32)), .val (.int c0)] [(.int (c0.toInt8.toInt32)), (.int (0 : Int32)), (.ref r2)])) rfl rfl (hb hby d6_31)
  have V_r2_4 : Arv Z h4 r2 kb .byte (4 : Int32) [(.int (nar .byte (c0.toInt8.toInt32))), (.int (0 : Int32)), (.int (0 : Int32)), (.int (0 : Int32))] (.int (0 : Int32)) := Arv.set Ar4 qc4 Sz4 Mn4 Hs4 Gs4 (fits_nar_byte _) W4 0 rfl (Nat.le_of_ble_eq_true rfl)
  have Vc_4 := Vc.other W4 hne
  have Z_4 : n0 ≤ h4.size := Nat.le_trans Z0 (Keep.of_wr W4).1
  have Kp_4 : Keep h0 h4 [r2] := Kp.wr W4 (Or.inl (List.mem_of_getElem? (i := 0) rfl))
  have N4 := Fr.snoc X4 N0 g_r2
  have st5 : own_S p e below T4 (mkF m 12 #[.val (.ref r0), .val (.int (1 : Int32)), .val (.ref r2), .val (.int (1 : Int32)), .val (.int (4 : Int32)), .val (.int (1 : Int32)), .val (.int c0)] [(.int (1 : Int32)), (.ref r0)]) (mkF m 32 #[.val (.ref r0), .val (.int (0 : Int32)), .val (.ref r2), .val (.int (0 : Int32)), .val (.int (4 : Int32)), .val (.int (0 : Int32)), .val (.int c0)] []) := by
    intro target kt
    refine XS.iinc X4.here hx rfl (hb hby d6_32) rfl (l' := #[.val (.ref r0), .val (.int (1 : Int32)), .val (.ref r2), .val (.int (0 : Int32)), .val (.int (4 : Int32)), .val (.int (0 : Int32)), .val (.int c0)]) rfl ?_
    refine XS.iinc X4.here hx rfl (hb hby d6_35) rfl (l' := #[.val (.ref r0), .val (.int (1 : Int32)), .val (.ref r2), .val (.int (1 : Int32)), .val (.int (4 : Int32)), .val (.int (0 : Int32)), .val (.int c0)]) rfl ?_
    refine XS.iinc X4.here hx rfl (hb hby d6_38) rfl (l' := #[.val (.ref r0), .val (.int (1 : Int32)), .val (.ref r2), .val (.int (1 : Int32)), .val (.int (4 : Int32)), .val (.int (1 : Int32)), .val (.int c0)]) rfl ?_
    refine XS.goto X4.here hx rfl (pc0 := 41) (pc' := 3) rfl (hb hby d6_41) (by decide) (by decide) ?_
    refine XS.iload X4.here hx rfl (hb hby d6_3) rfl ?_
    refine XS.iload X4.here hx rfl (hb hby d6_5) rfl ?_
    refine XS.icmpNo X4.here hx rfl (hb hby d6_7) rfl (tlt (by decide : ((1 : Int32) < (4 : Int32)))).2.1 ?_
    refine XS.aloadN X4.here hx rfl (hb hby d6_10) rfl rfl ?_
    refine XS.iloadN X4.here hx rfl (hb hby d6_11) rfl ?_
    exact kt
  obtain ⟨cl6, Ar6, qc6, Sz6, Mn6, Hs6, Gs6⟩ := id Vc_4
  have hin6 : ¬ ((1 : Int32) < 0 ∨ cl6.slots.size ≤ ((1 : Int32)).toNatClampNeg) := inb_of Sz6 ⟨by decide, by decide⟩
  have hat6 : cl6.slots[((1 : Int32)).toNatClampNeg]? = some (.int c1) := Hs6.at hin6 rfl
  have st6 : own_S p e below T4 (mkF m 13 #[.val (.ref r0), .val (.int (1 : Int32)), .val (.ref r2), .val (.int (1 : Int32)), .val (.int (4 : Int32)), .val (.int (1 : Int32)), .val (.int c0)] [(.int c1)]) (mkF m 12 #[.val (.ref r0), .val (.int (1 : Int32)), .val (.ref r2), .val (.int (1 : Int32)), .val (.int (4 : Int32)), .val (.int (1 : Int32)), .val (.int c0)] [(.int (1 : Int32)), (.ref r0)]) := fun target kt => X4.caload hx (j := (1 : Int32)) (v := (.int c1)) (by rw [e4]; exact Ar6.1) (State.isArrayOf_alike hZ.alike Ar6.2.1) Ar6.2.2 hin6 hat6 (g := (mkF m 12 #[.val (.ref r0), .val (.int (1 : Int32)), .val (.ref r2), .val (.int (1 : Int32)), .val (.int (4 : Int32)), .val (.int (1 : Int32)), .val (.int c0)] [(.int (1 : Int32)), (.ref r0)])) rfl rfl (hb hby d6_12) _ kt
  have st7 : own_S p e below T4 (mkF m 31 #[.val (.ref r0), .val (.int (1 : Int32)), .val (.ref r2), .val (.int (1 : Int32)), .val (.int (4 : Int32)), .val (.int (1 : Int32)), .val (.int c1)] [(.int (c1.toInt8.toInt32)), (.int (1 : Int32)), (.ref r2)]) (mkF m 13 #[.val (.ref r0), .val (.int (1 : Int32)), .val (.ref r2), .val (.int (1 : Int32)), .val (.int (4 : Int32)), .val (.int (1 : Int32)), .val (.int c0)] [(.int c1)]) := by
    intro target kt
    refine XS.istore X4.here hx rfl (hb hby d6_13) rfl (l' := #[.val (.ref r0), .val (.int (1 : Int32)), .val (.ref r2), .val (.int (1 : Int32)), .val (.int (4 : Int32)), .val (.int (1 : Int32)), .val (.int c1)]) rfl ?_
    refine XS.iload X4.here hx rfl (hb hby d6_15) rfl ?_
    refine XS.sipush X4.here hx rfl (hb hby d6_17) ?_
    refine XS.icmpYes X4.here hx rfl (pc0 := 20) (pc' := 26) rfl (hb hby d6_20) rfl (flt l1).2.2.2 (by decide) (by decide) ?_
    refine XS.aloadN X4.here hx rfl (hb hby d6_26) rfl rfl ?_
    refine XS.iloadN X4.here hx rfl (hb hby d6_27) rfl ?_
    refine XS.iload X4.here hx rfl (hb hby d6_28) rfl ?_
    refine XS.i2b X4.here hx rfl (hb hby d6_30) rfl ?_
    exact kt
  obtain ⟨cl8, Ar8, qc8, Sz8, Mn8, Hs8, Gs8⟩ := id V_r2_4
  have hin8 : ¬ ((1 : Int32) < 0 ∨ cl8.slots.size ≤ ((1 : Int32)).toNatClampNeg) := inb_of Sz8 ⟨by decide, by decide⟩
  obtain ⟨T8, h8, X8, e8, W8, st8⟩ := stB X4 hx hZ e4 Ar8 (j := (1 : Int32)) hin8 (g := (mkF m 31 #[.val (.ref r0), .val (.int (1 : Int32)), .val (.ref r2), .val (.int (1 : Int32)), .val (.int (4 : Int32)), .val (.int (1 : Int32)), .val (.int c1)] [(.int (c1.toInt8.toInt32)), (.int (1 : Int32)), (.ref r2)])) rfl rfl (hb hby d6_31)
  have V_r2_8 : Arv Z h8 r2 kb .byte (4 : Int32) [(.int (nar .byte (c0.toInt8.toInt32))), (.int (nar .byte (c1.toInt8.toInt32))), (.int (0 : Int32)), (.int (0 : Int32))] (.int (0 : Int32)) := Arv.set Ar8 qc8 Sz8 Mn8 Hs8 Gs8 (fits_nar_byte _) W8 1 rfl (Nat.le_of_ble_eq_true rfl)
  have Vc_8 := Vc_4.other W8 hne
  have Z_8 : n0 ≤ h8.size := Nat.le_trans Z_4 (Keep.of_wr W8).1
  have Kp_8 : Keep h0 h8 [r2] := Kp_4.wr W8 (Or.inl (List.mem_of_getElem? (i := 0) rfl))
  have N8 := Fr.snoc X8 N4 g_r2
  have st9 : own_S p e below T8 (mkF m 12 #[.val (.ref r0), .val (.int (2 : Int32)), .val (.ref r2), .val (.int (2 : Int32)), .val (.int (4 : Int32)), .val (.int (2 : Int32)), .val (.int c1)] [(.int (2 : Int32)), (.ref r0)]) (mkF m 32 #[.val (.ref r0), .val (.int (1 : Int32)), .val (.ref r2), .val (.int (1 : Int32)), .val (.int (4 : Int32)), .val (.int (1 : Int32)), .val (.int c1)] []) := by
    intro target kt
    refine XS.iinc X8.here hx rfl (hb hby d6_32) rfl (l' := #[.val (.ref r0), .val (.int (2 : Int32)), .val (.ref r2), .val (.int (1 : Int32)), .val (.int (4 : Int32)), .val (.int (1 : Int32)), .val (.int c1)]) rfl ?_
    refine XS.iinc X8.here hx rfl (hb hby d6_35) rfl (l' := #[.val (.ref r0), .val (.int (2 : Int32)), .val (.ref r2), .val (.int (2 : Int32)), .val (.int (4 : Int32)), .val (.int (1 : Int32)), .val (.int c1)]) rfl ?_
    refine XS.iinc X8.here hx rfl (hb hby d6_38) rfl (l' := #[.val (.ref r0), .val (.int (2 : Int32)), .val (.ref r2), .val (.int (2 : Int32)), .val (.int (4 : Int32)), .val (.int (2 : Int32)), .val (.int c1)]) rfl ?_
    refine XS.goto X8.here hx rfl (pc0 := 41) (pc' := 3) rfl (hb hby d6_41) (by decide) (by decide) ?_
    refine XS.iload X8.here hx rfl (hb hby d6_3) rfl ?_
    refine XS.iload X8.here hx rfl (hb hby d6_5) rfl ?_
    refine XS.icmpNo X8.here hx rfl (hb hby d6_7) rfl (tlt (by decide : ((2 : Int32) < (4 : Int32)))).2.1 ?_
    refine XS.aloadN X8.here hx rfl (hb hby d6_10) rfl rfl ?_
    refine XS.iloadN X8.here hx rfl (hb hby d6_11) rfl ?_
    exact kt
  obtain ⟨cl10, Ar10, qc10, Sz10, Mn10, Hs10, Gs10⟩ := id Vc_8
  have hin10 : ¬ ((2 : Int32) < 0 ∨ cl10.slots.size ≤ ((2 : Int32)).toNatClampNeg) := inb_of Sz10 ⟨by decide, by decide⟩
  have hat10 : cl10.slots[((2 : Int32)).toNatClampNeg]? = some (.int c2) := Hs10.at hin10 rfl
  have st10 : own_S p e below T8 (mkF m 13 #[.val (.ref r0), .val (.int (2 : Int32)), .val (.ref r2), .val (.int (2 : Int32)), .val (.int (4 : Int32)), .val (.int (2 : Int32)), .val (.int c1)] [(.int c2)]) (mkF m 12 #[.val (.ref r0), .val (.int (2 : Int32)), .val (.ref r2), .val (.int (2 : Int32)), .val (.int (4 : Int32)), .val (.int (2 : Int32)), .val (.int c1)] [(.int (2 : Int32)), (.ref r0)]) := fun target kt => X8.caload hx (j := (2 : Int32)) (v := (.int c2)) (by rw [e8]; exact Ar10.1) (State.isArrayOf_alike hZ.alike Ar10.2.1) Ar10.2.2 hin10 hat10 (g := (mkF m 12 #[.val (.ref r0), .val (.int (2 : Int32)), .val (.ref r2), .val (.int (2 : Int32)), .val (.int (4 : Int32)), .val (.int (2 : Int32)), .val (.int c1)] [(.int (2 : Int32)), (.ref r0)])) rfl rfl (hb hby d6_12) _ kt
  obtain ⟨fs, hr, hrun, hended, hW, hsame⟩ := X8.leave (v := some (.int (2 : Int32))) (fun h => by rw [Bd.returns] at h; cases h)
  refine ⟨_, _, pre0 _ (st1 _ (st2 _ (st3 _ (st4 _ (st5 _ (st6 _ (st7 _ (st8 _ (st9 _ (st10 _ ?_)))))))))), hrun, hended, _, _, rfl, ?_, ⟨_, rfl⟩, hW, hsame.mono (by decide) (by decide)⟩
  · refine XS.istore X8.here hx rfl (hb hby d6_13) rfl (l' := #[.val (.ref r0), .val (.int (2 : Int32)), .val (.ref r2), .val (.int (2 : Int32)), .val (.int (4 : Int32)), .val (.int (2 : Int32)), .val (.int c2)]) rfl ?_
    refine XS.iload X8.here hx rfl (hb hby d6_15) rfl ?_
    refine XS.sipush X8.here hx rfl (hb hby d6_17) ?_
    refine XS.icmpNo X8.here hx rfl (hb hby d6_20) rfl (tlt l2).2.2.2 ?_
    refine XS.iload X8.here hx rfl (hb hby d6_23) rfl ?_
    show Steps p.tables e below (T8.setTop (mkF m 25 #[.val (.ref r0), .val (.int (2 : Int32)), .val (.ref r2), .val (.int (2 : Int32)), .val (.int (4 : Int32)), .val (.int (2 : Int32)), .val (.int c2)] [(.int (2 : Int32))])) _
    exact retI X8 hx Bd.returns (hb hby d6_25) hr
  · show Q_rmCi2_4 Z r0 r2 kc kb c0 c1 c2 c3 h0 n0 _ T8.heap _
    rw [e8]
    exact ⟨rfl, N8, Kp_8⟩
theorem ef_rmCi3_4 (m : MethodId) (x0 : Addr) (x1 : Int32) (x2 : Addr) (x3 : Int32) (x4 : Int32) : entryFrame m #[(.ref x0), (.int x1), (.ref x2), (.int x1), (.int x4)] 7 = mkF m 0 #[.val (.ref x0), .val (.int x1), .val (.ref x2), .val (.int x1), .val (.int x4), .unset, .unset] [] := by first | (simp [entryFrame, mkF, argsToLocals, Value.category]; done) | rfl
def Q_rmCi3_4 (Z : State) (r0 : Addr) (r2 : Addr) (kc : ClassId) (kb : ClassId) (c0 : Int32) (c1 : Int32) (c2 : Int32) (c3 : Int32) (h0 : Heap) (n0 : Nat) (v : Option Value) (h : Heap) (L : List Loc) : Prop := v = some (.int (3 : Int32)) ∧ Fr n0 L ∧ Keep h0 h [r2]
set_option maxRecDepth 65536 in
set_option maxHeartbeats 40000000 in
theorem rmCi3_4 (l : Launch) (Z : State) (a0 : Array Value) (hw : ∀ d ∈ tables_1, d.before a0 Z = true) (ws : List Jvm.Cond) (r0 : Addr) (r2 : Addr) (kc : ClassId) (kb : ClassId) (c0 : Int32) (c1 : Int32) (c2 : Int32) (c3 : Int32) (h0 : Heap) (n0 : Nat) (Z0 : n0 ≤ h0.size) (Vc : Arv Z h0 r0 kc .char (4 : Int32) [(.int c0), (.int c1), (.int c2), (.int c3)] (.int (0 : Int32))) (Vb : Arv Z h0 r2 kb .byte (4 : Int32) [(.int (0 : Int32)), (.int (0 : Int32)), (.int (0 : Int32)), (.int (0 : Int32))] (.int (0 : Int32))) (g_r2 : n0 ≤ r2) (hne : r0 ≠ r2) (l0 : ¬ (255 : Int32) < c0) (l1 : ¬ (255 : Int32) < c1) (l2 : ¬ (255 : Int32) < c2) (l3 : (255 : Int32) < c3) :
    MetFree l (⟨"java/lang/StringUTF16", "compress", "([CI[BII)I"⟩ : MethodName) (head1 (Jvm.Cond.code (⟨"java/lang/StringUTF16", "compress", "([CI[BII)I"⟩ : MethodName) jdk_52_method_21_code 7 (some .int) :: ws) ({ frames := 0, cells := 0, slots := 0, locals := 0 } : Room)) (fun a U => a = #[(.ref r0), (.int (0 : Int32)), (.ref r2), (.int (0 : Int32)), (.int (4 : Int32))] ∧ Z.Warmed39 U.vm ∧ U.heap = h0) (fun _ _ _ _ _ => True) (fun _ U o U' => ∃ v L, o = .returned v ∧ Q_rmCi3_4 Z r0 r2 kc kb c0 c1 c2 c3 h0 n0 v U'.heap L ∧ FrameEnd U o U' L ({ frames := 0, cells := 0, slots := 0, locals := 0 } : Room).cells ({ frames := 0, cells := 0, slots := 0, locals := 0 } : Room).slots) := by
  refine MetFree.of_bodySF (plainFor_of_name pn_0) hisR ?_
  intro p e s m args below meth c s₁ Bd hml0 hP hK
  obtain ⟨rfl, hZ, hh⟩ := hP
  have hx := Bd.exec
  have hby := Bd.bytes
  have hml : c.maxLocals = 7 := hml0
  have hown : s.vm.findClass "java/lang/StringUTF16" = some m.cls := findClass_of_methodNamed Bd.named
  have hnm := (name_of_methodNamed Bd.named Bd.method).1
  have X0 : Stand p l e ({ frames := 0, cells := 0, slots := 0, locals := 0 } : Room) s m #[(.ref r0), (.int (0 : Int32)), (.ref r2), (.int (0 : Int32)), (.int (4 : Int32))] below meth c s₁ [] 0 0 := Stand.of_body Bd
  have e0 : s₁.heap = h0 := by rw [← hh, Bd.state]; rfl
  have N0 := Fr.nil n0
  have pre0 : ∀ t, Steps p.tables e below (s₁.setTop (mkF m 0 #[.val (.ref r0), .val (.int (0 : Int32)), .val (.ref r2), .val (.int (0 : Int32)), .val (.int (4 : Int32)), .unset, .unset] [])) t → Steps p.tables e below (s₁.setTop (entryFrame m #[(.ref r0), (.int (0 : Int32)), (.ref r2), (.int (0 : Int32)), (.int (4 : Int32))] 7)) t := fun t k => castTop (ef_rmCi3_4 m r0 (0 : Int32) r2 (0 : Int32) (4 : Int32)) k
  have Kp : Keep h0 h0 [r2] := Keep.refl _ _
  have st1 : own_S p e below s₁ (mkF m 12 #[.val (.ref r0), .val (.int (0 : Int32)), .val (.ref r2), .val (.int (0 : Int32)), .val (.int (4 : Int32)), .val (.int (0 : Int32)), .unset] [(.int (0 : Int32)), (.ref r0)]) (mkF m 0 #[.val (.ref r0), .val (.int (0 : Int32)), .val (.ref r2), .val (.int (0 : Int32)), .val (.int (4 : Int32)), .unset, .unset] []) := by
    intro target kt
    refine XS.iconst X0.here hx rfl (hb hby d6_0) ?_
    refine XS.istore X0.here hx rfl (hb hby d6_1) rfl (l' := #[.val (.ref r0), .val (.int (0 : Int32)), .val (.ref r2), .val (.int (0 : Int32)), .val (.int (4 : Int32)), .val (.int (0 : Int32)), .unset]) rfl ?_
    refine XS.iload X0.here hx rfl (hb hby d6_3) rfl ?_
    refine XS.iload X0.here hx rfl (hb hby d6_5) rfl ?_
    refine XS.icmpNo X0.here hx rfl (hb hby d6_7) rfl (tlt (by decide : ((0 : Int32) < (4 : Int32)))).2.1 ?_
    refine XS.aloadN X0.here hx rfl (hb hby d6_10) rfl rfl ?_
    refine XS.iloadN X0.here hx rfl (hb hby d6_11) rfl ?_
    exact kt
  obtain ⟨cl2, Ar2, qc2, Sz2, Mn2, Hs2, Gs2⟩ := id Vc
  have hin2 : ¬ ((0 : Int32) < 0 ∨ cl2.slots.size ≤ ((0 : Int32)).toNatClampNeg) := inb_of Sz2 ⟨by decide, by decide⟩
  have hat2 : cl2.slots[((0 : Int32)).toNatClampNeg]? = some (.int c0) := Hs2.at hin2 rfl
  have st2 : own_S p e below s₁ (mkF m 13 #[.val (.ref r0), .val (.int (0 : Int32)), .val (.ref r2), .val (.int (0 : Int32)), .val (.int (4 : Int32)), .val (.int (0 : Int32)), .unset] [(.int c0)]) (mkF m 12 #[.val (.ref r0), .val (.int (0 : Int32)), .val (.ref r2), .val (.int (0 : Int32)), .val (.int (4 : Int32)), .val (.int (0 : Int32)), .unset] [(.int (0 : Int32)), (.ref r0)]) := fun target kt => X0.caload hx (j := (0 : Int32)) (v := (.int c0)) (by rw [e0]; exact Ar2.1) (State.isArrayOf_alike hZ.alike Ar2.2.1) Ar2.2.2 hin2 hat2 (g := (mkF m 12 #[.val (.ref r0), .val (.int (0 : Int32)), .val (.ref r2), .val (.int (0 : Int32)), .val (.int (4 : Int32)), .val (.int (0 : Int32)), .unset] [(.int (0 : Int32)), (.ref r0)])) rfl rfl (hb hby d6_12) _ kt
  have st3 : own_S p e below s₁ (mkF m 31 #[.val (.ref r0), .val (.int (0 : Int32)), .val (.ref r2), .val (.int (0 : Int32)), .val (.int (4 : Int32)), .val (.int (0 : Int32)), .val (.int c0)] [(.int (c0.toInt8.toInt32)), (.int (0 : Int32)), (.ref r2)]) (mkF m 13 #[.val (.ref r0), .val (.int (0 : Int32)), .val (.ref r2), .val (.int (0 : Int32)), .val (.int (4 : Int32)), .val (.int (0 : Int32)), .unset] [(.int c0)]) := by
    intro target kt
    refine XS.istore X0.here hx rfl (hb hby d6_13) rfl (l' := #[.val (.ref r0), .val (.int (0 : Int32)), .val (.ref r2), .val (.int (0 : Int32)), .val (.int (4 : Int32)), .val (.int (0 : Int32)), .val (.int c0)]) rfl ?_
    refine XS.iload X0.here hx rfl (hb hby d6_15) rfl ?_
    refine XS.sipush X0.here hx rfl (hb hby d6_17) ?_
    refine XS.icmpYes X0.here hx rfl (pc0 := 20) (pc' := 26) rfl (hb hby d6_20) rfl (flt l0).2.2.2 (by decide) (by decide) ?_
    refine XS.aloadN X0.here hx rfl (hb hby d6_26) rfl rfl ?_
    refine XS.iloadN X0.here hx rfl (hb hby d6_27) rfl ?_
    refine XS.iload X0.here hx rfl (hb hby d6_28) rfl ?_
    refine XS.i2b X0.here hx rfl (hb hby d6_30) rfl ?_
    exact kt
  obtain ⟨cl4, Ar4, qc4, Sz4, Mn4, Hs4, Gs4⟩ := id Vb
  have hin4 : ¬ ((0 : Int32) < 0 ∨ cl4.slots.size ≤ ((0 : Int32)).toNatClampNeg) := inb_of Sz4 ⟨by decide, by decide⟩
  obtain ⟨T4, h4, X4, e4, W4, st4⟩ := stB X0 hx hZ e0 Ar4 (j := (0 : Int32)) hin4 (g := (mkF m 31 #[.val (.ref r0), .val (.int (0 : Int32)), .val (.ref r2), .val (.int (0 : Int32)), .val (.int (4 : Int32)), .val (.int (0 : Int32)), .val (.int c0)] [(.int (c0.toInt8.toInt32)), (.int (0 : Int32)), (.ref r2)])) rfl rfl (hb hby d6_31)
  have V_r2_4 : Arv Z h4 r2 kb .byte (4 : Int32) [(.int (nar .byte (c0.toInt8.toInt32))), (.int (0 : Int32)), (.int (0 : Int32)), (.int (0 : Int32))] (.int (0 : Int32)) := Arv.set Ar4 qc4 Sz4 Mn4 Hs4 Gs4 (fits_nar_byte _) W4 0 rfl (Nat.le_of_ble_eq_true rfl)
  have Vc_4 := Vc.other W4 hne
  have Z_4 : n0 ≤ h4.size := Nat.le_trans Z0 (Keep.of_wr W4).1
  have Kp_4 : Keep h0 h4 [r2] := Kp.wr W4 (Or.inl (List.mem_of_getElem? (i := 0) rfl))
  have N4 := Fr.snoc X4 N0 g_r2
  have st5 : own_S p e below T4 (mkF m 12 #[.val (.ref r0), .val (.int (1 : Int32)), .val (.ref r2), .val (.int (1 : Int32)), .val (.int (4 : Int32)), .val (.int (1 : Int32)), .val (.int c0)] [(.int (1 : Int32)), (.ref r0)]) (mkF m 32 #[.val (.ref r0), .val (.int (0 : Int32)), .val (.ref r2), .val (.int (0 : Int32)), .val (.int (4 : Int32)), .val (.int (0 : Int32)), .val (.int c0)] []) := by
    intro target kt
    refine XS.iinc X4.here hx rfl (hb hby d6_32) rfl (l' := #[.val (.ref r0), .val (.int (1 : Int32)), .val (.ref r2), .val (.int (0 : Int32)), .val (.int (4 : Int32)), .val (.int (0 : Int32)), .val (.int c0)]) rfl ?_
    refine XS.iinc X4.here hx rfl (hb hby d6_35) rfl (l' := #[.val (.ref r0), .val (.int (1 : Int32)), .val (.ref r2), .val (.int (1 : Int32)), .val (.int (4 : Int32)), .val (.int (0 : Int32)), .val (.int c0)]) rfl ?_
    refine XS.iinc X4.here hx rfl (hb hby d6_38) rfl (l' := #[.val (.ref r0), .val (.int (1 : Int32)), .val (.ref r2), .val (.int (1 : Int32)), .val (.int (4 : Int32)), .val (.int (1 : Int32)), .val (.int c0)]) rfl ?_
    refine XS.goto X4.here hx rfl (pc0 := 41) (pc' := 3) rfl (hb hby d6_41) (by decide) (by decide) ?_
    refine XS.iload X4.here hx rfl (hb hby d6_3) rfl ?_
    refine XS.iload X4.here hx rfl (hb hby d6_5) rfl ?_
    refine XS.icmpNo X4.here hx rfl (hb hby d6_7) rfl (tlt (by decide : ((1 : Int32) < (4 : Int32)))).2.1 ?_
    refine XS.aloadN X4.here hx rfl (hb hby d6_10) rfl rfl ?_
    refine XS.iloadN X4.here hx rfl (hb hby d6_11) rfl ?_
    exact kt
  obtain ⟨cl6, Ar6, qc6, Sz6, Mn6, Hs6, Gs6⟩ := id Vc_4
  have hin6 : ¬ ((1 : Int32) < 0 ∨ cl6.slots.size ≤ ((1 : Int32)).toNatClampNeg) := inb_of Sz6 ⟨by decide, by decide⟩
  have hat6 : cl6.slots[((1 : Int32)).toNatClampNeg]? = some (.int c1) := Hs6.at hin6 rfl
  have st6 : own_S p e below T4 (mkF m 13 #[.val (.ref r0), .val (.int (1 : Int32)), .val (.ref r2), .val (.int (1 : Int32)), .val (.int (4 : Int32)), .val (.int (1 : Int32)), .val (.int c0)] [(.int c1)]) (mkF m 12 #[.val (.ref r0), .val (.int (1 : Int32)), .val (.ref r2), .val (.int (1 : Int32)), .val (.int (4 : Int32)), .val (.int (1 : Int32)), .val (.int c0)] [(.int (1 : Int32)), (.ref r0)]) := fun target kt => X4.caload hx (j := (1 : Int32)) (v := (.int c1)) (by rw [e4]; exact Ar6.1) (State.isArrayOf_alike hZ.alike Ar6.2.1) Ar6.2.2 hin6 hat6 (g := (mkF m 12 #[.val (.ref r0), .val (.int (1 : Int32)), .val (.ref r2), .val (.int (1 : Int32)), .val (.int (4 : Int32)), .val (.int (1 : Int32)), .val (.int c0)] [(.int (1 : Int32)), (.ref r0)])) rfl rfl (hb hby d6_12) _ kt
  have st7 : own_S p e below T4 (mkF m 31 #[.val (.ref r0), .val (.int (1 : Int32)), .val (.ref r2), .val (.int (1 : Int32)), .val (.int (4 : Int32)), .val (.int (1 : Int32)), .val (.int c1)] [(.int (c1.toInt8.toInt32)), (.int (1 : Int32)), (.ref r2)]) (mkF m 13 #[.val (.ref r0), .val (.int (1 : Int32)), .val (.ref r2), .val (.int (1 : Int32)), .val (.int (4 : Int32)), .val (.int (1 : Int32)), .val (.int c0)] [(.int c1)]) := by
    intro target kt
    refine XS.istore X4.here hx rfl (hb hby d6_13) rfl (l' := #[.val (.ref r0), .val (.int (1 : Int32)), .val (.ref r2), .val (.int (1 : Int32)), .val (.int (4 : Int32)), .val (.int (1 : Int32)), .val (.int c1)]) rfl ?_
    refine XS.iload X4.here hx rfl (hb hby d6_15) rfl ?_
    refine XS.sipush X4.here hx rfl (hb hby d6_17) ?_
    refine XS.icmpYes X4.here hx rfl (pc0 := 20) (pc' := 26) rfl (hb hby d6_20) rfl (flt l1).2.2.2 (by decide) (by decide) ?_
    refine XS.aloadN X4.here hx rfl (hb hby d6_26) rfl rfl ?_
    refine XS.iloadN X4.here hx rfl (hb hby d6_27) rfl ?_
    refine XS.iload X4.here hx rfl (hb hby d6_28) rfl ?_
    refine XS.i2b X4.here hx rfl (hb hby d6_30) rfl ?_
    exact kt
  obtain ⟨cl8, Ar8, qc8, Sz8, Mn8, Hs8, Gs8⟩ := id V_r2_4
  have hin8 : ¬ ((1 : Int32) < 0 ∨ cl8.slots.size ≤ ((1 : Int32)).toNatClampNeg) := inb_of Sz8 ⟨by decide, by decide⟩
  obtain ⟨T8, h8, X8, e8, W8, st8⟩ := stB X4 hx hZ e4 Ar8 (j := (1 : Int32)) hin8 (g := (mkF m 31 #[.val (.ref r0), .val (.int (1 : Int32)), .val (.ref r2), .val (.int (1 : Int32)), .val (.int (4 : Int32)), .val (.int (1 : Int32)), .val (.int c1)] [(.int (c1.toInt8.toInt32)), (.int (1 : Int32)), (.ref r2)])) rfl rfl (hb hby d6_31)
  have V_r2_8 : Arv Z h8 r2 kb .byte (4 : Int32) [(.int (nar .byte (c0.toInt8.toInt32))), (.int (nar .byte (c1.toInt8.toInt32))), (.int (0 : Int32)), (.int (0 : Int32))] (.int (0 : Int32)) := Arv.set Ar8 qc8 Sz8 Mn8 Hs8 Gs8 (fits_nar_byte _) W8 1 rfl (Nat.le_of_ble_eq_true rfl)
  have Vc_8 := Vc_4.other W8 hne
  have Z_8 : n0 ≤ h8.size := Nat.le_trans Z_4 (Keep.of_wr W8).1
  have Kp_8 : Keep h0 h8 [r2] := Kp_4.wr W8 (Or.inl (List.mem_of_getElem? (i := 0) rfl))
  have N8 := Fr.snoc X8 N4 g_r2
  have st9 : own_S p e below T8 (mkF m 12 #[.val (.ref r0), .val (.int (2 : Int32)), .val (.ref r2), .val (.int (2 : Int32)), .val (.int (4 : Int32)), .val (.int (2 : Int32)), .val (.int c1)] [(.int (2 : Int32)), (.ref r0)]) (mkF m 32 #[.val (.ref r0), .val (.int (1 : Int32)), .val (.ref r2), .val (.int (1 : Int32)), .val (.int (4 : Int32)), .val (.int (1 : Int32)), .val (.int c1)] []) := by
    intro target kt
    refine XS.iinc X8.here hx rfl (hb hby d6_32) rfl (l' := #[.val (.ref r0), .val (.int (2 : Int32)), .val (.ref r2), .val (.int (1 : Int32)), .val (.int (4 : Int32)), .val (.int (1 : Int32)), .val (.int c1)]) rfl ?_
    refine XS.iinc X8.here hx rfl (hb hby d6_35) rfl (l' := #[.val (.ref r0), .val (.int (2 : Int32)), .val (.ref r2), .val (.int (2 : Int32)), .val (.int (4 : Int32)), .val (.int (1 : Int32)), .val (.int c1)]) rfl ?_
    refine XS.iinc X8.here hx rfl (hb hby d6_38) rfl (l' := #[.val (.ref r0), .val (.int (2 : Int32)), .val (.ref r2), .val (.int (2 : Int32)), .val (.int (4 : Int32)), .val (.int (2 : Int32)), .val (.int c1)]) rfl ?_
    refine XS.goto X8.here hx rfl (pc0 := 41) (pc' := 3) rfl (hb hby d6_41) (by decide) (by decide) ?_
    refine XS.iload X8.here hx rfl (hb hby d6_3) rfl ?_
    refine XS.iload X8.here hx rfl (hb hby d6_5) rfl ?_
    refine XS.icmpNo X8.here hx rfl (hb hby d6_7) rfl (tlt (by decide : ((2 : Int32) < (4 : Int32)))).2.1 ?_
    refine XS.aloadN X8.here hx rfl (hb hby d6_10) rfl rfl ?_
    refine XS.iloadN X8.here hx rfl (hb hby d6_11) rfl ?_
    exact kt
  obtain ⟨cl10, Ar10, qc10, Sz10, Mn10, Hs10, Gs10⟩ := id Vc_8
  have hin10 : ¬ ((2 : Int32) < 0 ∨ cl10.slots.size ≤ ((2 : Int32)).toNatClampNeg) := inb_of Sz10 ⟨by decide, by decide⟩
  have hat10 : cl10.slots[((2 : Int32)).toNatClampNeg]? = some (.int c2) := Hs10.at hin10 rfl
  have st10 : own_S p e below T8 (mkF m 13 #[.val (.ref r0), .val (.int (2 : Int32)), .val (.ref r2), .val (.int (2 : Int32)), .val (.int (4 : Int32)), .val (.int (2 : Int32)), .val (.int c1)] [(.int c2)]) (mkF m 12 #[.val (.ref r0), .val (.int (2 : Int32)), .val (.ref r2), .val (.int (2 : Int32)), .val (.int (4 : Int32)), .val (.int (2 : Int32)), .val (.int c1)] [(.int (2 : Int32)), (.ref r0)]) := fun target kt => X8.caload hx (j := (2 : Int32)) (v := (.int c2)) (by rw [e8]; exact Ar10.1) (State.isArrayOf_alike hZ.alike Ar10.2.1) Ar10.2.2 hin10 hat10 (g := (mkF m 12 #[.val (.ref r0), .val (.int (2 : Int32)), .val (.ref r2), .val (.int (2 : Int32)), .val (.int (4 : Int32)), .val (.int (2 : Int32)), .val (.int c1)] [(.int (2 : Int32)), (.ref r0)])) rfl rfl (hb hby d6_12) _ kt
  have st11 : own_S p e below T8 (mkF m 31 #[.val (.ref r0), .val (.int (2 : Int32)), .val (.ref r2), .val (.int (2 : Int32)), .val (.int (4 : Int32)), .val (.int (2 : Int32)), .val (.int c2)] [(.int (c2.toInt8.toInt32)), (.int (2 : Int32)), (.ref r2)]) (mkF m 13 #[.val (.ref r0), .val (.int (2 : Int32)), .val (.ref r2), .val (.int (2 : Int32)), .val (.int (4 : Int32)), .val (.int (2 : Int32)), .val (.int c1)] [(.int c2)]) := by
    intro target kt
    refine XS.istore X8.here hx rfl (hb hby d6_13) rfl (l' := #[.val (.ref r0), .val (.int (2 : Int32)), .val (.ref r2), .val (.int (2 : Int32)), .val (.int (4 : Int32)), .val (.int (2 : Int32)), .val (.int c2)]) rfl ?_
    refine XS.iload X8.here hx rfl (hb hby d6_15) rfl ?_
    refine XS.sipush X8.here hx rfl (hb hby d6_17) ?_
    refine XS.icmpYes X8.here hx rfl (pc0 := 20) (pc' := 26) rfl (hb hby d6_20) rfl (flt l2).2.2.2 (by decide) (by decide) ?_
    refine XS.aloadN X8.here hx rfl (hb hby d6_26) rfl rfl ?_
    refine XS.iloadN X8.here hx rfl (hb hby d6_27) rfl ?_
    refine XS.iload X8.here hx rfl (hb hby d6_28) rfl ?_
    refine XS.i2b X8.here hx rfl (hb hby d6_30) rfl ?_
    exact kt
  obtain ⟨cl12, Ar12, qc12, Sz12, Mn12, Hs12, Gs12⟩ := id V_r2_8
  have hin12 : ¬ ((2 : Int32) < 0 ∨ cl12.slots.size ≤ ((2 : Int32)).toNatClampNeg) := inb_of Sz12 ⟨by decide, by decide⟩
  obtain ⟨T12, h12, X12, e12, W12, st12⟩ := stB X8 hx hZ e8 Ar12 (j := (2 : Int32)) hin12 (g := (mkF m 31 #[.val (.ref r0), .val (.int (2 : Int32)), .val (.ref r2), .val (.int (2 : Int32)), .val (.int (4 : Int32)), .val (.int (2 : Int32)), .val (.int c2)] [(.int (c2.toInt8.toInt32)), (.int (2 : Int32)), (.ref r2)])) rfl rfl (hb hby d6_31)
  have V_r2_12 : Arv Z h12 r2 kb .byte (4 : Int32) [(.int (nar .byte (c0.toInt8.toInt32))), (.int (nar .byte (c1.toInt8.toInt32))), (.int (nar .byte (c2.toInt8.toInt32))), (.int (0 : Int32))] (.int (0 : Int32)) := Arv.set Ar12 qc12 Sz12 Mn12 Hs12 Gs12 (fits_nar_byte _) W12 2 rfl (Nat.le_of_ble_eq_true rfl)
  have Vc_12 := Vc_8.other W12 hne
  have Z_12 : n0 ≤ h12.size := Nat.le_trans Z_8 (Keep.of_wr W12).1
  have Kp_12 : Keep h0 h12 [r2] := Kp_8.wr W12 (Or.inl (List.mem_of_getElem? (i := 0) rfl))
  have N12 := Fr.snoc X12 N8 g_r2
  have st13 : own_S p e below T12 (mkF m 12 #[.val (.ref r0), .val (.int (3 : Int32)), .val (.ref r2), .val (.int (3 : Int32)), .val (.int (4 : Int32)), .val (.int (3 : Int32)), .val (.int c2)] [(.int (3 : Int32)), (.ref r0)]) (mkF m 32 #[.val (.ref r0), .val (.int (2 : Int32)), .val (.ref r2), .val (.int (2 : Int32)), .val (.int (4 : Int32)), .val (.int (2 : Int32)), .val (.int c2)] []) := by
    intro target kt
    refine XS.iinc X12.here hx rfl (hb hby d6_32) rfl (l' := #[.val (.ref r0), .val (.int (3 : Int32)), .val (.ref r2), .val (.int (2 : Int32)), .val (.int (4 : Int32)), .val (.int (2 : Int32)), .val (.int c2)]) rfl ?_
    refine XS.iinc X12.here hx rfl (hb hby d6_35) rfl (l' := #[.val (.ref r0), .val (.int (3 : Int32)), .val (.ref r2), .val (.int (3 : Int32)), .val (.int (4 : Int32)), .val (.int (2 : Int32)), .val (.int c2)]) rfl ?_
    refine XS.iinc X12.here hx rfl (hb hby d6_38) rfl (l' := #[.val (.ref r0), .val (.int (3 : Int32)), .val (.ref r2), .val (.int (3 : Int32)), .val (.int (4 : Int32)), .val (.int (3 : Int32)), .val (.int c2)]) rfl ?_
    refine XS.goto X12.here hx rfl (pc0 := 41) (pc' := 3) rfl (hb hby d6_41) (by decide) (by decide) ?_
    refine XS.iload X12.here hx rfl (hb hby d6_3) rfl ?_
    refine XS.iload X12.here hx rfl (hb hby d6_5) rfl ?_
    refine XS.icmpNo X12.here hx rfl (hb hby d6_7) rfl (tlt (by decide : ((3 : Int32) < (4 : Int32)))).2.1 ?_
    refine XS.aloadN X12.here hx rfl (hb hby d6_10) rfl rfl ?_
    refine XS.iloadN X12.here hx rfl (hb hby d6_11) rfl ?_
    exact kt
  obtain ⟨cl14, Ar14, qc14, Sz14, Mn14, Hs14, Gs14⟩ := id Vc_12
  have hin14 : ¬ ((3 : Int32) < 0 ∨ cl14.slots.size ≤ ((3 : Int32)).toNatClampNeg) := inb_of Sz14 ⟨by decide, by decide⟩
  have hat14 : cl14.slots[((3 : Int32)).toNatClampNeg]? = some (.int c3) := Hs14.at hin14 rfl
  have st14 : own_S p e below T12 (mkF m 13 #[.val (.ref r0), .val (.int (3 : Int32)), .val (.ref r2), .val (.int (3 : Int32)), .val (.int (4 : Int32)), .val (.int (3 : Int32)), .val (.int c2)] [(.int c3)]) (mkF m 12 #[.val (.ref r0), .val (.int (3 : Int32)), .val (.ref r2), .val (.int (3 : Int32)), .val (.int (4 : Int32)), .val (.int (3 : Int32)), .val (.int c2)] [(.int (3 : Int32)), (.ref r0)]) := fun target kt => X12.caload hx (j := (3 : Int32)) (v := (.int c3)) (by rw [e12]; exact Ar14.1) (State.isArrayOf_alike hZ.alike Ar14.2.1) Ar14.2.2 hin14 hat14 (g := (mkF m 12 #[.val (.ref r0), .val (.int (3 : Int32)), .val (.ref r2), .val (.int (3 : Int32)), .val (.int (4 : Int32)), .val (.int (3 : Int32)), .val (.int c2)] [(.int (3 : Int32)), (.ref r0)])) rfl rfl (hb hby d6_12) _ kt
  obtain ⟨fs, hr, hrun, hended, hW, hsame⟩ := X12.leave (v := some (.int (3 : Int32))) (fun h => by rw [Bd.returns] at h; cases h)
  refine ⟨_, _, pre0 _ (st1 _ (st2 _ (st3 _ (st4 _ (st5 _ (st6 _ (st7 _ (st8 _ (st9 _ (st10 _ (st11 _ (st12 _ (st13 _ (st14 _ ?_)))))))))))))), hrun, hended, _, _, rfl, ?_, ⟨_, rfl⟩, hW, hsame.mono (by decide) (by decide)⟩
  · refine XS.istore X12.here hx rfl (hb hby d6_13) rfl (l' := #[.val (.ref r0), .val (.int (3 : Int32)), .val (.ref r2), .val (.int (3 : Int32)), .val (.int (4 : Int32)), .val (.int (3 : Int32)), .val (.int c3)]) rfl ?_
    refine XS.iload X12.here hx rfl (hb hby d6_15) rfl ?_
    refine XS.sipush X12.here hx rfl (hb hby d6_17) ?_
    refine XS.icmpNo X12.here hx rfl (hb hby d6_20) rfl (tlt l3).2.2.2 ?_
    refine XS.iload X12.here hx rfl (hb hby d6_23) rfl ?_
    show Steps p.tables e below (T12.setTop (mkF m 25 #[.val (.ref r0), .val (.int (3 : Int32)), .val (.ref r2), .val (.int (3 : Int32)), .val (.int (4 : Int32)), .val (.int (3 : Int32)), .val (.int c3)] [(.int (3 : Int32))])) _
    exact retI X12 hx Bd.returns (hb hby d6_25) hr
  · show Q_rmCi3_4 Z r0 r2 kc kb c0 c1 c2 c3 h0 n0 _ T12.heap _
    rw [e12]
    exact ⟨rfl, N12, Kp_12⟩
theorem d5_0 : decode jdk_52_method_16_code 0 = .ok (.iload_n 2, 1) := by decide +kernel
theorem d5_1 : decode jdk_52_method_16_code 1 = .ok (.newarray .byte, 2) := by decide +kernel
theorem d5_3 : decode jdk_52_method_16_code 3 = .ok (.astore_n 3, 1) := by decide +kernel
theorem d5_4 : decode jdk_52_method_16_code 4 = .ok (.aload_n 0, 1) := by decide +kernel
theorem d5_5 : decode jdk_52_method_16_code 5 = .ok (.iload_n 1, 1) := by decide +kernel
theorem d5_6 : decode jdk_52_method_16_code 6 = .ok (.aload_n 3, 1) := by decide +kernel
theorem d5_7 : decode jdk_52_method_16_code 7 = .ok (.iconst 0, 1) := by decide +kernel
theorem d5_8 : decode jdk_52_method_16_code 8 = .ok (.iload_n 2, 1) := by decide +kernel
theorem d5_9 : decode jdk_52_method_16_code 9 = .ok (.invokestatic 115, 3) := by decide +kernel
theorem d5_12 : decode jdk_52_method_16_code 12 = .ok (.istore 4, 2) := by decide +kernel
theorem d5_14 : decode jdk_52_method_16_code 14 = .ok (.iload 4, 2) := by decide +kernel
theorem d5_16 : decode jdk_52_method_16_code 16 = .ok (.iload_n 2, 1) := by decide +kernel
theorem d5_17 : decode jdk_52_method_16_code 17 = .ok (.if_icmp .eq 40, 3) := by decide +kernel
theorem d5_20 : decode jdk_52_method_16_code 20 = .ok (.aload_n 0, 1) := by decide +kernel
theorem d5_21 : decode jdk_52_method_16_code 21 = .ok (.iload_n 1, 1) := by decide +kernel
theorem d5_22 : decode jdk_52_method_16_code 22 = .ok (.iload_n 2, 1) := by decide +kernel
theorem d5_23 : decode jdk_52_method_16_code 23 = .ok (.invokestatic 119, 3) := by decide +kernel
theorem d5_26 : decode jdk_52_method_16_code 26 = .ok (.astore 5, 2) := by decide +kernel
theorem d5_28 : decode jdk_52_method_16_code 28 = .ok (.aload 5, 2) := by decide +kernel
theorem d5_30 : decode jdk_52_method_16_code 30 = .ok (.iload 4, 2) := by decide +kernel
theorem d5_32 : decode jdk_52_method_16_code 32 = .ok (.invokestatic 71, 3) := by decide +kernel
theorem d5_35 : decode jdk_52_method_16_code 35 = .ok (.sipush 255, 3) := by decide +kernel
theorem d5_38 : decode jdk_52_method_16_code 38 = .ok (.if_icmp .gt 16, 3) := by decide +kernel
theorem d5_54 : decode jdk_52_method_16_code 54 = .ok (.aload 5, 2) := by decide +kernel
theorem d5_56 : decode jdk_52_method_16_code 56 = .ok (.areturn, 1) := by decide +kernel
theorem ef_rmCo4 (m : MethodId) (x0 : Addr) (x1 : Int32) (x2 : Int32) : entryFrame m #[(.ref x0), (.int x1), (.int x2)] 6 = mkF m 0 #[.val (.ref x0), .val (.int x1), .val (.int x2), .unset, .unset, .unset] [] := by first | (simp [entryFrame, mkF, argsToLocals, Value.category]; done) | rfl
def Q_rmCo4 (Z : State) (r0 : Addr) (cs : Int32) (fm : Value) (kc : ClassId) (c0 : Int32) (c1 : Int32) (c2 : Int32) (c3 : Int32) (h0 : Heap) (n0 : Nat) (v : Option Value) (h : Heap) (L : List Loc) : Prop := ∃ y, v = some (.ref y) ∧ Fr n0 L ∧ Keep h0 h [] ∧ h0.size ≤ y ∧ ∃ ky, Arv Z h y ky .byte (8 : Int32) [(.int (own_lo c0)), (.int (own_hi c0)), (.int (own_lo c1)), (.int (own_hi c1)), (.int (own_lo c2)), (.int (own_hi c2)), (.int (own_lo c3)), (.int (own_hi c3))] (.int (0 : Int32))
set_option maxRecDepth 65536 in
set_option maxHeartbeats 40000000 in
theorem rmCo4 (l : Launch) (Z : State) (a0 : Array Value) (hw : ∀ d ∈ tables_1, d.before a0 Z = true) (ws : List Jvm.Cond) (r0 : Addr) (cs : Int32) (fm : Value) (kc : ClassId) (c0 : Int32) (c1 : Int32) (c2 : Int32) (c3 : Int32) (h0 : Heap) (n0 : Nat) (Z0 : n0 ≤ h0.size) (SB : own_St Z cs fm) (Od : Old Z n0 h0) (Vc : Arv Z h0 r0 kc .char (4 : Int32) [(.int c0), (.int c1), (.int c2), (.int c3)] (.int (0 : Int32))) (hc0_ : own_ch c0) (hc1_ : own_ch c1) (hc2_ : own_ch c2) (hc3_ : own_ch c3) (alt : ((255 : Int32) < c0) ∨ (¬ (255 : Int32) < c0 ∧ (255 : Int32) < c1) ∨ (¬ (255 : Int32) < c0 ∧ ¬ (255 : Int32) < c1 ∧ (255 : Int32) < c2) ∨ (¬ (255 : Int32) < c0 ∧ ¬ (255 : Int32) < c1 ∧ ¬ (255 : Int32) < c2 ∧ (255 : Int32) < c3)) :
    MetFree l (⟨"java/lang/StringUTF16", "compress", "([CII)[B"⟩ : MethodName) (head1 (Jvm.Cond.code (⟨"java/lang/StringUTF16", "compress", "([CII)[B"⟩ : MethodName) jdk_52_method_16_code 6 (some (.array .byte)) :: ws) ({ frames := 3, cells := 2, slots := 12, locals := 40 } : Room)) (fun a U => a = #[(.ref r0), (.int (0 : Int32)), (.int (4 : Int32))] ∧ Z.Warmed39 U.vm ∧ U.heap = h0) (fun _ _ _ _ _ => True) (fun _ U o U' => ∃ v L, o = .returned v ∧ Q_rmCo4 Z r0 cs fm kc c0 c1 c2 c3 h0 n0 v U'.heap L ∧ FrameEnd U o U' L ({ frames := 3, cells := 2, slots := 12, locals := 40 } : Room).cells ({ frames := 3, cells := 2, slots := 12, locals := 40 } : Room).slots) := by
  refine MetFree.of_bodySF (plainFor_of_name pn_0) hisR ?_
  intro p e s m args below meth c s₁ Bd hml0 hP hK
  obtain ⟨rfl, hZ, hh⟩ := hP
  have hx := Bd.exec
  have hby := Bd.bytes
  have hml : c.maxLocals = 6 := hml0
  have hown : s.vm.findClass "java/lang/StringUTF16" = some m.cls := findClass_of_methodNamed Bd.named
  have hnm := (name_of_methodNamed Bd.named Bd.method).1
  have X0 : Stand p l e ({ frames := 3, cells := 2, slots := 12, locals := 40 } : Room) s m #[(.ref r0), (.int (0 : Int32)), (.int (4 : Int32))] below meth c s₁ [] 0 0 := Stand.of_body Bd
  have e0 : s₁.heap = h0 := by rw [← hh, Bd.state]; rfl
  have N0 := Fr.nil n0
  have pre0 : ∀ t, Steps p.tables e below (s₁.setTop (mkF m 0 #[.val (.ref r0), .val (.int (0 : Int32)), .val (.int (4 : Int32)), .unset, .unset, .unset] [])) t → Steps p.tables e below (s₁.setTop (entryFrame m #[(.ref r0), (.int (0 : Int32)), (.int (4 : Int32))] 6)) t := fun t k => castTop (ef_rmCo4 m r0 (0 : Int32) (4 : Int32)) k
  have Kp : Keep h0 h0 [] := Keep.refl _ _
  have st1 : own_S p e below s₁ (mkF m 1 #[.val (.ref r0), .val (.int (0 : Int32)), .val (.int (4 : Int32)), .unset, .unset, .unset] [(.int (4 : Int32))]) (mkF m 0 #[.val (.ref r0), .val (.int (0 : Int32)), .val (.int (4 : Int32)), .unset, .unset, .unset] []) := by
    intro target kt
    refine XS.iloadN X0.here hx rfl (hb hby d5_0) rfl ?_
    exact kt
  obtain ⟨T2, h2, k2, X2, e2, E2, A2, st2⟩ := newP X0 hx hZ (own_w hw 26 rfl) e0 (g := (mkF m 1 #[.val (.ref r0), .val (.int (0 : Int32)), .val (.int (4 : Int32)), .unset, .unset, .unset] [(.int (4 : Int32))])) rfl (hb hby d5_1) rfl (by decide) (cap := 4) (by decide) (by decide) (by decide) (by decide)
  obtain ⟨q, g2⟩ : ∃ z, z = h0.size := ⟨_, rfl⟩
  rw [← g2] at A2 st2
  have g_q : n0 ≤ q := Nat.le_trans Z0 (Nat.le_of_eq g2.symm)
  have sz_q : h0.size ≤ q := Nat.le_trans Kp.1 (Nat.le_of_eq g2.symm)
  have ne_r0_q : r0 ≠ q := Nat.ne_of_lt (Nat.lt_of_lt_of_le Vc.lt (Nat.le_of_eq g2.symm))
  have Od_2 := Od.ext E2
  have Vc_2 := Vc.ext E2
  have Z_2 : n0 ≤ h2.size := Nat.le_trans Z0 E2.1
  have Kp_2 : Keep h0 h2 [] := Kp.ext E2
  have V_q : Arv Z h2 q k2 .byte (4 : Int32) [(.int (0 : Int32)), (.int (0 : Int32)), (.int (0 : Int32)), (.int (0 : Int32))] (.int (0 : Int32)) := (Arv.new A2 (by decide)).pad (pad_rep [] (.int (0 : Int32)) 4)
  have st3 : own_S p e below T2 (mkF m 9 #[.val (.ref r0), .val (.int (0 : Int32)), .val (.int (4 : Int32)), .val (.ref q), .unset, .unset] [(.int (4 : Int32)), (.int (0 : Int32)), (.ref q), (.int (0 : Int32)), (.ref r0)]) (mkF m 3 #[.val (.ref r0), .val (.int (0 : Int32)), .val (.int (4 : Int32)), .unset, .unset, .unset] [(.ref q)]) := by
    intro target kt
    refine XS.astoreN X2.here hx rfl (hb hby d5_3) rfl rfl (l' := #[.val (.ref r0), .val (.int (0 : Int32)), .val (.int (4 : Int32)), .val (.ref q), .unset, .unset]) rfl ?_
    refine XS.aloadN X2.here hx rfl (hb hby d5_4) rfl rfl ?_
    refine XS.iloadN X2.here hx rfl (hb hby d5_5) rfl ?_
    refine XS.aloadN X2.here hx rfl (hb hby d5_6) rfl rfl ?_
    refine XS.iconst X2.here hx rfl (hb hby d5_7) ?_
    refine XS.iloadN X2.here hx rfl (hb hby d5_8) rfl ?_
    exact kt
  rcases alt with l0 | ⟨l0, l1⟩ | ⟨l0, l1, l2⟩ | ⟨l0, l1, l2, l3⟩
  · obtain ⟨_, _, ⟨T4, L4, k4, n4⟩, -, X4, ⟨Lc4, hQ4, l4, y4, z4⟩, st4⟩ := Jvm.LawKit.callS X2 hx (y := (⟨"java/lang/StringUTF16", "compress", "([CI[BII)I"⟩ : MethodName)) hown (mvT hZ (own_w hw 27 rfl)) (mvT hZ (own_w hw 28 rfl)) (mvT hZ (own_w hw 24 rfl)) (mvT hZ (own_w hw 29 rfl)) (by decide) (backOf (W := 0) (rmCi0_4 l Z a0 hw [] r0 q kc k2 c0 c1 c2 c3 h2 n0 Z_2 Vc_2 V_q g_q ne_r0_q l0) hZ (own_w hw 29 rfl) (own_w hw 24 rfl) (by decide) (by decide)) (g := (mkF m 9 #[.val (.ref r0), .val (.int (0 : Int32)), .val (.int (4 : Int32)), .val (.ref q), .unset, .unset] [(.int (4 : Int32)), (.int (0 : Int32)), (.ref q), (.int (0 : Int32)), (.ref r0)])) rfl (by rw [hml]; rfl) (argsL := [(.ref r0), (.int (0 : Int32)), (.ref q), (.int (0 : Int32)), (.int (4 : Int32))]) (rest := []) (lenOf pd_5 rfl) rfl (by show 2 * 0 + _ ≤ _; exact Nat.le_of_eq rfl) (hb hby d5_9) (fun _ _ => ⟨rfl, e2, (by decide : 1 + 0 ≤ _), (by decide : 4 + 0 ≤ _)⟩)
    dsimp only [Pt.U, Pt.locs, Pt.cells, Pt.slots] at X4 l4 y4 z4 st4 hQ4
    subst l4 y4 z4
    obtain ⟨rfl, Nq4, K4⟩ := hQ4
    have N4 := Fr.app N0 Nq4
    have Od_4 := Od_2.keep K4 (allS g_q (all0))
    have Vc_4 := Vc_2.keep K4 (ninS ne_r0_q nin0)
    have Z_4 : n0 ≤ T4.heap.size := Nat.le_trans Z_2 K4.1
    have Kp_4 : Keep h0 T4.heap [] := Kp_2.trans K4 (allS (Or.inr sz_q) (all0))
    have st5 : own_S p e below T4 (mkF m 23 #[.val (.ref r0), .val (.int (0 : Int32)), .val (.int (4 : Int32)), .val (.ref q), .val (.int (0 : Int32)), .unset] [(.int (4 : Int32)), (.int (0 : Int32)), (.ref r0)]) (mkF m 12 #[.val (.ref r0), .val (.int (0 : Int32)), .val (.int (4 : Int32)), .val (.ref q), .unset, .unset] [(.int (0 : Int32))]) := by
      intro target kt
      refine XS.istore X4.here hx rfl (hb hby d5_12) rfl (l' := #[.val (.ref r0), .val (.int (0 : Int32)), .val (.int (4 : Int32)), .val (.ref q), .val (.int (0 : Int32)), .unset]) rfl ?_
      refine XS.iload X4.here hx rfl (hb hby d5_14) rfl ?_
      refine XS.iloadN X4.here hx rfl (hb hby d5_16) rfl ?_
      refine XS.icmpNo X4.here hx rfl (hb hby d5_17) rfl (feq (by decide : ¬ ((0 : Int32) = (4 : Int32)))).1 ?_
      refine XS.aloadN X4.here hx rfl (hb hby d5_20) rfl rfl ?_
      refine XS.iloadN X4.here hx rfl (hb hby d5_21) rfl ?_
      refine XS.iloadN X4.here hx rfl (hb hby d5_22) rfl ?_
      exact kt
    obtain ⟨_, _, ⟨T6, L6, k6, n6⟩, -, X6, ⟨Lc6, hQ6, l6, y6, z6⟩, st6⟩ := Jvm.LawKit.callS X4 hx (y := (⟨"java/lang/StringUTF16", "toBytes", "([CII)[B"⟩ : MethodName)) hown (mvT hZ (own_w hw 127 rfl)) (mvT hZ (own_w hw 128 rfl)) (mvT hZ (own_w hw 24 rfl)) (mvT hZ (own_w hw 129 rfl)) (by decide) (backOf (W := 0) (rmTB4 l Z a0 hw [] r0 cs fm kc c0 c1 c2 c3 T4.heap n0 Z_4 SB Od_4 Vc_4) hZ (own_w hw 129 rfl) (own_w hw 24 rfl) (by decide) (by decide)) (g := (mkF m 23 #[.val (.ref r0), .val (.int (0 : Int32)), .val (.int (4 : Int32)), .val (.ref q), .val (.int (0 : Int32)), .unset] [(.int (4 : Int32)), (.int (0 : Int32)), (.ref r0)])) rfl (by rw [hml]; rfl) (argsL := [(.ref r0), (.int (0 : Int32)), (.int (4 : Int32))]) (rest := []) (lenOf pd_4 rfl) rfl (by show 2 * 0 + _ ≤ _; exact Nat.le_of_eq rfl) (hb hby d5_23) (fun _ _ => ⟨rfl, rfl, (by decide : 1 + 1 ≤ _), (by decide : 4 + 8 ≤ _)⟩)
    dsimp only [Pt.U, Pt.locs, Pt.cells, Pt.slots] at X6 l6 y6 z6 st6 hQ6
    subst l6 y6 z6
    obtain ⟨y6, rfl, Nq6, K6, sz6, ky, Vy⟩ := hQ6
    have N6 := Fr.app N4 Nq6
    have g_y6 : n0 ≤ y6 := Nat.le_trans Z_4 sz6
    have sz_y6 : h0.size ≤ y6 := Nat.le_trans Kp_4.1 sz6
    have ne_r0_y6 : r0 ≠ y6 := Nat.ne_of_lt (Nat.lt_of_lt_of_le Vc_4.lt sz6)
    have Od_6 := Od_4.keep K6 (all0)
    have Vc_6 := Vc_4.keep K6 nin0
    have Z_6 : n0 ≤ T6.heap.size := Nat.le_trans Z_4 K6.1
    have Kp_6 : Keep h0 T6.heap [] := Kp_4.trans K6 (all0)
    have st7 : own_S p e below T6 (mkF m 32 #[.val (.ref r0), .val (.int (0 : Int32)), .val (.int (4 : Int32)), .val (.ref q), .val (.int (0 : Int32)), .val (.ref y6)] [(.int (0 : Int32)), (.ref y6)]) (mkF m 26 #[.val (.ref r0), .val (.int (0 : Int32)), .val (.int (4 : Int32)), .val (.ref q), .val (.int (0 : Int32)), .unset] [(.ref y6)]) := by
      intro target kt
      refine XS.astore X6.here hx rfl (hb hby d5_26) rfl rfl (l' := #[.val (.ref r0), .val (.int (0 : Int32)), .val (.int (4 : Int32)), .val (.ref q), .val (.int (0 : Int32)), .val (.ref y6)]) rfl ?_
      refine XS.aload X6.here hx rfl (hb hby d5_28) rfl rfl ?_
      refine XS.iload X6.here hx rfl (hb hby d5_30) rfl ?_
      exact kt
    obtain ⟨_, _, ⟨T8, L8, k8, n8⟩, -, X8, ⟨Lc8, hQ8, l8, y8, z8⟩, st8⟩ := Jvm.LawKit.callS X6 hx (y := (⟨"java/lang/StringUTF16", "getChar", "([BI)C"⟩ : MethodName)) hown (mvT hZ (own_w hw 143 rfl)) (mvT hZ (own_w hw 144 rfl)) (mvT hZ (own_w hw 24 rfl)) (mvT hZ (own_w hw 145 rfl)) (by decide) (backOf (W := 0) (rmGC0_U4 l Z a0 hw [] y6 cs fm ky c0 c1 c2 c3 T6.heap n0 Z_6 SB Od_6 Vy hc0_) hZ (own_w hw 145 rfl) (own_w hw 24 rfl) (by decide) (by decide)) (g := (mkF m 32 #[.val (.ref r0), .val (.int (0 : Int32)), .val (.int (4 : Int32)), .val (.ref q), .val (.int (0 : Int32)), .val (.ref y6)] [(.int (0 : Int32)), (.ref y6)])) rfl (by rw [hml]; rfl) (argsL := [(.ref y6), (.int (0 : Int32))]) (rest := []) (lenOf pd_13 rfl) rfl (by show 2 * 0 + _ ≤ _; exact Nat.le_of_eq rfl) (hb hby d5_32) (fun _ _ => ⟨rfl, rfl, (by decide : 2 + 0 ≤ _), (by decide : 12 + 0 ≤ _)⟩)
    dsimp only [Pt.U, Pt.locs, Pt.cells, Pt.slots] at X8 l8 y8 z8 st8 hQ8
    subst l8 y8 z8
    obtain ⟨rfl, Nq8, e8⟩ := hQ8
    have N8 := Fr.app N6 Nq8
    obtain ⟨fs, hr, hrun, hended, hW, hsame⟩ := X8.leave (v := some (.ref y6)) (fun h => by rw [Bd.returns] at h; cases h)
    refine ⟨_, _, pre0 _ (st1 _ (st2 _ (st3 _ (st4 _ (st5 _ (st6 _ (st7 _ (st8 _ ?_)))))))), hrun, hended, _, _, rfl, ?_, ⟨_, rfl⟩, hW, hsame.mono (by decide) (by decide)⟩
    · refine XS.sipush X8.here hx rfl (hb hby d5_35) ?_
      refine XS.icmpYes X8.here hx rfl (pc0 := 38) (pc' := 54) rfl (hb hby d5_38) rfl (tlt l0).2.2.1 (by decide) (by decide) ?_
      refine XS.aload X8.here hx rfl (hb hby d5_54) rfl rfl ?_
      show Steps p.tables e below (T8.setTop (mkF m 56 #[.val (.ref r0), .val (.int (0 : Int32)), .val (.int (4 : Int32)), .val (.ref q), .val (.int (0 : Int32)), .val (.ref y6)] [(.ref y6)])) _
      jvm_step X8.here [X8.here.top, hx, (hb hby d5_56), X8.method', Bd.returns, Value.isRef, FieldType.isReference]
      first | (intro acts; rw [hr _ acts rfl rfl rfl]) | rw [hr _ _ rfl rfl rfl]
      exact Steps.refl _
    · show Q_rmCo4 Z r0 cs fm kc c0 c1 c2 c3 h0 n0 _ T8.heap _
      rw [e8]
      exact ⟨y6, rfl, N8, Kp_6, sz_y6, ky, Vy⟩
  · obtain ⟨_, _, ⟨T9, L9, k9, n9⟩, -, X9, ⟨Lc9, hQ9, l9, y9, z9⟩, st9⟩ := Jvm.LawKit.callS X2 hx (y := (⟨"java/lang/StringUTF16", "compress", "([CI[BII)I"⟩ : MethodName)) hown (mvT hZ (own_w hw 27 rfl)) (mvT hZ (own_w hw 28 rfl)) (mvT hZ (own_w hw 24 rfl)) (mvT hZ (own_w hw 29 rfl)) (by decide) (backOf (W := 0) (rmCi1_4 l Z a0 hw [] r0 q kc k2 c0 c1 c2 c3 h2 n0 Z_2 Vc_2 V_q g_q ne_r0_q l0 l1) hZ (own_w hw 29 rfl) (own_w hw 24 rfl) (by decide) (by decide)) (g := (mkF m 9 #[.val (.ref r0), .val (.int (0 : Int32)), .val (.int (4 : Int32)), .val (.ref q), .unset, .unset] [(.int (4 : Int32)), (.int (0 : Int32)), (.ref q), (.int (0 : Int32)), (.ref r0)])) rfl (by rw [hml]; rfl) (argsL := [(.ref r0), (.int (0 : Int32)), (.ref q), (.int (0 : Int32)), (.int (4 : Int32))]) (rest := []) (lenOf pd_5 rfl) rfl (by show 2 * 0 + _ ≤ _; exact Nat.le_of_eq rfl) (hb hby d5_9) (fun _ _ => ⟨rfl, e2, (by decide : 1 + 0 ≤ _), (by decide : 4 + 0 ≤ _)⟩)
    dsimp only [Pt.U, Pt.locs, Pt.cells, Pt.slots] at X9 l9 y9 z9 st9 hQ9
    subst l9 y9 z9
    obtain ⟨rfl, Nq9, K9⟩ := hQ9
    have N9 := Fr.app N0 Nq9
    have Od_9 := Od_2.keep K9 (allS g_q (all0))
    have Vc_9 := Vc_2.keep K9 (ninS ne_r0_q nin0)
    have Z_9 : n0 ≤ T9.heap.size := Nat.le_trans Z_2 K9.1
    have Kp_9 : Keep h0 T9.heap [] := Kp_2.trans K9 (allS (Or.inr sz_q) (all0))
    have st10 : own_S p e below T9 (mkF m 23 #[.val (.ref r0), .val (.int (0 : Int32)), .val (.int (4 : Int32)), .val (.ref q), .val (.int (1 : Int32)), .unset] [(.int (4 : Int32)), (.int (0 : Int32)), (.ref r0)]) (mkF m 12 #[.val (.ref r0), .val (.int (0 : Int32)), .val (.int (4 : Int32)), .val (.ref q), .unset, .unset] [(.int (1 : Int32))]) := by
      intro target kt
      refine XS.istore X9.here hx rfl (hb hby d5_12) rfl (l' := #[.val (.ref r0), .val (.int (0 : Int32)), .val (.int (4 : Int32)), .val (.ref q), .val (.int (1 : Int32)), .unset]) rfl ?_
      refine XS.iload X9.here hx rfl (hb hby d5_14) rfl ?_
      refine XS.iloadN X9.here hx rfl (hb hby d5_16) rfl ?_
      refine XS.icmpNo X9.here hx rfl (hb hby d5_17) rfl (feq (by decide : ¬ ((1 : Int32) = (4 : Int32)))).1 ?_
      refine XS.aloadN X9.here hx rfl (hb hby d5_20) rfl rfl ?_
      refine XS.iloadN X9.here hx rfl (hb hby d5_21) rfl ?_
      refine XS.iloadN X9.here hx rfl (hb hby d5_22) rfl ?_
      exact kt
    obtain ⟨_, _, ⟨T11, L11, k11, n11⟩, -, X11, ⟨Lc11, hQ11, l11, y11, z11⟩, st11⟩ := Jvm.LawKit.callS X9 hx (y := (⟨"java/lang/StringUTF16", "toBytes", "([CII)[B"⟩ : MethodName)) hown (mvT hZ (own_w hw 127 rfl)) (mvT hZ (own_w hw 128 rfl)) (mvT hZ (own_w hw 24 rfl)) (mvT hZ (own_w hw 129 rfl)) (by decide) (backOf (W := 0) (rmTB4 l Z a0 hw [] r0 cs fm kc c0 c1 c2 c3 T9.heap n0 Z_9 SB Od_9 Vc_9) hZ (own_w hw 129 rfl) (own_w hw 24 rfl) (by decide) (by decide)) (g := (mkF m 23 #[.val (.ref r0), .val (.int (0 : Int32)), .val (.int (4 : Int32)), .val (.ref q), .val (.int (1 : Int32)), .unset] [(.int (4 : Int32)), (.int (0 : Int32)), (.ref r0)])) rfl (by rw [hml]; rfl) (argsL := [(.ref r0), (.int (0 : Int32)), (.int (4 : Int32))]) (rest := []) (lenOf pd_4 rfl) rfl (by show 2 * 0 + _ ≤ _; exact Nat.le_of_eq rfl) (hb hby d5_23) (fun _ _ => ⟨rfl, rfl, (by decide : 1 + 1 ≤ _), (by decide : 4 + 8 ≤ _)⟩)
    dsimp only [Pt.U, Pt.locs, Pt.cells, Pt.slots] at X11 l11 y11 z11 st11 hQ11
    subst l11 y11 z11
    obtain ⟨y11, rfl, Nq11, K11, sz11, ky, Vy⟩ := hQ11
    have N11 := Fr.app N9 Nq11
    have g_y11 : n0 ≤ y11 := Nat.le_trans Z_9 sz11
    have sz_y11 : h0.size ≤ y11 := Nat.le_trans Kp_9.1 sz11
    have ne_r0_y11 : r0 ≠ y11 := Nat.ne_of_lt (Nat.lt_of_lt_of_le Vc_9.lt sz11)
    have Od_11 := Od_9.keep K11 (all0)
    have Vc_11 := Vc_9.keep K11 nin0
    have Z_11 : n0 ≤ T11.heap.size := Nat.le_trans Z_9 K11.1
    have Kp_11 : Keep h0 T11.heap [] := Kp_9.trans K11 (all0)
    have st12 : own_S p e below T11 (mkF m 32 #[.val (.ref r0), .val (.int (0 : Int32)), .val (.int (4 : Int32)), .val (.ref q), .val (.int (1 : Int32)), .val (.ref y11)] [(.int (1 : Int32)), (.ref y11)]) (mkF m 26 #[.val (.ref r0), .val (.int (0 : Int32)), .val (.int (4 : Int32)), .val (.ref q), .val (.int (1 : Int32)), .unset] [(.ref y11)]) := by
      intro target kt
      refine XS.astore X11.here hx rfl (hb hby d5_26) rfl rfl (l' := #[.val (.ref r0), .val (.int (0 : Int32)), .val (.int (4 : Int32)), .val (.ref q), .val (.int (1 : Int32)), .val (.ref y11)]) rfl ?_
      refine XS.aload X11.here hx rfl (hb hby d5_28) rfl rfl ?_
      refine XS.iload X11.here hx rfl (hb hby d5_30) rfl ?_
      exact kt
    obtain ⟨_, _, ⟨T13, L13, k13, n13⟩, -, X13, ⟨Lc13, hQ13, l13, y13, z13⟩, st13⟩ := Jvm.LawKit.callS X11 hx (y := (⟨"java/lang/StringUTF16", "getChar", "([BI)C"⟩ : MethodName)) hown (mvT hZ (own_w hw 143 rfl)) (mvT hZ (own_w hw 144 rfl)) (mvT hZ (own_w hw 24 rfl)) (mvT hZ (own_w hw 145 rfl)) (by decide) (backOf (W := 0) (rmGC1_U4 l Z a0 hw [] y11 cs fm ky c0 c1 c2 c3 T11.heap n0 Z_11 SB Od_11 Vy hc1_) hZ (own_w hw 145 rfl) (own_w hw 24 rfl) (by decide) (by decide)) (g := (mkF m 32 #[.val (.ref r0), .val (.int (0 : Int32)), .val (.int (4 : Int32)), .val (.ref q), .val (.int (1 : Int32)), .val (.ref y11)] [(.int (1 : Int32)), (.ref y11)])) rfl (by rw [hml]; rfl) (argsL := [(.ref y11), (.int (1 : Int32))]) (rest := []) (lenOf pd_13 rfl) rfl (by show 2 * 0 + _ ≤ _; exact Nat.le_of_eq rfl) (hb hby d5_32) (fun _ _ => ⟨rfl, rfl, (by decide : 2 + 0 ≤ _), (by decide : 12 + 0 ≤ _)⟩)
    dsimp only [Pt.U, Pt.locs, Pt.cells, Pt.slots] at X13 l13 y13 z13 st13 hQ13
    subst l13 y13 z13
    obtain ⟨rfl, Nq13, e13⟩ := hQ13
    have N13 := Fr.app N11 Nq13
    obtain ⟨fs, hr, hrun, hended, hW, hsame⟩ := X13.leave (v := some (.ref y11)) (fun h => by rw [Bd.returns] at h; cases h)
    refine ⟨_, _, pre0 _ (st1 _ (st2 _ (st3 _ (st9 _ (st10 _ (st11 _ (st12 _ (st13 _ ?_)))))))), hrun, hended, _, _, rfl, ?_, ⟨_, rfl⟩, hW, hsame.mono (by decide) (by decide)⟩
    · refine XS.sipush X13.here hx rfl (hb hby d5_35) ?_
      refine XS.icmpYes X13.here hx rfl (pc0 := 38) (pc' := 54) rfl (hb hby d5_38) rfl (tlt l1).2.2.1 (by decide) (by decide) ?_
      refine XS.aload X13.here hx rfl (hb hby d5_54) rfl rfl ?_
      show Steps p.tables e below (T13.setTop (mkF m 56 #[.val (.ref r0), .val (.int (0 : Int32)), .val (.int (4 : Int32)), .val (.ref q), .val (.int (1 : Int32)), .val (.ref y11)] [(.ref y11)])) _
      jvm_step X13.here [X13.here.top, hx, (hb hby d5_56), X13.method', Bd.returns, Value.isRef, FieldType.isReference]
      first | (intro acts; rw [hr _ acts rfl rfl rfl]) | rw [hr _ _ rfl rfl rfl]
      exact Steps.refl _
    · show Q_rmCo4 Z r0 cs fm kc c0 c1 c2 c3 h0 n0 _ T13.heap _
      rw [e13]
      exact ⟨y11, rfl, N13, Kp_11, sz_y11, ky, Vy⟩
  · obtain ⟨_, _, ⟨T14, L14, k14, n14⟩, -, X14, ⟨Lc14, hQ14, l14, y14, z14⟩, st14⟩ := Jvm.LawKit.callS X2 hx (y := (⟨"java/lang/StringUTF16", "compress", "([CI[BII)I"⟩ : MethodName)) hown (mvT hZ (own_w hw 27 rfl)) (mvT hZ (own_w hw 28 rfl)) (mvT hZ (own_w hw 24 rfl)) (mvT hZ (own_w hw 29 rfl)) (by decide) (backOf (W := 0) (rmCi2_4 l Z a0 hw [] r0 q kc k2 c0 c1 c2 c3 h2 n0 Z_2 Vc_2 V_q g_q ne_r0_q l0 l1 l2) hZ (own_w hw 29 rfl) (own_w hw 24 rfl) (by decide) (by decide)) (g := (mkF m 9 #[.val (.ref r0), .val (.int (0 : Int32)), .val (.int (4 : Int32)), .val (.ref q), .unset, .unset] [(.int (4 : Int32)), (.int (0 : Int32)), (.ref q), (.int (0 : Int32)), (.ref r0)])) rfl (by rw [hml]; rfl) (argsL := [(.ref r0), (.int (0 : Int32)), (.ref q), (.int (0 : Int32)), (.int (4 : Int32))]) (rest := []) (lenOf pd_5 rfl) rfl (by show 2 * 0 + _ ≤ _; exact Nat.le_of_eq rfl) (hb hby d5_9) (fun _ _ => ⟨rfl, e2, (by decide : 1 + 0 ≤ _), (by decide : 4 + 0 ≤ _)⟩)
    dsimp only [Pt.U, Pt.locs, Pt.cells, Pt.slots] at X14 l14 y14 z14 st14 hQ14
    subst l14 y14 z14
    obtain ⟨rfl, Nq14, K14⟩ := hQ14
    have N14 := Fr.app N0 Nq14
    have Od_14 := Od_2.keep K14 (allS g_q (all0))
    have Vc_14 := Vc_2.keep K14 (ninS ne_r0_q nin0)
    have Z_14 : n0 ≤ T14.heap.size := Nat.le_trans Z_2 K14.1
    have Kp_14 : Keep h0 T14.heap [] := Kp_2.trans K14 (allS (Or.inr sz_q) (all0))
    have st15 : own_S p e below T14 (mkF m 23 #[.val (.ref r0), .val (.int (0 : Int32)), .val (.int (4 : Int32)), .val (.ref q), .val (.int (2 : Int32)), .unset] [(.int (4 : Int32)), (.int (0 : Int32)), (.ref r0)]) (mkF m 12 #[.val (.ref r0), .val (.int (0 : Int32)), .val (.int (4 : Int32)), .val (.ref q), .unset, .unset] [(.int (2 : Int32))]) := by
      intro target kt
      refine XS.istore X14.here hx rfl (hb hby d5_12) rfl (l' := #[.val (.ref r0), .val (.int (0 : Int32)), .val (.int (4 : Int32)), .val (.ref q), .val (.int (2 : Int32)), .unset]) rfl ?_
      refine XS.iload X14.here hx rfl (hb hby d5_14) rfl ?_
      refine XS.iloadN X14.here hx rfl (hb hby d5_16) rfl ?_
      refine XS.icmpNo X14.here hx rfl (hb hby d5_17) rfl (feq (by decide : ¬ ((2 : Int32) = (4 : Int32)))).1 ?_
      refine XS.aloadN X14.here hx rfl (hb hby d5_20) rfl rfl ?_
      refine XS.iloadN X14.here hx rfl (hb hby d5_21) rfl ?_
      refine XS.iloadN X14.here hx rfl (hb hby d5_22) rfl ?_
      exact kt
    obtain ⟨_, _, ⟨T16, L16, k16, n16⟩, -, X16, ⟨Lc16, hQ16, l16, y16, z16⟩, st16⟩ := Jvm.LawKit.callS X14 hx (y := (⟨"java/lang/StringUTF16", "toBytes", "([CII)[B"⟩ : MethodName)) hown (mvT hZ (own_w hw 127 rfl)) (mvT hZ (own_w hw 128 rfl)) (mvT hZ (own_w hw 24 rfl)) (mvT hZ (own_w hw 129 rfl)) (by decide) (backOf (W := 0) (rmTB4 l Z a0 hw [] r0 cs fm kc c0 c1 c2 c3 T14.heap n0 Z_14 SB Od_14 Vc_14) hZ (own_w hw 129 rfl) (own_w hw 24 rfl) (by decide) (by decide)) (g := (mkF m 23 #[.val (.ref r0), .val (.int (0 : Int32)), .val (.int (4 : Int32)), .val (.ref q), .val (.int (2 : Int32)), .unset] [(.int (4 : Int32)), (.int (0 : Int32)), (.ref r0)])) rfl (by rw [hml]; rfl) (argsL := [(.ref r0), (.int (0 : Int32)), (.int (4 : Int32))]) (rest := []) (lenOf pd_4 rfl) rfl (by show 2 * 0 + _ ≤ _; exact Nat.le_of_eq rfl) (hb hby d5_23) (fun _ _ => ⟨rfl, rfl, (by decide : 1 + 1 ≤ _), (by decide : 4 + 8 ≤ _)⟩)
    dsimp only [Pt.U, Pt.locs, Pt.cells, Pt.slots] at X16 l16 y16 z16 st16 hQ16
    subst l16 y16 z16
    obtain ⟨y16, rfl, Nq16, K16, sz16, ky, Vy⟩ := hQ16
    have N16 := Fr.app N14 Nq16
    have g_y16 : n0 ≤ y16 := Nat.le_trans Z_14 sz16
    have sz_y16 : h0.size ≤ y16 := Nat.le_trans Kp_14.1 sz16
    have ne_r0_y16 : r0 ≠ y16 := Nat.ne_of_lt (Nat.lt_of_lt_of_le Vc_14.lt sz16)
    have Od_16 := Od_14.keep K16 (all0)
    have Vc_16 := Vc_14.keep K16 nin0
    have Z_16 : n0 ≤ T16.heap.size := Nat.le_trans Z_14 K16.1
    have Kp_16 : Keep h0 T16.heap [] := Kp_14.trans K16 (all0)
    have st17 : own_S p e below T16 (mkF m 32 #[.val (.ref r0), .val (.int (0 : Int32)), .val (.int (4 : Int32)), .val (.ref q), .val (.int (2 : Int32)), .val (.ref y16)] [(.int (2 : Int32)), (.ref y16)]) (mkF m 26 #[.val (.ref r0), .val (.int (0 : Int32)), .val (.int (4 : Int32)), .val (.ref q), .val (.int (2 : Int32)), .unset] [(.ref y16)]) := by
      intro target kt
      refine XS.astore X16.here hx rfl (hb hby d5_26) rfl rfl (l' := #[.val (.ref r0), .val (.int (0 : Int32)), .val (.int (4 : Int32)), .val (.ref q), .val (.int (2 : Int32)), .val (.ref y16)]) rfl ?_
      refine XS.aload X16.here hx rfl (hb hby d5_28) rfl rfl ?_
      refine XS.iload X16.here hx rfl (hb hby d5_30) rfl ?_
      exact kt
    obtain ⟨_, _, ⟨T18, L18, k18, n18⟩, -, X18, ⟨Lc18, hQ18, l18, y18, z18⟩, st18⟩ := Jvm.LawKit.callS X16 hx (y := (⟨"java/lang/StringUTF16", "getChar", "([BI)C"⟩ : MethodName)) hown (mvT hZ (own_w hw 143 rfl)) (mvT hZ (own_w hw 144 rfl)) (mvT hZ (own_w hw 24 rfl)) (mvT hZ (own_w hw 145 rfl)) (by decide) (backOf (W := 0) (rmGC2_U4 l Z a0 hw [] y16 cs fm ky c0 c1 c2 c3 T16.heap n0 Z_16 SB Od_16 Vy hc2_) hZ (own_w hw 145 rfl) (own_w hw 24 rfl) (by decide) (by decide)) (g := (mkF m 32 #[.val (.ref r0), .val (.int (0 : Int32)), .val (.int (4 : Int32)), .val (.ref q), .val (.int (2 : Int32)), .val (.ref y16)] [(.int (2 : Int32)), (.ref y16)])) rfl (by rw [hml]; rfl) (argsL := [(.ref y16), (.int (2 : Int32))]) (rest := []) (lenOf pd_13 rfl) rfl (by show 2 * 0 + _ ≤ _; exact Nat.le_of_eq rfl) (hb hby d5_32) (fun _ _ => ⟨rfl, rfl, (by decide : 2 + 0 ≤ _), (by decide : 12 + 0 ≤ _)⟩)
    dsimp only [Pt.U, Pt.locs, Pt.cells, Pt.slots] at X18 l18 y18 z18 st18 hQ18
    subst l18 y18 z18
    obtain ⟨rfl, Nq18, e18⟩ := hQ18
    have N18 := Fr.app N16 Nq18
    obtain ⟨fs, hr, hrun, hended, hW, hsame⟩ := X18.leave (v := some (.ref y16)) (fun h => by rw [Bd.returns] at h; cases h)
    refine ⟨_, _, pre0 _ (st1 _ (st2 _ (st3 _ (st14 _ (st15 _ (st16 _ (st17 _ (st18 _ ?_)))))))), hrun, hended, _, _, rfl, ?_, ⟨_, rfl⟩, hW, hsame.mono (by decide) (by decide)⟩
    · refine XS.sipush X18.here hx rfl (hb hby d5_35) ?_
      refine XS.icmpYes X18.here hx rfl (pc0 := 38) (pc' := 54) rfl (hb hby d5_38) rfl (tlt l2).2.2.1 (by decide) (by decide) ?_
      refine XS.aload X18.here hx rfl (hb hby d5_54) rfl rfl ?_
      show Steps p.tables e below (T18.setTop (mkF m 56 #[.val (.ref r0), .val (.int (0 : Int32)), .val (.int (4 : Int32)), .val (.ref q), .val (.int (2 : Int32)), .val (.ref y16)] [(.ref y16)])) _
      jvm_step X18.here [X18.here.top, hx, (hb hby d5_56), X18.method', Bd.returns, Value.isRef, FieldType.isReference]
      first | (intro acts; rw [hr _ acts rfl rfl rfl]) | rw [hr _ _ rfl rfl rfl]
      exact Steps.refl _
    · show Q_rmCo4 Z r0 cs fm kc c0 c1 c2 c3 h0 n0 _ T18.heap _
      rw [e18]
      exact ⟨y16, rfl, N18, Kp_16, sz_y16, ky, Vy⟩
  · obtain ⟨_, _, ⟨T19, L19, k19, n19⟩, -, X19, ⟨Lc19, hQ19, l19, y19, z19⟩, st19⟩ := Jvm.LawKit.callS X2 hx (y := (⟨"java/lang/StringUTF16", "compress", "([CI[BII)I"⟩ : MethodName)) hown (mvT hZ (own_w hw 27 rfl)) (mvT hZ (own_w hw 28 rfl)) (mvT hZ (own_w hw 24 rfl)) (mvT hZ (own_w hw 29 rfl)) (by decide) (backOf (W := 0) (rmCi3_4 l Z a0 hw [] r0 q kc k2 c0 c1 c2 c3 h2 n0 Z_2 Vc_2 V_q g_q ne_r0_q l0 l1 l2 l3) hZ (own_w hw 29 rfl) (own_w hw 24 rfl) (by decide) (by decide)) (g := (mkF m 9 #[.val (.ref r0), .val (.int (0 : Int32)), .val (.int (4 : Int32)), .val (.ref q), .unset, .unset] [(.int (4 : Int32)), (.int (0 : Int32)), (.ref q), (.int (0 : Int32)), (.ref r0)])) rfl (by rw [hml]; rfl) (argsL := [(.ref r0), (.int (0 : Int32)), (.ref q), (.int (0 : Int32)), (.int (4 : Int32))]) (rest := []) (lenOf pd_5 rfl) rfl (by show 2 * 0 + _ ≤ _; exact Nat.le_of_eq rfl) (hb hby d5_9) (fun _ _ => ⟨rfl, e2, (by decide : 1 + 0 ≤ _), (by decide : 4 + 0 ≤ _)⟩)
    dsimp only [Pt.U, Pt.locs, Pt.cells, Pt.slots] at X19 l19 y19 z19 st19 hQ19
    subst l19 y19 z19
    obtain ⟨rfl, Nq19, K19⟩ := hQ19
    have N19 := Fr.app N0 Nq19
    have Od_19 := Od_2.keep K19 (allS g_q (all0))
    have Vc_19 := Vc_2.keep K19 (ninS ne_r0_q nin0)
    have Z_19 : n0 ≤ T19.heap.size := Nat.le_trans Z_2 K19.1
    have Kp_19 : Keep h0 T19.heap [] := Kp_2.trans K19 (allS (Or.inr sz_q) (all0))
    have st20 : own_S p e below T19 (mkF m 23 #[.val (.ref r0), .val (.int (0 : Int32)), .val (.int (4 : Int32)), .val (.ref q), .val (.int (3 : Int32)), .unset] [(.int (4 : Int32)), (.int (0 : Int32)), (.ref r0)]) (mkF m 12 #[.val (.ref r0), .val (.int (0 : Int32)), .val (.int (4 : Int32)), .val (.ref q), .unset, .unset] [(.int (3 : Int32))]) := by
      intro target kt
      refine XS.istore X19.here hx rfl (hb hby d5_12) rfl (l' := #[.val (.ref r0), .val (.int (0 : Int32)), .val (.int (4 : Int32)), .val (.ref q), .val (.int (3 : Int32)), .unset]) rfl ?_
      refine XS.iload X19.here hx rfl (hb hby d5_14) rfl ?_
      refine XS.iloadN X19.here hx rfl (hb hby d5_16) rfl ?_
      refine XS.icmpNo X19.here hx rfl (hb hby d5_17) rfl (feq (by decide : ¬ ((3 : Int32) = (4 : Int32)))).1 ?_
      refine XS.aloadN X19.here hx rfl (hb hby d5_20) rfl rfl ?_
      refine XS.iloadN X19.here hx rfl (hb hby d5_21) rfl ?_
      refine XS.iloadN X19.here hx rfl (hb hby d5_22) rfl ?_
      exact kt
    obtain ⟨_, _, ⟨T21, L21, k21, n21⟩, -, X21, ⟨Lc21, hQ21, l21, y21, z21⟩, st21⟩ := Jvm.LawKit.callS X19 hx (y := (⟨"java/lang/StringUTF16", "toBytes", "([CII)[B"⟩ : MethodName)) hown (mvT hZ (own_w hw 127 rfl)) (mvT hZ (own_w hw 128 rfl)) (mvT hZ (own_w hw 24 rfl)) (mvT hZ (own_w hw 129 rfl)) (by decide) (backOf (W := 0) (rmTB4 l Z a0 hw [] r0 cs fm kc c0 c1 c2 c3 T19.heap n0 Z_19 SB Od_19 Vc_19) hZ (own_w hw 129 rfl) (own_w hw 24 rfl) (by decide) (by decide)) (g := (mkF m 23 #[.val (.ref r0), .val (.int (0 : Int32)), .val (.int (4 : Int32)), .val (.ref q), .val (.int (3 : Int32)), .unset] [(.int (4 : Int32)), (.int (0 : Int32)), (.ref r0)])) rfl (by rw [hml]; rfl) (argsL := [(.ref r0), (.int (0 : Int32)), (.int (4 : Int32))]) (rest := []) (lenOf pd_4 rfl) rfl (by show 2 * 0 + _ ≤ _; exact Nat.le_of_eq rfl) (hb hby d5_23) (fun _ _ => ⟨rfl, rfl, (by decide : 1 + 1 ≤ _), (by decide : 4 + 8 ≤ _)⟩)
    dsimp only [Pt.U, Pt.locs, Pt.cells, Pt.slots] at X21 l21 y21 z21 st21 hQ21
    subst l21 y21 z21
    obtain ⟨y21, rfl, Nq21, K21, sz21, ky, Vy⟩ := hQ21
    have N21 := Fr.app N19 Nq21
    have g_y21 : n0 ≤ y21 := Nat.le_trans Z_19 sz21
    have sz_y21 : h0.size ≤ y21 := Nat.le_trans Kp_19.1 sz21
    have ne_r0_y21 : r0 ≠ y21 := Nat.ne_of_lt (Nat.lt_of_lt_of_le Vc_19.lt sz21)
    have Od_21 := Od_19.keep K21 (all0)
    have Vc_21 := Vc_19.keep K21 nin0
    have Z_21 : n0 ≤ T21.heap.size := Nat.le_trans Z_19 K21.1
    have Kp_21 : Keep h0 T21.heap [] := Kp_19.trans K21 (all0)
    have st22 : own_S p e below T21 (mkF m 32 #[.val (.ref r0), .val (.int (0 : Int32)), .val (.int (4 : Int32)), .val (.ref q), .val (.int (3 : Int32)), .val (.ref y21)] [(.int (3 : Int32)), (.ref y21)]) (mkF m 26 #[.val (.ref r0), .val (.int (0 : Int32)), .val (.int (4 : Int32)), .val (.ref q), .val (.int (3 : Int32)), .unset] [(.ref y21)]) := by
      intro target kt
      refine XS.astore X21.here hx rfl (hb hby d5_26) rfl rfl (l' := #[.val (.ref r0), .val (.int (0 : Int32)), .val (.int (4 : Int32)), .val (.ref q), .val (.int (3 : Int32)), .val (.ref y21)]) rfl ?_
      refine XS.aload X21.here hx rfl (hb hby d5_28) rfl rfl ?_
      refine XS.iload X21.here hx rfl (hb hby d5_30) rfl ?_
      exact kt
    obtain ⟨_, _, ⟨T23, L23, k23, n23⟩, -, X23, ⟨Lc23, hQ23, l23, y23, z23⟩, st23⟩ := Jvm.LawKit.callS X21 hx (y := (⟨"java/lang/StringUTF16", "getChar", "([BI)C"⟩ : MethodName)) hown (mvT hZ (own_w hw 143 rfl)) (mvT hZ (own_w hw 144 rfl)) (mvT hZ (own_w hw 24 rfl)) (mvT hZ (own_w hw 145 rfl)) (by decide) (backOf (W := 0) (rmGC3_U4 l Z a0 hw [] y21 cs fm ky c0 c1 c2 c3 T21.heap n0 Z_21 SB Od_21 Vy hc3_) hZ (own_w hw 145 rfl) (own_w hw 24 rfl) (by decide) (by decide)) (g := (mkF m 32 #[.val (.ref r0), .val (.int (0 : Int32)), .val (.int (4 : Int32)), .val (.ref q), .val (.int (3 : Int32)), .val (.ref y21)] [(.int (3 : Int32)), (.ref y21)])) rfl (by rw [hml]; rfl) (argsL := [(.ref y21), (.int (3 : Int32))]) (rest := []) (lenOf pd_13 rfl) rfl (by show 2 * 0 + _ ≤ _; exact Nat.le_of_eq rfl) (hb hby d5_32) (fun _ _ => ⟨rfl, rfl, (by decide : 2 + 0 ≤ _), (by decide : 12 + 0 ≤ _)⟩)
    dsimp only [Pt.U, Pt.locs, Pt.cells, Pt.slots] at X23 l23 y23 z23 st23 hQ23
    subst l23 y23 z23
    obtain ⟨rfl, Nq23, e23⟩ := hQ23
    have N23 := Fr.app N21 Nq23
    obtain ⟨fs, hr, hrun, hended, hW, hsame⟩ := X23.leave (v := some (.ref y21)) (fun h => by rw [Bd.returns] at h; cases h)
    refine ⟨_, _, pre0 _ (st1 _ (st2 _ (st3 _ (st19 _ (st20 _ (st21 _ (st22 _ (st23 _ ?_)))))))), hrun, hended, _, _, rfl, ?_, ⟨_, rfl⟩, hW, hsame.mono (by decide) (by decide)⟩
    · refine XS.sipush X23.here hx rfl (hb hby d5_35) ?_
      refine XS.icmpYes X23.here hx rfl (pc0 := 38) (pc' := 54) rfl (hb hby d5_38) rfl (tlt l3).2.2.1 (by decide) (by decide) ?_
      refine XS.aload X23.here hx rfl (hb hby d5_54) rfl rfl ?_
      show Steps p.tables e below (T23.setTop (mkF m 56 #[.val (.ref r0), .val (.int (0 : Int32)), .val (.int (4 : Int32)), .val (.ref q), .val (.int (3 : Int32)), .val (.ref y21)] [(.ref y21)])) _
      jvm_step X23.here [X23.here.top, hx, (hb hby d5_56), X23.method', Bd.returns, Value.isRef, FieldType.isReference]
      first | (intro acts; rw [hr _ acts rfl rfl rfl]) | rw [hr _ _ rfl rfl rfl]
      exact Steps.refl _
    · show Q_rmCo4 Z r0 cs fm kc c0 c1 c2 c3 h0 n0 _ T23.heap _
      rw [e23]
      exact ⟨y21, rfl, N23, Kp_21, sz_y21, ky, Vy⟩
theorem d7_0 : decode jdk_52_method_15_code 0 = .ok (.iload_n 1, 1) := by decide +kernel
theorem d7_1 : decode jdk_52_method_15_code 1 = .ok (.aload_n 0, 1) := by decide +kernel
theorem d7_2 : decode jdk_52_method_15_code 2 = .ok (.arraylength, 1) := by decide +kernel
theorem d7_3 : decode jdk_52_method_15_code 3 = .ok (.isub, 1) := by decide +kernel
theorem d7_4 : decode jdk_52_method_15_code 4 = .ok (.bipush 31, 2) := by decide +kernel
theorem d7_6 : decode jdk_52_method_15_code 6 = .ok (.iushr, 1) := by decide +kernel
theorem d7_7 : decode jdk_52_method_15_code 7 = .ok (.i2b, 1) := by decide +kernel
theorem d7_8 : decode jdk_52_method_15_code 8 = .ok (.ireturn, 1) := by decide +kernel
theorem ef_rmCl4 (m : MethodId) (x0 : Addr) (x1 : Int32) : entryFrame m #[(.ref x0), (.int x1)] 2 = mkF m 0 #[.val (.ref x0), .val (.int x1)] [] := by first | (simp [entryFrame, mkF, argsToLocals, Value.category]; done) | rfl
def Q_rmCl4 (Z : State) (r0 : Addr) (ky : ClassId) (c0 : Int32) (c1 : Int32) (c2 : Int32) (c3 : Int32) (h0 : Heap) (n0 : Nat) (v : Option Value) (h : Heap) (L : List Loc) : Prop := v = some (.int (1 : Int32)) ∧ Fr n0 L ∧ h = h0
set_option maxRecDepth 65536 in
set_option maxHeartbeats 40000000 in
theorem rmCl4 (l : Launch) (Z : State) (a0 : Array Value) (hw : ∀ d ∈ tables_1, d.before a0 Z = true) (ws : List Jvm.Cond) (r0 : Addr) (ky : ClassId) (c0 : Int32) (c1 : Int32) (c2 : Int32) (c3 : Int32) (h0 : Heap) (n0 : Nat) (Z0 : n0 ≤ h0.size) (Vy : Arv Z h0 r0 ky .byte (8 : Int32) [(.int (own_lo c0)), (.int (own_hi c0)), (.int (own_lo c1)), (.int (own_hi c1)), (.int (own_lo c2)), (.int (own_hi c2)), (.int (own_lo c3)), (.int (own_hi c3))] (.int (0 : Int32))) :
    MetFree l (⟨"java/lang/StringUTF16", "coderFromArrayLen", "([BI)B"⟩ : MethodName) (head1 (Jvm.Cond.code (⟨"java/lang/StringUTF16", "coderFromArrayLen", "([BI)B"⟩ : MethodName) jdk_52_method_15_code 2 (some .byte) :: ws) ({ frames := 0, cells := 0, slots := 0, locals := 0 } : Room)) (fun a U => a = #[(.ref r0), (.int (4 : Int32))] ∧ Z.Warmed39 U.vm ∧ U.heap = h0) (fun _ _ _ _ _ => True) (fun _ U o U' => ∃ v L, o = .returned v ∧ Q_rmCl4 Z r0 ky c0 c1 c2 c3 h0 n0 v U'.heap L ∧ FrameEnd U o U' L ({ frames := 0, cells := 0, slots := 0, locals := 0 } : Room).cells ({ frames := 0, cells := 0, slots := 0, locals := 0 } : Room).slots) := by
  refine MetFree.of_bodySF (plainFor_of_name pn_0) hisR ?_
  intro p e s m args below meth c s₁ Bd hml0 hP hK
  obtain ⟨rfl, hZ, hh⟩ := hP
  have hx := Bd.exec
  have hby := Bd.bytes
  have hml : c.maxLocals = 2 := hml0
  have hown : s.vm.findClass "java/lang/StringUTF16" = some m.cls := findClass_of_methodNamed Bd.named
  have hnm := (name_of_methodNamed Bd.named Bd.method).1
  have X0 : Stand p l e ({ frames := 0, cells := 0, slots := 0, locals := 0 } : Room) s m #[(.ref r0), (.int (4 : Int32))] below meth c s₁ [] 0 0 := Stand.of_body Bd
  have e0 : s₁.heap = h0 := by rw [← hh, Bd.state]; rfl
  have N0 := Fr.nil n0
  have pre0 : ∀ t, Steps p.tables e below (s₁.setTop (mkF m 0 #[.val (.ref r0), .val (.int (4 : Int32))] [])) t → Steps p.tables e below (s₁.setTop (entryFrame m #[(.ref r0), (.int (4 : Int32))] 2)) t := fun t k => castTop (ef_rmCl4 m r0 (4 : Int32)) k
  have st1 : own_S p e below s₁ (mkF m 2 #[.val (.ref r0), .val (.int (4 : Int32))] [(.ref r0), (.int (4 : Int32))]) (mkF m 0 #[.val (.ref r0), .val (.int (4 : Int32))] []) := by
    intro target kt
    refine XS.iloadN X0.here hx rfl (hb hby d7_0) rfl ?_
    refine XS.aloadN X0.here hx rfl (hb hby d7_1) rfl rfl ?_
    exact kt
  obtain ⟨cl2, Ar2, qc2, Sz2, Mn2, Hs2, Gs2⟩ := id Vy
  have st2 : own_S p e below s₁ (mkF m 3 #[.val (.ref r0), .val (.int (4 : Int32))] [(.int (8 : Int32)), (.int (4 : Int32))]) (mkF m 2 #[.val (.ref r0), .val (.int (4 : Int32))] [(.ref r0), (.int (4 : Int32))]) := fun target kt => X0.arraylength hx (cell := cl2) (by rw [e0]; exact Ar2.1) (State.isArrayOf_alike hZ.alike Ar2.2.1) (g := (mkF m 2 #[.val (.ref r0), .val (.int (4 : Int32))] [(.ref r0), (.int (4 : Int32))])) rfl rfl (hb hby d7_2) _ (by rw [len_of Sz2 Mn2]; exact kt)
  obtain ⟨fs, hr, hrun, hended, hW, hsame⟩ := X0.leave (v := some (.int (1 : Int32))) (fun h => by rw [Bd.returns] at h; cases h)
  refine ⟨_, _, pre0 _ (st1 _ (st2 _ ?_)), hrun, hended, _, _, rfl, ?_, ⟨_, rfl⟩, hW, hsame.mono (by decide) (by decide)⟩
  · refine XS.isub X0.here hx rfl (hb hby d7_3) rfl ?_
    refine XS.bipush X0.here hx rfl (hb hby d7_4) ?_
    refine XS.iushr X0.here hx rfl (hb hby d7_6) rfl ?_
    refine XS.i2b X0.here hx rfl (hb hby d7_7) rfl ?_
    show Steps p.tables e below (s₁.setTop (mkF m 8 #[.val (.ref r0), .val (.int (4 : Int32))] [(.int ((((-4 : Int32).toUInt32 >>> ((31 : Int32) &&& 31).toUInt32).toInt32).toInt8.toInt32))])) _
    exact retN X0 hx (t := .byte) Bd.returns (by simp) (hb hby d7_8) hr
  · show Q_rmCl4 Z r0 ky c0 c1 c2 c3 h0 n0 _ s₁.heap _
    rw [e0]
    exact ⟨rfl, N0, rfl⟩
theorem d3_0 : decode jdk_42_method_149_code 0 = .ok (.aload_n 0, 1) := by decide +kernel
theorem d3_1 : decode jdk_42_method_149_code 1 = .ok (.invokespecial 1, 3) := by decide +kernel
theorem d3_4 : decode jdk_42_method_149_code 4 = .ok (.iload_n 3, 1) := by decide +kernel
theorem d3_5 : decode jdk_42_method_149_code 5 = .ok (.ifCond .ne 22, 3) := by decide +kernel
theorem d3_27 : decode jdk_42_method_149_code 27 = .ok (.getstatic 38, 3) := by decide +kernel
theorem d3_30 : decode jdk_42_method_149_code 30 = .ok (.ifCond .eq 28, 3) := by decide +kernel
theorem d3_33 : decode jdk_42_method_149_code 33 = .ok (.aload_n 1, 1) := by decide +kernel
theorem d3_34 : decode jdk_42_method_149_code 34 = .ok (.iload_n 2, 1) := by decide +kernel
theorem d3_35 : decode jdk_42_method_149_code 35 = .ok (.iload_n 3, 1) := by decide +kernel
theorem d3_36 : decode jdk_42_method_149_code 36 = .ok (.invokestatic 177, 3) := by decide +kernel
theorem d3_39 : decode jdk_42_method_149_code 39 = .ok (.astore 5, 2) := by decide +kernel
theorem d3_41 : decode jdk_42_method_149_code 41 = .ok (.aload_n 0, 1) := by decide +kernel
theorem d3_42 : decode jdk_42_method_149_code 42 = .ok (.aload 5, 2) := by decide +kernel
theorem d3_44 : decode jdk_42_method_149_code 44 = .ok (.iload_n 3, 1) := by decide +kernel
theorem d3_45 : decode jdk_42_method_149_code 45 = .ok (.invokestatic 47, 3) := by decide +kernel
theorem d3_48 : decode jdk_42_method_149_code 48 = .ok (.putfield 15, 3) := by decide +kernel
theorem d3_51 : decode jdk_42_method_149_code 51 = .ok (.aload_n 0, 1) := by decide +kernel
theorem d3_52 : decode jdk_42_method_149_code 52 = .ok (.aload 5, 2) := by decide +kernel
theorem d3_54 : decode jdk_42_method_149_code 54 = .ok (.putfield 9, 3) := by decide +kernel
theorem d3_57 : decode jdk_42_method_149_code 57 = .ok (.return_, 1) := by decide +kernel
theorem pn_1 : plainName "java/lang/String" = true := by first | (simp [plainName, overriddenIn]; done) | decide +kernel
theorem ef_rmI4_4 (m : MethodId) (x0 : Addr) (x1 : Addr) (x2 : Int32) (x3 : Int32) : entryFrame m #[(.ref x0), (.ref x1), (.int x2), (.int x3), .null] 6 = mkF m 0 #[.val (.ref x0), .val (.ref x1), .val (.int x2), .val (.int x3), .val .null, .unset] [] := by first | (simp [entryFrame, mkF, argsToLocals, Value.category]; done) | rfl
def Q_rmI4_4 (Z : State) (r0 : Addr) (r1 : Addr) (cs : Int32) (fm : Value) (kc : ClassId) (c0 : Int32) (c1 : Int32) (c2 : Int32) (c3 : Int32) (h0 : Heap) (n0 : Nat) (v : Option Value) (h : Heap) (L : List Loc) : Prop := v = none ∧ Fr n0 L ∧ Keep h0 h [r0] ∧ Exa Z h r0 "java/lang/String" ∧ ∃ y ky, h0.size ≤ y ∧ Fld Z h r0 "java/lang/String" "value" "[B" (.ref y) ∧ Fld Z h r0 "java/lang/String" "coder" "B" (.int (1 : Int32)) ∧ Arv Z h y ky .byte (8 : Int32) [(.int (own_lo c0)), (.int (own_hi c0)), (.int (own_lo c1)), (.int (own_hi c1)), (.int (own_lo c2)), (.int (own_hi c2)), (.int (own_lo c3)), (.int (own_hi c3))] (.int (0 : Int32))
set_option maxRecDepth 65536 in
set_option maxHeartbeats 40000000 in
theorem rmI4_4 (l : Launch) (Z : State) (a0 : Array Value) (hw : ∀ d ∈ tables_1, d.before a0 Z = true) (ws : List Jvm.Cond) (r0 : Addr) (r1 : Addr) (cs : Int32) (fm : Value) (kc : ClassId) (c0 : Int32) (c1 : Int32) (c2 : Int32) (c3 : Int32) (h0 : Heap) (n0 : Nat) (Z0 : n0 ≤ h0.size) (SB : own_St Z cs fm) (Od : Old Z n0 h0) (Fv : Fld Z h0 r0 "java/lang/String" "value" "[B" .null) (Fc : Fld Z h0 r0 "java/lang/String" "coder" "B" (.int (0 : Int32))) (Et : Exa Z h0 r0 "java/lang/String") (g_r0 : n0 ≤ r0) (Vc : Arv Z h0 r1 kc .char (4 : Int32) [(.int c0), (.int c1), (.int c2), (.int c3)] (.int (0 : Int32))) (hne : r0 ≠ r1) (hc0_ : own_ch c0) (hc1_ : own_ch c1) (hc2_ : own_ch c2) (hc3_ : own_ch c3) (alt : ((255 : Int32) < c0) ∨ (¬ (255 : Int32) < c0 ∧ (255 : Int32) < c1) ∨ (¬ (255 : Int32) < c0 ∧ ¬ (255 : Int32) < c1 ∧ (255 : Int32) < c2) ∨ (¬ (255 : Int32) < c0 ∧ ¬ (255 : Int32) < c1 ∧ ¬ (255 : Int32) < c2 ∧ (255 : Int32) < c3)) :
    MetFree l (⟨"java/lang/String", "<init>", "([CIILjava/lang/Void;)V"⟩ : MethodName) (head1 (Jvm.Cond.code (⟨"java/lang/String", "<init>", "([CIILjava/lang/Void;)V"⟩ : MethodName) jdk_42_method_149_code 6 none :: ws) ({ frames := 4, cells := 2, slots := 12, locals := 57 } : Room)) (fun a U => a = #[(.ref r0), (.ref r1), (.int (0 : Int32)), (.int (4 : Int32)), .null] ∧ Z.Warmed39 U.vm ∧ U.heap = h0) (fun _ _ _ _ _ => True) (fun _ U o U' => ∃ v L, o = .returned v ∧ Q_rmI4_4 Z r0 r1 cs fm kc c0 c1 c2 c3 h0 n0 v U'.heap L ∧ FrameEnd U o U' L ({ frames := 4, cells := 2, slots := 12, locals := 57 } : Room).cells ({ frames := 4, cells := 2, slots := 12, locals := 57 } : Room).slots) := by
  refine MetFree.of_bodySF (plainFor_of_name pn_1) hisR ?_
  intro p e s m args below meth c s₁ Bd hml0 hP hK
  obtain ⟨rfl, hZ, hh⟩ := hP
  have hx := Bd.exec
  have hby := Bd.bytes
  have hml : c.maxLocals = 6 := hml0
  have hown : s.vm.findClass "java/lang/String" = some m.cls := findClass_of_methodNamed Bd.named
  have hnm := (name_of_methodNamed Bd.named Bd.method).1
  have X0 : Stand p l e ({ frames := 4, cells := 2, slots := 12, locals := 57 } : Room) s m #[(.ref r0), (.ref r1), (.int (0 : Int32)), (.int (4 : Int32)), .null] below meth c s₁ [] 0 0 := Stand.of_body Bd
  have e0 : s₁.heap = h0 := by rw [← hh, Bd.state]; rfl
  have N0 := Fr.nil n0
  have pre0 : ∀ t, Steps p.tables e below (s₁.setTop (mkF m 0 #[.val (.ref r0), .val (.ref r1), .val (.int (0 : Int32)), .val (.int (4 : Int32)), .val .null, .unset] [])) t → Steps p.tables e below (s₁.setTop (entryFrame m #[(.ref r0), (.ref r1), (.int (0 : Int32)), (.int (4 : Int32)), .null] 6)) t := fun t k => castTop (ef_rmI4_4 m r0 r1 (0 : Int32) (4 : Int32)) k
  have Kp : Keep h0 h0 [r0] := Keep.refl _ _
  have st1 : own_S p e below s₁ (mkF m 1 #[.val (.ref r0), .val (.ref r1), .val (.int (0 : Int32)), .val (.int (4 : Int32)), .val .null, .unset] [(.ref r0)]) (mkF m 0 #[.val (.ref r0), .val (.ref r1), .val (.int (0 : Int32)), .val (.int (4 : Int32)), .val .null, .unset] []) := by
    intro target kt
    refine XS.aloadN X0.here hx rfl (hb hby d3_0) rfl rfl ?_
    exact kt
  obtain ⟨T2, X2, e2, st2⟩ := initO X0 hx hZ hown (own_w hw 18 rfl) (own_w hw 19 rfl) (own_w hw 20 rfl) e0 (g := (mkF m 1 #[.val (.ref r0), .val (.ref r1), .val (.int (0 : Int32)), .val (.int (4 : Int32)), .val .null, .unset] [(.ref r0)])) rfl (by rw [hml]; rfl) rfl (hb hby d3_1) (by decide) (W := 0) (by show 2 * 0 + _ ≤ _; exact Nat.le_of_eq rfl) (by decide)
  have st3 : own_S p e below T2 (mkF m 27 #[.val (.ref r0), .val (.ref r1), .val (.int (0 : Int32)), .val (.int (4 : Int32)), .val .null, .unset] []) (mkF m 4 #[.val (.ref r0), .val (.ref r1), .val (.int (0 : Int32)), .val (.int (4 : Int32)), .val .null, .unset] []) := by
    intro target kt
    refine XS.iloadN X2.here hx rfl (hb hby d3_4) rfl ?_
    refine XS.ifYes X2.here hx rfl (pc0 := 5) (pc' := 27) rfl (hb hby d3_5) rfl ((if0 _ _).trans (feq (by decide : ¬ ((4 : Int32) = (0 : Int32)))).2) (by decide) (by decide) ?_
    exact kt
  obtain ⟨T4, X4, e4, st4⟩ := getS2 X2 hx hZ hown (host := "") (Or.inl (own_w hw 21 rfl)) Via.refl e2 (SB.1.ext Od.2) (g := (mkF m 27 #[.val (.ref r0), .val (.ref r1), .val (.int (0 : Int32)), .val (.int (4 : Int32)), .val .null, .unset] [])) rfl (hb hby d3_27)
  have st5 : own_S p e below T4 (mkF m 36 #[.val (.ref r0), .val (.ref r1), .val (.int (0 : Int32)), .val (.int (4 : Int32)), .val .null, .unset] [(.int (4 : Int32)), (.int (0 : Int32)), (.ref r1)]) (mkF m 30 #[.val (.ref r0), .val (.ref r1), .val (.int (0 : Int32)), .val (.int (4 : Int32)), .val .null, .unset] [(.int cs)]) := by
    intro target kt
    refine XS.ifNo X4.here hx rfl (hb hby d3_30) rfl ((if0 _ _).trans (feq SB.2.1).1) ?_
    refine XS.aloadN X4.here hx rfl (hb hby d3_33) rfl rfl ?_
    refine XS.iloadN X4.here hx rfl (hb hby d3_34) rfl ?_
    refine XS.iloadN X4.here hx rfl (hb hby d3_35) rfl ?_
    exact kt
  obtain ⟨_, _, ⟨T6, L6, k6, n6⟩, -, X6, ⟨Lc6, hQ6, l6, y6, z6⟩, st6⟩ := Jvm.LawKit.callS X4 hx (y := (⟨"java/lang/StringUTF16", "compress", "([CII)[B"⟩ : MethodName)) hown (mvT hZ (own_w hw 22 rfl)) (mvT hZ (own_w hw 23 rfl)) (mvT hZ (own_w hw 24 rfl)) (mvT hZ (own_w hw 25 rfl)) (by decide) (backOf (W := 0) (rmCo4 l Z a0 hw [] r1 cs fm kc c0 c1 c2 c3 h0 n0 Z0 SB Od Vc hc0_ hc1_ hc2_ hc3_ alt) hZ (own_w hw 25 rfl) (own_w hw 24 rfl) (by decide) (by decide)) (g := (mkF m 36 #[.val (.ref r0), .val (.ref r1), .val (.int (0 : Int32)), .val (.int (4 : Int32)), .val .null, .unset] [(.int (4 : Int32)), (.int (0 : Int32)), (.ref r1)])) rfl (by rw [hml]; rfl) (argsL := [(.ref r1), (.int (0 : Int32)), (.int (4 : Int32))]) (rest := []) (lenOf pd_4 rfl) rfl (by show 2 * 0 + _ ≤ _; exact Nat.le_of_eq rfl) (hb hby d3_36) (fun _ _ => ⟨rfl, e4, (by decide : 0 + 2 ≤ _), (by decide : 0 + 12 ≤ _)⟩)
  dsimp only [Pt.U, Pt.locs, Pt.cells, Pt.slots] at X6 l6 y6 z6 st6 hQ6
  subst l6 y6 z6
  obtain ⟨y6, rfl, Nq6, K6, sz6, ky, Vy⟩ := hQ6
  have N6 := Fr.app N0 Nq6
  have g_y6 : n0 ≤ y6 := Nat.le_trans Z0 sz6
  have sz_y6 : h0.size ≤ y6 := Nat.le_trans Kp.1 sz6
  have ne_r0_y6 : r0 ≠ y6 := Nat.ne_of_lt (Nat.lt_of_lt_of_le Et.lt sz6)
  have ne_r1_y6 : r1 ≠ y6 := Nat.ne_of_lt (Nat.lt_of_lt_of_le Vc.lt sz6)
  have Od_6 := Od.keep K6 (all0)
  have Et_6 := Et.keep K6
  have Fv_6 := Fv.keep K6 nin0
  have Fc_6 := Fc.keep K6 nin0
  have Vc_6 := Vc.keep K6 nin0
  have Z_6 : n0 ≤ T6.heap.size := Nat.le_trans Z0 K6.1
  have Kp_6 : Keep h0 T6.heap [r0] := Kp.trans K6 (all0)
  have st7 : own_S p e below T6 (mkF m 45 #[.val (.ref r0), .val (.ref r1), .val (.int (0 : Int32)), .val (.int (4 : Int32)), .val .null, .val (.ref y6)] [(.int (4 : Int32)), (.ref y6), (.ref r0)]) (mkF m 39 #[.val (.ref r0), .val (.ref r1), .val (.int (0 : Int32)), .val (.int (4 : Int32)), .val .null, .unset] [(.ref y6)]) := by
    intro target kt
    refine XS.astore X6.here hx rfl (hb hby d3_39) rfl rfl (l' := #[.val (.ref r0), .val (.ref r1), .val (.int (0 : Int32)), .val (.int (4 : Int32)), .val .null, .val (.ref y6)]) rfl ?_
    refine XS.aloadN X6.here hx rfl (hb hby d3_41) rfl rfl ?_
    refine XS.aload X6.here hx rfl (hb hby d3_42) rfl rfl ?_
    refine XS.iloadN X6.here hx rfl (hb hby d3_44) rfl ?_
    exact kt
  obtain ⟨_, _, ⟨T8, L8, k8, n8⟩, -, X8, ⟨Lc8, hQ8, l8, y8, z8⟩, st8⟩ := Jvm.LawKit.callS X6 hx (y := (⟨"java/lang/StringUTF16", "coderFromArrayLen", "([BI)B"⟩ : MethodName)) hown (mvT hZ (own_w hw 30 rfl)) (mvT hZ (own_w hw 31 rfl)) (mvT hZ (own_w hw 24 rfl)) (mvT hZ (own_w hw 32 rfl)) (by decide) (backOf (W := 1) (rmCl4 l Z a0 hw [] y6 ky c0 c1 c2 c3 T6.heap n0 Z_6 Vy) hZ (own_w hw 32 rfl) (own_w hw 24 rfl) (by decide) (by decide)) (g := (mkF m 45 #[.val (.ref r0), .val (.ref r1), .val (.int (0 : Int32)), .val (.int (4 : Int32)), .val .null, .val (.ref y6)] [(.int (4 : Int32)), (.ref y6), (.ref r0)])) rfl (by rw [hml]; rfl) (argsL := [(.ref y6), (.int (4 : Int32))]) (rest := [(.ref r0)]) (lenOf pd_6 rfl) rfl (by show 2 * 0 + _ ≤ _; exact Nat.le_of_eq rfl) (hb hby d3_45) (fun _ _ => ⟨rfl, rfl, (by decide : 2 + 0 ≤ _), (by decide : 12 + 0 ≤ _)⟩)
  dsimp only [Pt.U, Pt.locs, Pt.cells, Pt.slots] at X8 l8 y8 z8 st8 hQ8
  subst l8 y8 z8
  obtain ⟨rfl, Nq8, e8⟩ := hQ8
  have N8 := Fr.app N6 Nq8
  obtain ⟨T9, h9, X9, e9, W9, st9⟩ := putFN X8 hx hZ hown (own_w hw 33 rfl) Via.refl e8 Fc_6 Et_6 (Or.inr ⟨(own_w hw 34 rfl), rfl, hnm⟩) (own_w hw 9 rfl) (ty := .byte) (v' := (.int (nar .byte (1 : Int32)))) (by decide) rfl (fits_nar_byte _) (g := (mkF m 48 #[.val (.ref r0), .val (.ref r1), .val (.int (0 : Int32)), .val (.int (4 : Int32)), .val .null, .val (.ref y6)] [(.int (1 : Int32)), (.ref r0)])) rfl rfl (hb hby d3_48)
  have F_coder_r0_9 : Fld Z h9 r0 "java/lang/String" "coder" "B" (.int (nar .byte (1 : Int32))) := Fc_6.same W9
  have Od_9 := Od_6.wr W9 g_r0
  have Et_9 := Et_6.wr W9
  have Fv_9 := Fv_6.other W9 (Or.inr (slot_ne (Or.inr (own_w hw 36 rfl)) (Or.inr (own_w hw 34 rfl)) (by decide) (t := (.array .byte)) (t' := .byte) (by decide) (by decide)))
  have Vc_9 := Vc_6.other W9 (Ne.symm hne)
  have Vy_9 := Vy.other W9 (Ne.symm ne_r0_y6)
  have Z_9 : n0 ≤ h9.size := Nat.le_trans Z_6 (Keep.of_wr W9).1
  have Kp_9 : Keep h0 h9 [r0] := Kp_6.wr W9 (Or.inl (List.mem_of_getElem? (i := 0) rfl))
  have N9 := Fr.snoc X9 N8 g_r0
  have st10 : own_S p e below T9 (mkF m 54 #[.val (.ref r0), .val (.ref r1), .val (.int (0 : Int32)), .val (.int (4 : Int32)), .val .null, .val (.ref y6)] [(.ref y6), (.ref r0)]) (mkF m 51 #[.val (.ref r0), .val (.ref r1), .val (.int (0 : Int32)), .val (.int (4 : Int32)), .val .null, .val (.ref y6)] []) := by
    intro target kt
    refine XS.aloadN X9.here hx rfl (hb hby d3_51) rfl rfl ?_
    refine XS.aload X9.here hx rfl (hb hby d3_52) rfl rfl ?_
    exact kt
  obtain ⟨T11, h11, X11, e11, W11, st11⟩ := putF X9 hx hZ hown (host := "") (Or.inl (own_w hw 35 rfl)) Via.refl e9 Fv_9 Et_9 (Or.inr ⟨(own_w hw 36 rfl), rfl, hnm⟩) (own_w hw 9 rfl) (ty := (.array .byte)) (by decide) rfl rfl (g := (mkF m 54 #[.val (.ref r0), .val (.ref r1), .val (.int (0 : Int32)), .val (.int (4 : Int32)), .val .null, .val (.ref y6)] [(.ref y6), (.ref r0)])) rfl rfl (hb hby d3_54)
  have F_value_r0_11 : Fld Z h11 r0 "java/lang/String" "value" "[B" (.ref y6) := Fv_9.same W11
  have Od_11 := Od_9.wr W11 g_r0
  have Et_11 := Et_9.wr W11
  have Vc_11 := Vc_9.other W11 (Ne.symm hne)
  have Vy_11 := Vy_9.other W11 (Ne.symm ne_r0_y6)
  have F_coder_r0_11 := F_coder_r0_9.other W11 (Or.inr (slot_ne (Or.inr (own_w hw 34 rfl)) (Or.inr (own_w hw 36 rfl)) (by decide) (t := .byte) (t' := (.array .byte)) (by decide) (by decide)))
  have Z_11 : n0 ≤ h11.size := Nat.le_trans Z_9 (Keep.of_wr W11).1
  have Kp_11 : Keep h0 h11 [r0] := Kp_9.wr W11 (Or.inl (List.mem_of_getElem? (i := 0) rfl))
  have N11 := Fr.snoc X11 N9 g_r0
  obtain ⟨fs, hr, hrun, hended, hW, hsame⟩ := X11.leave (v := none) (fun _ => rfl)
  refine ⟨_, _, pre0 _ (st1 _ (st2 _ (st3 _ (st4 _ (st5 _ (st6 _ (st7 _ (st8 _ (st9 _ (st10 _ (st11 _ ?_))))))))))), hrun, hended, _, _, rfl, ?_, ⟨_, rfl⟩, hW, hsame.mono (by decide) (by decide)⟩
  · show Steps p.tables e below (T11.setTop (mkF m 57 #[.val (.ref r0), .val (.ref r1), .val (.int (0 : Int32)), .val (.int (4 : Int32)), .val .null, .val (.ref y6)] [])) _
    exact X11.returnOut hx Bd.returns (hb hby d3_57) hr
  · show Q_rmI4_4 Z r0 r1 cs fm kc c0 c1 c2 c3 h0 n0 _ T11.heap _
    rw [e11]
    exact ⟨rfl, N11, Kp_11, Et_11, y6, ky, sz_y6, F_value_r0_11, F_coder_r0_11, Vy_11⟩
theorem d2_0 : decode jdk_42_method_3_code 0 = .ok (.aload_n 0, 1) := by decide +kernel
theorem d2_1 : decode jdk_42_method_3_code 1 = .ok (.aload_n 1, 1) := by decide +kernel
theorem d2_2 : decode jdk_42_method_3_code 2 = .ok (.iconst 0, 1) := by decide +kernel
theorem d2_3 : decode jdk_42_method_3_code 3 = .ok (.aload_n 1, 1) := by decide +kernel
theorem d2_4 : decode jdk_42_method_3_code 4 = .ok (.arraylength, 1) := by decide +kernel
theorem d2_5 : decode jdk_42_method_3_code 5 = .ok (.aconst_null, 1) := by decide +kernel
theorem d2_6 : decode jdk_42_method_3_code 6 = .ok (.invokespecial 27, 3) := by decide +kernel
theorem d2_9 : decode jdk_42_method_3_code 9 = .ok (.return_, 1) := by decide +kernel
theorem ef_rmI1_4 (m : MethodId) (x0 : Addr) (x1 : Addr) : entryFrame m #[(.ref x0), (.ref x1)] 2 = mkF m 0 #[.val (.ref x0), .val (.ref x1)] [] := by first | (simp [entryFrame, mkF, argsToLocals, Value.category]; done) | rfl
def Q_rmI1_4 (Z : State) (r0 : Addr) (r1 : Addr) (cs : Int32) (fm : Value) (kc : ClassId) (c0 : Int32) (c1 : Int32) (c2 : Int32) (c3 : Int32) (h0 : Heap) (n0 : Nat) (v : Option Value) (h : Heap) (L : List Loc) : Prop := v = none ∧ Fr n0 L ∧ Keep h0 h [r0] ∧ Exa Z h r0 "java/lang/String" ∧ ∃ y ky, h0.size ≤ y ∧ Fld Z h r0 "java/lang/String" "value" "[B" (.ref y) ∧ Fld Z h r0 "java/lang/String" "coder" "B" (.int (1 : Int32)) ∧ Arv Z h y ky .byte (8 : Int32) [(.int (own_lo c0)), (.int (own_hi c0)), (.int (own_lo c1)), (.int (own_hi c1)), (.int (own_lo c2)), (.int (own_hi c2)), (.int (own_lo c3)), (.int (own_hi c3))] (.int (0 : Int32))
set_option maxRecDepth 65536 in
set_option maxHeartbeats 40000000 in
theorem rmI1_4 (l : Launch) (Z : State) (a0 : Array Value) (hw : ∀ d ∈ tables_1, d.before a0 Z = true) (ws : List Jvm.Cond) (r0 : Addr) (r1 : Addr) (cs : Int32) (fm : Value) (kc : ClassId) (c0 : Int32) (c1 : Int32) (c2 : Int32) (c3 : Int32) (h0 : Heap) (n0 : Nat) (Z0 : n0 ≤ h0.size) (SB : own_St Z cs fm) (Od : Old Z n0 h0) (Fv : Fld Z h0 r0 "java/lang/String" "value" "[B" .null) (Fc : Fld Z h0 r0 "java/lang/String" "coder" "B" (.int (0 : Int32))) (Et : Exa Z h0 r0 "java/lang/String") (g_r0 : n0 ≤ r0) (Vc : Arv Z h0 r1 kc .char (4 : Int32) [(.int c0), (.int c1), (.int c2), (.int c3)] (.int (0 : Int32))) (hne : r0 ≠ r1) (hc0_ : own_ch c0) (hc1_ : own_ch c1) (hc2_ : own_ch c2) (hc3_ : own_ch c3) (alt : ((255 : Int32) < c0) ∨ (¬ (255 : Int32) < c0 ∧ (255 : Int32) < c1) ∨ (¬ (255 : Int32) < c0 ∧ ¬ (255 : Int32) < c1 ∧ (255 : Int32) < c2) ∨ (¬ (255 : Int32) < c0 ∧ ¬ (255 : Int32) < c1 ∧ ¬ (255 : Int32) < c2 ∧ (255 : Int32) < c3)) :
    MetFree l (⟨"java/lang/String", "<init>", "([C)V"⟩ : MethodName) (head1 (Jvm.Cond.code (⟨"java/lang/String", "<init>", "([C)V"⟩ : MethodName) jdk_42_method_3_code 2 none :: ws) ({ frames := 5, cells := 2, slots := 12, locals := 74 } : Room)) (fun a U => a = #[(.ref r0), (.ref r1)] ∧ Z.Warmed39 U.vm ∧ U.heap = h0) (fun _ _ _ _ _ => True) (fun _ U o U' => ∃ v L, o = .returned v ∧ Q_rmI1_4 Z r0 r1 cs fm kc c0 c1 c2 c3 h0 n0 v U'.heap L ∧ FrameEnd U o U' L ({ frames := 5, cells := 2, slots := 12, locals := 74 } : Room).cells ({ frames := 5, cells := 2, slots := 12, locals := 74 } : Room).slots) := by
  refine MetFree.of_bodySF (plainFor_of_name pn_1) hisR ?_
  intro p e s m args below meth c s₁ Bd hml0 hP hK
  obtain ⟨rfl, hZ, hh⟩ := hP
  have hx := Bd.exec
  have hby := Bd.bytes
  have hml : c.maxLocals = 2 := hml0
  have hown : s.vm.findClass "java/lang/String" = some m.cls := findClass_of_methodNamed Bd.named
  have hnm := (name_of_methodNamed Bd.named Bd.method).1
  have X0 : Stand p l e ({ frames := 5, cells := 2, slots := 12, locals := 74 } : Room) s m #[(.ref r0), (.ref r1)] below meth c s₁ [] 0 0 := Stand.of_body Bd
  have e0 : s₁.heap = h0 := by rw [← hh, Bd.state]; rfl
  have N0 := Fr.nil n0
  have pre0 : ∀ t, Steps p.tables e below (s₁.setTop (mkF m 0 #[.val (.ref r0), .val (.ref r1)] [])) t → Steps p.tables e below (s₁.setTop (entryFrame m #[(.ref r0), (.ref r1)] 2)) t := fun t k => castTop (ef_rmI1_4 m r0 r1) k
  have Kp : Keep h0 h0 [r0] := Keep.refl _ _
  have st1 : own_S p e below s₁ (mkF m 4 #[.val (.ref r0), .val (.ref r1)] [(.ref r1), (.int (0 : Int32)), (.ref r1), (.ref r0)]) (mkF m 0 #[.val (.ref r0), .val (.ref r1)] []) := by
    intro target kt
    refine XS.aloadN X0.here hx rfl (hb hby d2_0) rfl rfl ?_
    refine XS.aloadN X0.here hx rfl (hb hby d2_1) rfl rfl ?_
    refine XS.iconst X0.here hx rfl (hb hby d2_2) ?_
    refine XS.aloadN X0.here hx rfl (hb hby d2_3) rfl rfl ?_
    exact kt
  obtain ⟨cl2, Ar2, qc2, Sz2, Mn2, Hs2, Gs2⟩ := id Vc
  have st2 : own_S p e below s₁ (mkF m 5 #[.val (.ref r0), .val (.ref r1)] [(.int (4 : Int32)), (.int (0 : Int32)), (.ref r1), (.ref r0)]) (mkF m 4 #[.val (.ref r0), .val (.ref r1)] [(.ref r1), (.int (0 : Int32)), (.ref r1), (.ref r0)]) := fun target kt => X0.arraylength hx (cell := cl2) (by rw [e0]; exact Ar2.1) (State.isArrayOf_alike hZ.alike Ar2.2.1) (g := (mkF m 4 #[.val (.ref r0), .val (.ref r1)] [(.ref r1), (.int (0 : Int32)), (.ref r1), (.ref r0)])) rfl rfl (hb hby d2_4) _ (by rw [len_of Sz2 Mn2]; exact kt)
  have st3 : own_S p e below s₁ (mkF m 6 #[.val (.ref r0), .val (.ref r1)] [.null, (.int (4 : Int32)), (.int (0 : Int32)), (.ref r1), (.ref r0)]) (mkF m 5 #[.val (.ref r0), .val (.ref r1)] [(.int (4 : Int32)), (.int (0 : Int32)), (.ref r1), (.ref r0)]) := by
    intro target kt
    refine XS.aconstNull X0.here hx rfl (hb hby d2_5) ?_
    exact kt
  obtain ⟨_, _, ⟨T4, L4, k4, n4⟩, -, X4, ⟨Lc4, hQ4, l4, y4, z4⟩, st4⟩ := X0.specialBack hx (y := (⟨"java/lang/String", "<init>", "([CIILjava/lang/Void;)V"⟩ : MethodName)) rfl hown (mvT hZ (own_w hw 14 rfl)) (mvT hZ (own_w hw 15 rfl)) (mvT hZ (own_w hw 17 rfl)) (by decide) (backOf (W := 0) (rmI4_4 l Z a0 hw [] r0 r1 cs fm kc c0 c1 c2 c3 h0 n0 Z0 SB Od Fv Fc Et g_r0 Vc hne hc0_ hc1_ hc2_ hc3_ alt) hZ (own_w hw 17 rfl) (own_w hw 10 rfl) (by decide) (by decide)) (g := (mkF m 6 #[.val (.ref r0), .val (.ref r1)] [.null, (.int (4 : Int32)), (.int (0 : Int32)), (.ref r1), (.ref r0)])) rfl (by rw [hml]; rfl) (Steps.refl _) (a := r0) (argsL := [(.ref r1), (.int (0 : Int32)), (.int (4 : Int32)), .null]) (rest := []) (lenOf pd_2 rfl) rfl (by show 2 * 0 + _ ≤ _; exact Nat.le_of_eq rfl) (hb hby d2_6) (fun _ _ => ⟨rfl, e0, (by decide : 0 + 2 ≤ _), (by decide : 0 + 12 ≤ _)⟩)
  dsimp only [Pt.U, Pt.locs, Pt.cells, Pt.slots] at X4 l4 y4 z4 st4 hQ4
  subst l4 y4 z4
  obtain ⟨rfl, Nq4, K4, rest_⟩ := hQ4
  have N4 := Fr.app N0 Nq4
  have Od_4 := Od.keep K4 (allS g_r0 (all0))
  have Et_4 := Et.keep K4
  have Vc_4 := Vc.keep K4 (ninS (Ne.symm hne) nin0)
  have Z_4 : n0 ≤ T4.heap.size := Nat.le_trans Z0 K4.1
  have Kp_4 : Keep h0 T4.heap [r0] := Kp.trans K4 (allS (Or.inl (List.mem_of_getElem? (i := 0) rfl)) (all0))
  obtain ⟨fs, hr, hrun, hended, hW, hsame⟩ := X4.leave (v := none) (fun _ => rfl)
  refine ⟨_, _, pre0 _ (st1 _ (st2 _ (st3 _ (st4.trans ?_)))), hrun, hended, _, _, rfl, ?_, ⟨_, rfl⟩, hW, hsame.mono (by decide) (by decide)⟩
  · show Steps p.tables e below (T4.setTop (mkF m 9 #[.val (.ref r0), .val (.ref r1)] [])) _
    exact X4.returnOut hx Bd.returns (hb hby d2_9) hr
  · show Q_rmI1_4 Z r0 r1 cs fm kc c0 c1 c2 c3 h0 n0 _ T4.heap _
    exact ⟨rfl, N4, Kp_4, rest_⟩
def own_SF (Z : State) (h : Heap) (t y : Addr) (ky : ClassId) (c0 c1 c2 c3 : Int32) : Prop := (Fld Z h t "java/lang/String" "coder" "B" (.int (0 : Int32)) ∧ Arv Z h y ky .byte (4 : Int32) [(.int (c0.toInt8.toInt32)), (.int (c1.toInt8.toInt32)), (.int (c2.toInt8.toInt32)), (.int (c3.toInt8.toInt32))] (.int (0 : Int32)) ∧ (0 ≤ c0.toInt ∧ c0.toInt < 256) ∧ (0 ≤ c1.toInt ∧ c1.toInt < 256) ∧ (0 ≤ c2.toInt ∧ c2.toInt < 256) ∧ (0 ≤ c3.toInt ∧ c3.toInt < 256)) ∨ (Fld Z h t "java/lang/String" "coder" "B" (.int (1 : Int32)) ∧ Arv Z h y ky .byte (8 : Int32) [(.int (own_lo c0)), (.int (own_hi c0)), (.int (own_lo c1)), (.int (own_hi c1)), (.int (own_lo c2)), (.int (own_hi c2)), (.int (own_lo c3)), (.int (own_hi c3))] (.int (0 : Int32)) ∧ (0 ≤ c0.toInt ∧ c0.toInt < 65536) ∧ (0 ≤ c1.toInt ∧ c1.toInt < 65536) ∧ (0 ≤ c2.toInt ∧ c2.toInt < 65536) ∧ (0 ≤ c3.toInt ∧ c3.toInt < 65536))
section Own
variable {Z : State} {h h' : Heap} {t y : Addr} {ky : ClassId} {c0 c1 c2 c3 : Int32}
theorem own_SF.ext (S : own_SF Z h t y ky c0 c1 c2 c3) (E : Ext h h') : own_SF Z h' t y ky c0 c1 c2 c3 := by
  rcases S with ⟨a, b, c⟩ | ⟨a, b, c⟩
  · exact Or.inl ⟨a.ext E, b.ext E, c⟩
  · exact Or.inr ⟨a.ext E, b.ext E, c⟩
theorem own_SF.other {x : Addr} {sl : Nat} {v : Value} (S : own_SF Z h t y ky c0 c1 c2 c3) (W : Wr h h' x sl v) (q1 : t ≠ x) (q2 : y ≠ x) : own_SF Z h' t y ky c0 c1 c2 c3 := by
  rcases S with ⟨a, b, c⟩ | ⟨a, b, c⟩
  · exact Or.inl ⟨a.other W (Or.inl q1), b.other W q2, c⟩
  · exact Or.inr ⟨a.other W (Or.inl q1), b.other W q2, c⟩
theorem own_SF.keep {xs : List Addr} (S : own_SF Z h t y ky c0 c1 c2 c3) (K : Keep h h' xs) (q1 : t ∉ xs) (q2 : y ∉ xs) : own_SF Z h' t y ky c0 c1 c2 c3 := by
  rcases S with ⟨a, b, c⟩ | ⟨a, b, c⟩
  · exact Or.inl ⟨a.keep K q1, b.keep K q2, c⟩
  · exact Or.inr ⟨a.keep K q1, b.keep K q2, c⟩
end Own
def own_ix4 (p c c0 c1 c2 c3 : Int32) : Prop := (p = (0 : Int32) ∧ c = c0) ∨ (p = (1 : Int32) ∧ c = c1) ∨ (p = (2 : Int32) ∧ c = c2) ∨ (p = (3 : Int32) ∧ c = c3)
def own_ip4 (p : Int32) (P : Prop) (c0 c1 c2 c3 : Int32) : Prop := (p = (1 : Int32) ∧ P = (c1 = 44 ∨ c2 = 44 ∨ c3 = 44 ∨ False)) ∨ (p = (2 : Int32) ∧ P = (c2 = 44 ∨ c3 = 44 ∨ False)) ∨ (p = (3 : Int32) ∧ P = (c3 = 44 ∨ False)) ∨ (p = (4 : Int32) ∧ P = (False))
theorem d12_0 : decode jdk_42_method_152_code 0 = .ok (.getstatic 38, 3) := by decide +kernel
theorem d12_3 : decode jdk_42_method_152_code 3 = .ok (.ifCond .eq 10, 3) := by decide +kernel
theorem d12_6 : decode jdk_42_method_152_code 6 = .ok (.aload_n 0, 1) := by decide +kernel
theorem d12_7 : decode jdk_42_method_152_code 7 = .ok (.getfield 15, 3) := by decide +kernel
theorem d12_10 : decode jdk_42_method_152_code 10 = .ok (.goto 4, 3) := by decide +kernel
theorem d12_14 : decode jdk_42_method_152_code 14 = .ok (.ireturn, 1) := by decide +kernel
theorem ef_rmCod_L4 (m : MethodId) (x0 : Addr) : entryFrame m #[(.ref x0)] 1 = mkF m 0 #[.val (.ref x0)] [] := by first | (simp [entryFrame, mkF, argsToLocals, Value.category]; done) | rfl
def Q_rmCod_L4 (Z : State) (r0 : Addr) (cs : Int32) (fm : Value) (h0 : Heap) (n0 : Nat) (v : Option Value) (h : Heap) (L : List Loc) : Prop := v = some (.int (0 : Int32)) ∧ Fr n0 L ∧ h = h0
set_option maxRecDepth 65536 in
set_option maxHeartbeats 40000000 in
theorem rmCod_L4 (l : Launch) (Z : State) (a0 : Array Value) (hw : ∀ d ∈ tables_1, d.before a0 Z = true) (ws : List Jvm.Cond) (r0 : Addr) (cs : Int32) (fm : Value) (h0 : Heap) (n0 : Nat) (Z0 : n0 ≤ h0.size) (SB : own_St Z cs fm) (Od : Old Z n0 h0) (Fc : Fld Z h0 r0 "java/lang/String" "coder" "B" (.int (0 : Int32))) :
    MetFree l (⟨"java/lang/String", "coder", "()B"⟩ : MethodName) (head1 (Jvm.Cond.code (⟨"java/lang/String", "coder", "()B"⟩ : MethodName) jdk_42_method_152_code 1 (some .byte) :: ws) ({ frames := 0, cells := 0, slots := 0, locals := 0 } : Room)) (fun a U => a = #[(.ref r0)] ∧ Z.Warmed39 U.vm ∧ U.heap = h0) (fun _ _ _ _ _ => True) (fun _ U o U' => ∃ v L, o = .returned v ∧ Q_rmCod_L4 Z r0 cs fm h0 n0 v U'.heap L ∧ FrameEnd U o U' L ({ frames := 0, cells := 0, slots := 0, locals := 0 } : Room).cells ({ frames := 0, cells := 0, slots := 0, locals := 0 } : Room).slots) := by
  refine MetFree.of_bodySF (plainFor_of_name pn_1) hisR ?_
  intro p e s m args below meth c s₁ Bd hml0 hP hK
  obtain ⟨rfl, hZ, hh⟩ := hP
  have hx := Bd.exec
  have hby := Bd.bytes
  have hml : c.maxLocals = 1 := hml0
  have hown : s.vm.findClass "java/lang/String" = some m.cls := findClass_of_methodNamed Bd.named
  have hnm := (name_of_methodNamed Bd.named Bd.method).1
  have X0 : Stand p l e ({ frames := 0, cells := 0, slots := 0, locals := 0 } : Room) s m #[(.ref r0)] below meth c s₁ [] 0 0 := Stand.of_body Bd
  have e0 : s₁.heap = h0 := by rw [← hh, Bd.state]; rfl
  have N0 := Fr.nil n0
  have pre0 : ∀ t, Steps p.tables e below (s₁.setTop (mkF m 0 #[.val (.ref r0)] [])) t → Steps p.tables e below (s₁.setTop (entryFrame m #[(.ref r0)] 1)) t := fun t k => castTop (ef_rmCod_L4 m r0) k
  obtain ⟨T1, X1, e1, st1⟩ := getS2 X0 hx hZ hown (host := "") (Or.inl (own_w hw 21 rfl)) Via.refl e0 (SB.1.ext Od.2) (g := (mkF m 0 #[.val (.ref r0)] [])) rfl (hb hby d12_0)
  have st2 : own_S p e below T1 (mkF m 7 #[.val (.ref r0)] [(.ref r0)]) (mkF m 3 #[.val (.ref r0)] [(.int cs)]) := by
    intro target kt
    refine XS.ifNo X1.here hx rfl (hb hby d12_3) rfl ((if0 _ _).trans (feq SB.2.1).1) ?_
    refine XS.aloadN X1.here hx rfl (hb hby d12_6) rfl rfl ?_
    exact kt
  obtain ⟨T3, X3, e3, st3⟩ := getF X1 hx hZ hown (host := "") (Or.inl (own_w hw 33 rfl)) Via.refl e1 Fc (g := (mkF m 7 #[.val (.ref r0)] [(.ref r0)])) rfl rfl (hb hby d12_7)
  obtain ⟨fs, hr, hrun, hended, hW, hsame⟩ := X3.leave (v := some (.int (0 : Int32))) (fun h => by rw [Bd.returns] at h; cases h)
  refine ⟨_, _, pre0 _ (st1 _ (st2 _ (st3 _ ?_))), hrun, hended, _, _, rfl, ?_, ⟨_, rfl⟩, hW, hsame.mono (by decide) (by decide)⟩
  · refine XS.goto X3.here hx rfl (pc0 := 10) (pc' := 14) rfl (hb hby d12_10) (by decide) (by decide) ?_
    show Steps p.tables e below (T3.setTop (mkF m 14 #[.val (.ref r0)] [(.int (0 : Int32))])) _
    exact retN X3 hx (t := .byte) Bd.returns (by simp) (hb hby d12_14) hr
  · show Q_rmCod_L4 Z r0 cs fm h0 n0 _ T3.heap _
    rw [e3]
    exact ⟨rfl, N0, rfl⟩
theorem d11_0 : decode jdk_42_method_54_code 0 = .ok (.aload_n 0, 1) := by decide +kernel
theorem d11_1 : decode jdk_42_method_54_code 1 = .ok (.getfield 9, 3) := by decide +kernel
theorem d11_4 : decode jdk_42_method_54_code 4 = .ok (.arraylength, 1) := by decide +kernel
theorem d11_5 : decode jdk_42_method_54_code 5 = .ok (.aload_n 0, 1) := by decide +kernel
theorem d11_6 : decode jdk_42_method_54_code 6 = .ok (.invokevirtual 335, 3) := by decide +kernel
theorem d11_9 : decode jdk_42_method_54_code 9 = .ok (.ishr, 1) := by decide +kernel
theorem d11_10 : decode jdk_42_method_54_code 10 = .ok (.ireturn, 1) := by decide +kernel
theorem ef_rmLen_L4 (m : MethodId) (x0 : Addr) : entryFrame m #[(.ref x0)] 1 = mkF m 0 #[.val (.ref x0)] [] := by first | (simp [entryFrame, mkF, argsToLocals, Value.category]; done) | rfl
def Q_rmLen_L4 (Z : State) (r0 : Addr) (cs : Int32) (fm : Value) (y : Addr) (ky : ClassId) (c0 : Int32) (c1 : Int32) (c2 : Int32) (c3 : Int32) (h0 : Heap) (n0 : Nat) (v : Option Value) (h : Heap) (L : List Loc) : Prop := v = some (.int (4 : Int32)) ∧ Fr n0 L ∧ h = h0
set_option maxRecDepth 65536 in
set_option maxHeartbeats 40000000 in
theorem rmLen_L4 (l : Launch) (Z : State) (a0 : Array Value) (hw : ∀ d ∈ tables_1, d.before a0 Z = true) (ws : List Jvm.Cond) (r0 : Addr) (cs : Int32) (fm : Value) (y : Addr) (ky : ClassId) (c0 : Int32) (c1 : Int32) (c2 : Int32) (c3 : Int32) (h0 : Heap) (n0 : Nat) (Z0 : n0 ≤ h0.size) (SB : own_St Z cs fm) (Od : Old Z n0 h0) (Fv : Fld Z h0 r0 "java/lang/String" "value" "[B" (.ref y)) (Fc : Fld Z h0 r0 "java/lang/String" "coder" "B" (.int (0 : Int32))) (Et : Exa Z h0 r0 "java/lang/String") (Vy : Arv Z h0 y ky .byte (4 : Int32) [(.int (c0.toInt8.toInt32)), (.int (c1.toInt8.toInt32)), (.int (c2.toInt8.toInt32)), (.int (c3.toInt8.toInt32))] (.int (0 : Int32))) :
    MetFree l (⟨"java/lang/String", "length", "()I"⟩ : MethodName) (head1 (Jvm.Cond.code (⟨"java/lang/String", "length", "()I"⟩ : MethodName) jdk_42_method_54_code 1 (some .int) :: ws) ({ frames := 1, cells := 0, slots := 0, locals := 13 } : Room)) (fun a U => a = #[(.ref r0)] ∧ Z.Warmed39 U.vm ∧ U.heap = h0) (fun _ _ _ _ _ => True) (fun _ U o U' => ∃ v L, o = .returned v ∧ Q_rmLen_L4 Z r0 cs fm y ky c0 c1 c2 c3 h0 n0 v U'.heap L ∧ FrameEnd U o U' L ({ frames := 1, cells := 0, slots := 0, locals := 13 } : Room).cells ({ frames := 1, cells := 0, slots := 0, locals := 13 } : Room).slots) := by
  refine MetFree.of_bodySF (plainFor_of_name pn_1) hisR ?_
  intro p e s m args below meth c s₁ Bd hml0 hP hK
  obtain ⟨rfl, hZ, hh⟩ := hP
  have hx := Bd.exec
  have hby := Bd.bytes
  have hml : c.maxLocals = 1 := hml0
  have hown : s.vm.findClass "java/lang/String" = some m.cls := findClass_of_methodNamed Bd.named
  have hnm := (name_of_methodNamed Bd.named Bd.method).1
  have X0 : Stand p l e ({ frames := 1, cells := 0, slots := 0, locals := 13 } : Room) s m #[(.ref r0)] below meth c s₁ [] 0 0 := Stand.of_body Bd
  have e0 : s₁.heap = h0 := by rw [← hh, Bd.state]; rfl
  have N0 := Fr.nil n0
  have pre0 : ∀ t, Steps p.tables e below (s₁.setTop (mkF m 0 #[.val (.ref r0)] [])) t → Steps p.tables e below (s₁.setTop (entryFrame m #[(.ref r0)] 1)) t := fun t k => castTop (ef_rmLen_L4 m r0) k
  have st1 : own_S p e below s₁ (mkF m 1 #[.val (.ref r0)] [(.ref r0)]) (mkF m 0 #[.val (.ref r0)] []) := by
    intro target kt
    refine XS.aloadN X0.here hx rfl (hb hby d11_0) rfl rfl ?_
    exact kt
  obtain ⟨T2, X2, e2, st2⟩ := getF X0 hx hZ hown (host := "") (Or.inl (own_w hw 35 rfl)) Via.refl e0 Fv (g := (mkF m 1 #[.val (.ref r0)] [(.ref r0)])) rfl rfl (hb hby d11_1)
  obtain ⟨cl3, Ar3, qc3, Sz3, Mn3, Hs3, Gs3⟩ := id Vy
  have st3 : own_S p e below T2 (mkF m 5 #[.val (.ref r0)] [(.int (4 : Int32))]) (mkF m 4 #[.val (.ref r0)] [(.ref y)]) := fun target kt => X2.arraylength hx (cell := cl3) (by rw [e2]; exact Ar3.1) (State.isArrayOf_alike hZ.alike Ar3.2.1) (g := (mkF m 4 #[.val (.ref r0)] [(.ref y)])) rfl rfl (hb hby d11_4) _ (by rw [len_of Sz3 Mn3]; exact kt)
  have st4 : own_S p e below T2 (mkF m 6 #[.val (.ref r0)] [(.ref r0), (.int (4 : Int32))]) (mkF m 5 #[.val (.ref r0)] [(.int (4 : Int32))]) := by
    intro target kt
    refine XS.aloadN X2.here hx rfl (hb hby d11_5) rfl rfl ?_
    exact kt
  obtain ⟨cq5, kq5, qv5a, qv5b, qv5c⟩ := isOf hZ e2 Et
  obtain ⟨_, _, ⟨T5, L5, k5, n5⟩, -, X5, ⟨Lc5, hQ5, l5, y5, z5⟩, st5⟩ := X2.virtualBack hx (y := (⟨"java/lang/String", "coder", "()B"⟩ : MethodName)) (z := (⟨"java/lang/String", "coder", "()B"⟩ : MethodName)) hown (mvT hZ (own_w hw 69 rfl)) (mvT hZ (own_w hw 70 rfl)) (notFace_of_selects (args := #[]) (mvT hZ (own_w hw 72 rfl))) (mvT hZ (own_w hw 72 rfl)) (mvT hZ (own_w hw 71 rfl)) (by decide) (backOf (W := 1) (rmCod_L4 l Z a0 hw [] r0 cs fm h0 n0 Z0 SB Od Fc) hZ (own_w hw 73 rfl) (own_w hw 10 rfl) (by decide) (by decide)) qv5a qv5c (g := (mkF m 6 #[.val (.ref r0)] [(.ref r0), (.int (4 : Int32))])) rfl (by rw [hml]; rfl) (Steps.refl _) (argsL := []) (rest := [(.int (4 : Int32))]) (lenOf pd_10 rfl) rfl (by show 2 * 0 + _ ≤ _; exact Nat.le_of_eq rfl) (hb hby d11_6) (fun _ _ => ⟨rfl, e2, (by decide : 0 + 0 ≤ _), (by decide : 0 + 0 ≤ _)⟩)
  dsimp only [Pt.U, Pt.locs, Pt.cells, Pt.slots] at X5 l5 y5 z5 st5 hQ5
  subst l5 y5 z5
  obtain ⟨rfl, Nq5, e5⟩ := hQ5
  have N5 := Fr.app N0 Nq5
  obtain ⟨fs, hr, hrun, hended, hW, hsame⟩ := X5.leave (v := some (.int (4 : Int32))) (fun h => by rw [Bd.returns] at h; cases h)
  refine ⟨_, _, pre0 _ (st1 _ (st2 _ (st3 _ (st4 _ (st5.trans ?_))))), hrun, hended, _, _, rfl, ?_, ⟨_, rfl⟩, hW, hsame.mono (by decide) (by decide)⟩
  · refine XS.ishr X5.here hx rfl (hb hby d11_9) rfl ?_
    show Steps p.tables e below (T5.setTop (mkF m 10 #[.val (.ref r0)] [(.int (4 : Int32))])) _
    exact retI X5 hx Bd.returns (hb hby d11_10) hr
  · show Q_rmLen_L4 Z r0 cs fm y ky c0 c1 c2 c3 h0 n0 _ T5.heap _
    rw [e5]
    exact ⟨rfl, N5, rfl⟩
theorem d14_0 : decode jdk_42_method_154_code 0 = .ok (.getstatic 38, 3) := by decide +kernel
theorem d14_3 : decode jdk_42_method_154_code 3 = .ok (.ifCond .eq 14, 3) := by decide +kernel
theorem d14_6 : decode jdk_42_method_154_code 6 = .ok (.aload_n 0, 1) := by decide +kernel
theorem d14_7 : decode jdk_42_method_154_code 7 = .ok (.getfield 15, 3) := by decide +kernel
theorem d14_10 : decode jdk_42_method_154_code 10 = .ok (.ifCond .ne 7, 3) := by decide +kernel
theorem d14_13 : decode jdk_42_method_154_code 13 = .ok (.iconst 1, 1) := by decide +kernel
theorem d14_14 : decode jdk_42_method_154_code 14 = .ok (.goto 4, 3) := by decide +kernel
theorem d14_17 : decode jdk_42_method_154_code 17 = .ok (.iconst 0, 1) := by decide +kernel
theorem d14_18 : decode jdk_42_method_154_code 18 = .ok (.ireturn, 1) := by decide +kernel
theorem ef_rmLat_L4 (m : MethodId) (x0 : Addr) : entryFrame m #[(.ref x0)] 1 = mkF m 0 #[.val (.ref x0)] [] := by first | (simp [entryFrame, mkF, argsToLocals, Value.category]; done) | rfl
def Q_rmLat_L4 (Z : State) (r0 : Addr) (cs : Int32) (fm : Value) (h0 : Heap) (n0 : Nat) (v : Option Value) (h : Heap) (L : List Loc) : Prop := v = some (.int (1 : Int32)) ∧ Fr n0 L ∧ h = h0
set_option maxRecDepth 65536 in
set_option maxHeartbeats 40000000 in
theorem rmLat_L4 (l : Launch) (Z : State) (a0 : Array Value) (hw : ∀ d ∈ tables_1, d.before a0 Z = true) (ws : List Jvm.Cond) (r0 : Addr) (cs : Int32) (fm : Value) (h0 : Heap) (n0 : Nat) (Z0 : n0 ≤ h0.size) (SB : own_St Z cs fm) (Od : Old Z n0 h0) (Fc : Fld Z h0 r0 "java/lang/String" "coder" "B" (.int (0 : Int32))) :
    MetFree l (⟨"java/lang/String", "isLatin1", "()Z"⟩ : MethodName) (head1 (Jvm.Cond.code (⟨"java/lang/String", "isLatin1", "()Z"⟩ : MethodName) jdk_42_method_154_code 1 (some .boolean) :: ws) ({ frames := 0, cells := 0, slots := 0, locals := 0 } : Room)) (fun a U => a = #[(.ref r0)] ∧ Z.Warmed39 U.vm ∧ U.heap = h0) (fun _ _ _ _ _ => True) (fun _ U o U' => ∃ v L, o = .returned v ∧ Q_rmLat_L4 Z r0 cs fm h0 n0 v U'.heap L ∧ FrameEnd U o U' L ({ frames := 0, cells := 0, slots := 0, locals := 0 } : Room).cells ({ frames := 0, cells := 0, slots := 0, locals := 0 } : Room).slots) := by
  refine MetFree.of_bodySF (plainFor_of_name pn_1) hisR ?_
  intro p e s m args below meth c s₁ Bd hml0 hP hK
  obtain ⟨rfl, hZ, hh⟩ := hP
  have hx := Bd.exec
  have hby := Bd.bytes
  have hml : c.maxLocals = 1 := hml0
  have hown : s.vm.findClass "java/lang/String" = some m.cls := findClass_of_methodNamed Bd.named
  have hnm := (name_of_methodNamed Bd.named Bd.method).1
  have X0 : Stand p l e ({ frames := 0, cells := 0, slots := 0, locals := 0 } : Room) s m #[(.ref r0)] below meth c s₁ [] 0 0 := Stand.of_body Bd
  have e0 : s₁.heap = h0 := by rw [← hh, Bd.state]; rfl
  have N0 := Fr.nil n0
  have pre0 : ∀ t, Steps p.tables e below (s₁.setTop (mkF m 0 #[.val (.ref r0)] [])) t → Steps p.tables e below (s₁.setTop (entryFrame m #[(.ref r0)] 1)) t := fun t k => castTop (ef_rmLat_L4 m r0) k
  obtain ⟨T1, X1, e1, st1⟩ := getS2 X0 hx hZ hown (host := "") (Or.inl (own_w hw 21 rfl)) Via.refl e0 (SB.1.ext Od.2) (g := (mkF m 0 #[.val (.ref r0)] [])) rfl (hb hby d14_0)
  have st2 : own_S p e below T1 (mkF m 7 #[.val (.ref r0)] [(.ref r0)]) (mkF m 3 #[.val (.ref r0)] [(.int cs)]) := by
    intro target kt
    refine XS.ifNo X1.here hx rfl (hb hby d14_3) rfl ((if0 _ _).trans (feq SB.2.1).1) ?_
    refine XS.aloadN X1.here hx rfl (hb hby d14_6) rfl rfl ?_
    exact kt
  obtain ⟨T3, X3, e3, st3⟩ := getF X1 hx hZ hown (host := "") (Or.inl (own_w hw 33 rfl)) Via.refl e1 Fc (g := (mkF m 7 #[.val (.ref r0)] [(.ref r0)])) rfl rfl (hb hby d14_7)
  obtain ⟨fs, hr, hrun, hended, hW, hsame⟩ := X3.leave (v := some (.int (1 : Int32))) (fun h => by rw [Bd.returns] at h; cases h)
  refine ⟨_, _, pre0 _ (st1 _ (st2 _ (st3 _ ?_))), hrun, hended, _, _, rfl, ?_, ⟨_, rfl⟩, hW, hsame.mono (by decide) (by decide)⟩
  · refine XS.ifNo X3.here hx rfl (hb hby d14_10) rfl ((if0 _ _).trans (teq (rfl : (0 : Int32) = (0 : Int32))).2) ?_
    refine XS.iconst X3.here hx rfl (hb hby d14_13) ?_
    refine XS.goto X3.here hx rfl (pc0 := 14) (pc' := 18) rfl (hb hby d14_14) (by decide) (by decide) ?_
    show Steps p.tables e below (T3.setTop (mkF m 18 #[.val (.ref r0)] [(.int (1 : Int32))])) _
    exact retN X3 hx (t := .boolean) Bd.returns (by simp) (hb hby d14_18) hr
  · show Q_rmLat_L4 Z r0 cs fm h0 n0 _ T3.heap _
    rw [e3]
    exact ⟨rfl, N0, rfl⟩
theorem d17_0 : decode jdk_41_method_11_code 0 = .ok (.iload_n 0, 1) := by decide +kernel
theorem d17_1 : decode jdk_41_method_11_code 1 = .ok (.ifCond .lt 8, 3) := by decide +kernel
theorem d17_4 : decode jdk_41_method_11_code 4 = .ok (.iload_n 0, 1) := by decide +kernel
theorem d17_5 : decode jdk_41_method_11_code 5 = .ok (.iload_n 1, 1) := by decide +kernel
theorem d17_6 : decode jdk_41_method_11_code 6 = .ok (.if_icmp .lt 10, 3) := by decide +kernel
theorem d17_16 : decode jdk_41_method_11_code 16 = .ok (.iload_n 0, 1) := by decide +kernel
theorem d17_17 : decode jdk_41_method_11_code 17 = .ok (.ireturn, 1) := by decide +kernel
theorem pn_2 : plainName "jdk/internal/util/Preconditions" = true := by first | (simp [plainName, overriddenIn]; done) | decide +kernel
theorem ef_rmPci (m : MethodId) (x0 : Int32) (x1 : Int32) (x2 : Value) (hx2 : x2.isRef = true) : entryFrame m #[(.int x0), (.int x1), x2] 3 = mkF m 0 #[.val (.int x0), .val (.int x1), .val x2] [] := by rcases ref_cases hx2 with rfl | ⟨_, rfl⟩ <;> first | (simp [entryFrame, mkF, argsToLocals, Value.category]; done) | rfl
def Q_rmPci (Z : State) (p0 : Int32) (p1 : Int32) (fm : Value) (h0 : Heap) (n0 : Nat) (v : Option Value) (h : Heap) (L : List Loc) : Prop := v = some (.int p0) ∧ Fr n0 L ∧ h = h0
set_option maxRecDepth 65536 in
set_option maxHeartbeats 40000000 in
theorem rmPci (l : Launch) (Z : State) (a0 : Array Value) (hw : ∀ d ∈ tables_1, d.before a0 Z = true) (ws : List Jvm.Cond) (p0 : Int32) (p1 : Int32) (fm : Value) (h0 : Heap) (n0 : Nat) (Z0 : n0 ≤ h0.size) (hfm : fm.isRef = true) (u1 : ¬ p0 < 0) (u2 : p0 < p1) :
    MetFree l (⟨"jdk/internal/util/Preconditions", "checkIndex", "(IILjava/util/function/BiFunction;)I"⟩ : MethodName) (head1 (Jvm.Cond.code (⟨"jdk/internal/util/Preconditions", "checkIndex", "(IILjava/util/function/BiFunction;)I"⟩ : MethodName) jdk_41_method_11_code 3 (some .int) :: ws) ({ frames := 0, cells := 0, slots := 0, locals := 0 } : Room)) (fun a U => a = #[(.int p0), (.int p1), fm] ∧ Z.Warmed39 U.vm ∧ U.heap = h0) (fun _ _ _ _ _ => True) (fun _ U o U' => ∃ v L, o = .returned v ∧ Q_rmPci Z p0 p1 fm h0 n0 v U'.heap L ∧ FrameEnd U o U' L ({ frames := 0, cells := 0, slots := 0, locals := 0 } : Room).cells ({ frames := 0, cells := 0, slots := 0, locals := 0 } : Room).slots) := by
  refine MetFree.of_bodySF (plainFor_of_name pn_2) hisR ?_
  intro p e s m args below meth c s₁ Bd hml0 hP hK
  obtain ⟨rfl, hZ, hh⟩ := hP
  have hx := Bd.exec
  have hby := Bd.bytes
  have hml : c.maxLocals = 3 := hml0
  have hown : s.vm.findClass "jdk/internal/util/Preconditions" = some m.cls := findClass_of_methodNamed Bd.named
  have hnm := (name_of_methodNamed Bd.named Bd.method).1
  have X0 : Stand p l e ({ frames := 0, cells := 0, slots := 0, locals := 0 } : Room) s m #[(.int p0), (.int p1), fm] below meth c s₁ [] 0 0 := Stand.of_body Bd
  have e0 : s₁.heap = h0 := by rw [← hh, Bd.state]; rfl
  have N0 := Fr.nil n0
  have pre0 : ∀ t, Steps p.tables e below (s₁.setTop (mkF m 0 #[.val (.int p0), .val (.int p1), .val fm] [])) t → Steps p.tables e below (s₁.setTop (entryFrame m #[(.int p0), (.int p1), fm] 3)) t := fun t k => castTop (ef_rmPci m p0 p1 fm hfm) k
  obtain ⟨fs, hr, hrun, hended, hW, hsame⟩ := X0.leave (v := some (.int p0)) (fun h => by rw [Bd.returns] at h; cases h)
  refine ⟨_, _, pre0 _ ?_, hrun, hended, _, _, rfl, ?_, ⟨_, rfl⟩, hW, hsame.mono (by decide) (by decide)⟩
  · refine XS.iloadN X0.here hx rfl (hb hby d17_0) rfl ?_
    refine XS.ifNo X0.here hx rfl (hb hby d17_1) rfl ((if0 _ _).trans (flt u1).1) ?_
    refine XS.iloadN X0.here hx rfl (hb hby d17_4) rfl ?_
    refine XS.iloadN X0.here hx rfl (hb hby d17_5) rfl ?_
    refine XS.icmpYes X0.here hx rfl (pc0 := 6) (pc' := 16) rfl (hb hby d17_6) rfl (tlt u2).1 (by decide) (by decide) ?_
    refine XS.iloadN X0.here hx rfl (hb hby d17_16) rfl ?_
    show Steps p.tables e below (s₁.setTop (mkF m 17 #[.val (.int p0), .val (.int p1), .val fm] [(.int p0)])) _
    exact retI X0 hx Bd.returns (hb hby d17_17) hr
  · show Q_rmPci Z p0 p1 fm h0 n0 _ s₁.heap _
    rw [e0]
    exact ⟨rfl, N0, rfl⟩
theorem d16_0 : decode jdk_42_method_155_code 0 = .ok (.iload_n 0, 1) := by decide +kernel
theorem d16_1 : decode jdk_42_method_155_code 1 = .ok (.iload_n 1, 1) := by decide +kernel
theorem d16_2 : decode jdk_42_method_155_code 2 = .ok (.getstatic 1053, 3) := by decide +kernel
theorem d16_5 : decode jdk_42_method_155_code 5 = .ok (.invokestatic 1059, 3) := by decide +kernel
theorem d16_8 : decode jdk_42_method_155_code 8 = .ok (.pop, 1) := by decide +kernel
theorem d16_9 : decode jdk_42_method_155_code 9 = .ok (.return_, 1) := by decide +kernel
theorem ef_rmSci (m : MethodId) (x0 : Int32) (x1 : Int32) : entryFrame m #[(.int x0), (.int x1)] 2 = mkF m 0 #[.val (.int x0), .val (.int x1)] [] := by first | (simp [entryFrame, mkF, argsToLocals, Value.category]; done) | rfl
def Q_rmSci (Z : State) (p0 : Int32) (p1 : Int32) (cs : Int32) (fm : Value) (h0 : Heap) (n0 : Nat) (v : Option Value) (h : Heap) (L : List Loc) : Prop := v = none ∧ Fr n0 L ∧ h = h0
set_option maxRecDepth 65536 in
set_option maxHeartbeats 40000000 in
theorem rmSci (l : Launch) (Z : State) (a0 : Array Value) (hw : ∀ d ∈ tables_1, d.before a0 Z = true) (ws : List Jvm.Cond) (p0 : Int32) (p1 : Int32) (cs : Int32) (fm : Value) (h0 : Heap) (n0 : Nat) (Z0 : n0 ≤ h0.size) (SB : own_St Z cs fm) (Od : Old Z n0 h0) (u1 : ¬ p0 < 0) (u2 : p0 < p1) :
    MetFree l (⟨"java/lang/String", "checkIndex", "(II)V"⟩ : MethodName) (head1 (Jvm.Cond.code (⟨"java/lang/String", "checkIndex", "(II)V"⟩ : MethodName) jdk_42_method_155_code 2 none :: ws) ({ frames := 1, cells := 0, slots := 0, locals := 14 } : Room)) (fun a U => a = #[(.int p0), (.int p1)] ∧ Z.Warmed39 U.vm ∧ U.heap = h0) (fun _ _ _ _ _ => True) (fun _ U o U' => ∃ v L, o = .returned v ∧ Q_rmSci Z p0 p1 cs fm h0 n0 v U'.heap L ∧ FrameEnd U o U' L ({ frames := 1, cells := 0, slots := 0, locals := 14 } : Room).cells ({ frames := 1, cells := 0, slots := 0, locals := 14 } : Room).slots) := by
  refine MetFree.of_bodySF (plainFor_of_name pn_1) hisR ?_
  intro p e s m args below meth c s₁ Bd hml0 hP hK
  obtain ⟨rfl, hZ, hh⟩ := hP
  have hx := Bd.exec
  have hby := Bd.bytes
  have hml : c.maxLocals = 2 := hml0
  have hown : s.vm.findClass "java/lang/String" = some m.cls := findClass_of_methodNamed Bd.named
  have hnm := (name_of_methodNamed Bd.named Bd.method).1
  have X0 : Stand p l e ({ frames := 1, cells := 0, slots := 0, locals := 14 } : Room) s m #[(.int p0), (.int p1)] below meth c s₁ [] 0 0 := Stand.of_body Bd
  have e0 : s₁.heap = h0 := by rw [← hh, Bd.state]; rfl
  have N0 := Fr.nil n0
  have pre0 : ∀ t, Steps p.tables e below (s₁.setTop (mkF m 0 #[.val (.int p0), .val (.int p1)] [])) t → Steps p.tables e below (s₁.setTop (entryFrame m #[(.int p0), (.int p1)] 2)) t := fun t k => castTop (ef_rmSci m p0 p1) k
  have st1 : own_S p e below s₁ (mkF m 2 #[.val (.int p0), .val (.int p1)] [(.int p1), (.int p0)]) (mkF m 0 #[.val (.int p0), .val (.int p1)] []) := by
    intro target kt
    refine XS.iloadN X0.here hx rfl (hb hby d16_0) rfl ?_
    refine XS.iloadN X0.here hx rfl (hb hby d16_1) rfl ?_
    exact kt
  obtain ⟨T2, X2, e2, st2⟩ := getS2 X0 hx hZ hown (host := "") (Or.inl (own_w hw 91 rfl)) Via.refl e0 (SB.2.2.1.ext Od.2) (g := (mkF m 2 #[.val (.int p0), .val (.int p1)] [(.int p1), (.int p0)])) rfl (hb hby d16_2)
  obtain ⟨_, _, ⟨T3, L3, k3, n3⟩, -, X3, ⟨Lc3, hQ3, l3, y3, z3⟩, st3⟩ := Jvm.LawKit.callS X2 hx (y := (⟨"jdk/internal/util/Preconditions", "checkIndex", "(IILjava/util/function/BiFunction;)I"⟩ : MethodName)) hown (mvT hZ (own_w hw 93 rfl)) (mvT hZ (own_w hw 94 rfl)) (mvT hZ (own_w hw 92 rfl)) (mvT hZ (own_w hw 95 rfl)) (by decide) (backOf (W := 0) (rmPci l Z a0 hw [] p0 p1 fm  h0 n0 Z0 SB.2.2.2.1 u1 u2) hZ (own_w hw 95 rfl) (own_w hw 92 rfl) (by decide) (by decide)) (g := (mkF m 5 #[.val (.int p0), .val (.int p1)] [fm, (.int p1), (.int p0)])) rfl (by rw [hml]; rfl) (argsL := [(.int p0), (.int p1), fm]) (rest := []) (lenOf pd_15 rfl) rfl (by show 2 * 0 + _ ≤ _; exact Nat.le_of_eq rfl) (hb hby d16_5) (fun _ _ => ⟨rfl, e2, (by decide : 0 + 0 ≤ _), (by decide : 0 + 0 ≤ _)⟩)
  dsimp only [Pt.U, Pt.locs, Pt.cells, Pt.slots] at X3 l3 y3 z3 st3 hQ3
  subst l3 y3 z3
  obtain ⟨rfl, Nq3, e3⟩ := hQ3
  have N3 := Fr.app N0 Nq3
  obtain ⟨fs, hr, hrun, hended, hW, hsame⟩ := X3.leave (v := none) (fun _ => rfl)
  refine ⟨_, _, pre0 _ (st1 _ (st2 _ (st3 _ ?_))), hrun, hended, _, _, rfl, ?_, ⟨_, rfl⟩, hW, hsame.mono (by decide) (by decide)⟩
  · refine XS.pop X3.here hx rfl (hb hby d16_8) rfl rfl ?_
    show Steps p.tables e below (T3.setTop (mkF m 9 #[.val (.int p0), .val (.int p1)] [])) _
    exact X3.returnOut hx Bd.returns (hb hby d16_9) hr
  · show Q_rmSci Z p0 p1 cs fm h0 n0 _ T3.heap _
    rw [e3]
    exact ⟨rfl, N3, rfl⟩
theorem d15_0 : decode jdk_43_method_2_code 0 = .ok (.iload_n 1, 1) := by decide +kernel
theorem d15_1 : decode jdk_43_method_2_code 1 = .ok (.aload_n 0, 1) := by decide +kernel
theorem d15_2 : decode jdk_43_method_2_code 2 = .ok (.arraylength, 1) := by decide +kernel
theorem d15_3 : decode jdk_43_method_2_code 3 = .ok (.invokestatic 9, 3) := by decide +kernel
theorem d15_6 : decode jdk_43_method_2_code 6 = .ok (.aload_n 0, 1) := by decide +kernel
theorem d15_7 : decode jdk_43_method_2_code 7 = .ok (.iload_n 1, 1) := by decide +kernel
theorem d15_8 : decode jdk_43_method_2_code 8 = .ok (.baload, 1) := by decide +kernel
theorem d15_9 : decode jdk_43_method_2_code 9 = .ok (.sipush 255, 3) := by decide +kernel
theorem d15_12 : decode jdk_43_method_2_code 12 = .ok (.iand, 1) := by decide +kernel
theorem d15_13 : decode jdk_43_method_2_code 13 = .ok (.i2c, 1) := by decide +kernel
theorem d15_14 : decode jdk_43_method_2_code 14 = .ok (.ireturn, 1) := by decide +kernel
theorem pn_3 : plainName "java/lang/StringLatin1" = true := by first | (simp [plainName, overriddenIn]; done) | decide +kernel
theorem ef_rmAch0_L4 (m : MethodId) (x0 : Addr) (x1 : Int32) : entryFrame m #[(.ref x0), (.int x1)] 2 = mkF m 0 #[.val (.ref x0), .val (.int x1)] [] := by first | (simp [entryFrame, mkF, argsToLocals, Value.category]; done) | rfl
def Q_rmAch0_L4 (Z : State) (r0 : Addr) (cs : Int32) (fm : Value) (ky : ClassId) (c0 : Int32) (c1 : Int32) (c2 : Int32) (c3 : Int32) (h0 : Heap) (n0 : Nat) (v : Option Value) (h : Heap) (L : List Loc) : Prop := v = some (.int c0) ∧ Fr n0 L ∧ h = h0
set_option maxRecDepth 65536 in
set_option maxHeartbeats 40000000 in
theorem rmAch0_L4 (l : Launch) (Z : State) (a0 : Array Value) (hw : ∀ d ∈ tables_1, d.before a0 Z = true) (ws : List Jvm.Cond) (r0 : Addr) (cs : Int32) (fm : Value) (ky : ClassId) (c0 : Int32) (c1 : Int32) (c2 : Int32) (c3 : Int32) (h0 : Heap) (n0 : Nat) (Z0 : n0 ≤ h0.size) (SB : own_St Z cs fm) (Od : Old Z n0 h0) (Vy : Arv Z h0 r0 ky .byte (4 : Int32) [(.int (c0.toInt8.toInt32)), (.int (c1.toInt8.toInt32)), (.int (c2.toInt8.toInt32)), (.int (c3.toInt8.toInt32))] (.int (0 : Int32))) (hc0_ : 0 ≤ c0.toInt ∧ c0.toInt < 256) :
    MetFree l (⟨"java/lang/StringLatin1", "charAt", "([BI)C"⟩ : MethodName) (head1 (Jvm.Cond.code (⟨"java/lang/StringLatin1", "charAt", "([BI)C"⟩ : MethodName) jdk_43_method_2_code 2 (some .char) :: ws) ({ frames := 2, cells := 0, slots := 0, locals := 27 } : Room)) (fun a U => a = #[(.ref r0), (.int (0 : Int32))] ∧ Z.Warmed39 U.vm ∧ U.heap = h0) (fun _ _ _ _ _ => True) (fun _ U o U' => ∃ v L, o = .returned v ∧ Q_rmAch0_L4 Z r0 cs fm ky c0 c1 c2 c3 h0 n0 v U'.heap L ∧ FrameEnd U o U' L ({ frames := 2, cells := 0, slots := 0, locals := 27 } : Room).cells ({ frames := 2, cells := 0, slots := 0, locals := 27 } : Room).slots) := by
  refine MetFree.of_bodySF (plainFor_of_name pn_3) hisR ?_
  intro p e s m args below meth c s₁ Bd hml0 hP hK
  obtain ⟨rfl, hZ, hh⟩ := hP
  have hx := Bd.exec
  have hby := Bd.bytes
  have hml : c.maxLocals = 2 := hml0
  have hown : s.vm.findClass "java/lang/StringLatin1" = some m.cls := findClass_of_methodNamed Bd.named
  have hnm := (name_of_methodNamed Bd.named Bd.method).1
  have X0 : Stand p l e ({ frames := 2, cells := 0, slots := 0, locals := 27 } : Room) s m #[(.ref r0), (.int (0 : Int32))] below meth c s₁ [] 0 0 := Stand.of_body Bd
  have e0 : s₁.heap = h0 := by rw [← hh, Bd.state]; rfl
  have N0 := Fr.nil n0
  have pre0 : ∀ t, Steps p.tables e below (s₁.setTop (mkF m 0 #[.val (.ref r0), .val (.int (0 : Int32))] [])) t → Steps p.tables e below (s₁.setTop (entryFrame m #[(.ref r0), (.int (0 : Int32))] 2)) t := fun t k => castTop (ef_rmAch0_L4 m r0 (0 : Int32)) k
  have st1 : own_S p e below s₁ (mkF m 2 #[.val (.ref r0), .val (.int (0 : Int32))] [(.ref r0), (.int (0 : Int32))]) (mkF m 0 #[.val (.ref r0), .val (.int (0 : Int32))] []) := by
    intro target kt
    refine XS.iloadN X0.here hx rfl (hb hby d15_0) rfl ?_
    refine XS.aloadN X0.here hx rfl (hb hby d15_1) rfl rfl ?_
    exact kt
  obtain ⟨cl2, Ar2, qc2, Sz2, Mn2, Hs2, Gs2⟩ := id Vy
  have st2 : own_S p e below s₁ (mkF m 3 #[.val (.ref r0), .val (.int (0 : Int32))] [(.int (4 : Int32)), (.int (0 : Int32))]) (mkF m 2 #[.val (.ref r0), .val (.int (0 : Int32))] [(.ref r0), (.int (0 : Int32))]) := fun target kt => X0.arraylength hx (cell := cl2) (by rw [e0]; exact Ar2.1) (State.isArrayOf_alike hZ.alike Ar2.2.1) (g := (mkF m 2 #[.val (.ref r0), .val (.int (0 : Int32))] [(.ref r0), (.int (0 : Int32))])) rfl rfl (hb hby d15_2) _ (by rw [len_of Sz2 Mn2]; exact kt)
  obtain ⟨_, _, ⟨T3, L3, k3, n3⟩, -, X3, ⟨Lc3, hQ3, l3, y3, z3⟩, st3⟩ := Jvm.LawKit.callS X0 hx (y := (⟨"java/lang/String", "checkIndex", "(II)V"⟩ : MethodName)) hown (mvT hZ (own_w hw 88 rfl)) (mvT hZ (own_w hw 89 rfl)) (mvT hZ (own_w hw 10 rfl)) (mvT hZ (own_w hw 90 rfl)) (by decide) (backOf (W := 0) (rmSci l Z a0 hw [] (0 : Int32) (4 : Int32) cs fm h0 n0 Z0 SB Od (by decide) (by decide)) hZ (own_w hw 90 rfl) (own_w hw 10 rfl) (by decide) (by decide)) (g := (mkF m 3 #[.val (.ref r0), .val (.int (0 : Int32))] [(.int (4 : Int32)), (.int (0 : Int32))])) rfl (by rw [hml]; rfl) (argsL := [(.int (0 : Int32)), (.int (4 : Int32))]) (rest := []) (lenOf pd_14 rfl) rfl (by show 2 * 0 + _ ≤ _; exact Nat.le_of_eq rfl) (hb hby d15_3) (fun _ _ => ⟨rfl, e0, (by decide : 0 + 0 ≤ _), (by decide : 0 + 0 ≤ _)⟩)
  dsimp only [Pt.U, Pt.locs, Pt.cells, Pt.slots] at X3 l3 y3 z3 st3 hQ3
  subst l3 y3 z3
  obtain ⟨rfl, Nq3, e3⟩ := hQ3
  have N3 := Fr.app N0 Nq3
  have st4 : own_S p e below T3 (mkF m 8 #[.val (.ref r0), .val (.int (0 : Int32))] [(.int (0 : Int32)), (.ref r0)]) (mkF m 6 #[.val (.ref r0), .val (.int (0 : Int32))] []) := by
    intro target kt
    refine XS.aloadN X3.here hx rfl (hb hby d15_6) rfl rfl ?_
    refine XS.iloadN X3.here hx rfl (hb hby d15_7) rfl ?_
    exact kt
  obtain ⟨cl5, Ar5, qc5, Sz5, Mn5, Hs5, Gs5⟩ := id Vy
  have hin5 : ¬ ((0 : Int32) < 0 ∨ cl5.slots.size ≤ ((0 : Int32)).toNatClampNeg) := inb_of Sz5 ⟨by decide, by decide⟩
  have hat5 : cl5.slots[((0 : Int32)).toNatClampNeg]? = some (.int (c0.toInt8.toInt32)) := Hs5.at hin5 rfl
  have st5 : own_S p e below T3 (mkF m 9 #[.val (.ref r0), .val (.int (0 : Int32))] [(.int (c0.toInt8.toInt32))]) (mkF m 8 #[.val (.ref r0), .val (.int (0 : Int32))] [(.int (0 : Int32)), (.ref r0)]) := fun target kt => X3.baloadBytes hx (j := (0 : Int32)) (v := (.int (c0.toInt8.toInt32))) (by rw [e3]; exact Ar5.1) (State.isArrayOf_alike hZ.alike Ar5.2.1) Ar5.2.2 hin5 hat5 (g := (mkF m 8 #[.val (.ref r0), .val (.int (0 : Int32))] [(.int (0 : Int32)), (.ref r0)])) rfl rfl (hb hby d15_8) _ kt
  obtain ⟨fs, hr, hrun, hended, hW, hsame⟩ := X3.leave (v := some (.int (nar .char (((c0.toInt8.toInt32) &&& (255 : Int32)).toUInt32.toUInt16.toUInt32.toInt32)))) (fun h => by rw [Bd.returns] at h; cases h)
  refine ⟨_, _, pre0 _ (st1 _ (st2 _ (st3 _ (st4 _ (st5 _ ?_))))), hrun, hended, _, _, rfl, ?_, ⟨_, rfl⟩, hW, hsame.mono (by decide) (by decide)⟩
  · refine XS.sipush X3.here hx rfl (hb hby d15_9) ?_
    refine XS.iand X3.here hx rfl (hb hby d15_12) rfl ?_
    refine XS.i2c X3.here hx rfl (hb hby d15_13) rfl ?_
    show Steps p.tables e below (T3.setTop (mkF m 14 #[.val (.ref r0), .val (.int (0 : Int32))] [(.int (((c0.toInt8.toInt32) &&& (255 : Int32)).toUInt32.toUInt16.toUInt32.toInt32))])) _
    exact retN X3 hx (t := .char) Bd.returns (by simp) (hb hby d15_14) hr
  · show Q_rmAch0_L4 Z r0 cs fm ky c0 c1 c2 c3 h0 n0 _ T3.heap _
    rw [e3]
    exact ⟨congrArg (fun z => some (Value.int z)) (own_l1c_eq hc0_.1 hc0_.2), N3, rfl⟩
theorem ef_rmAch1_L4 (m : MethodId) (x0 : Addr) (x1 : Int32) : entryFrame m #[(.ref x0), (.int x1)] 2 = mkF m 0 #[.val (.ref x0), .val (.int x1)] [] := by first | (simp [entryFrame, mkF, argsToLocals, Value.category]; done) | rfl
def Q_rmAch1_L4 (Z : State) (r0 : Addr) (cs : Int32) (fm : Value) (ky : ClassId) (c0 : Int32) (c1 : Int32) (c2 : Int32) (c3 : Int32) (h0 : Heap) (n0 : Nat) (v : Option Value) (h : Heap) (L : List Loc) : Prop := v = some (.int c1) ∧ Fr n0 L ∧ h = h0
set_option maxRecDepth 65536 in
set_option maxHeartbeats 40000000 in
theorem rmAch1_L4 (l : Launch) (Z : State) (a0 : Array Value) (hw : ∀ d ∈ tables_1, d.before a0 Z = true) (ws : List Jvm.Cond) (r0 : Addr) (cs : Int32) (fm : Value) (ky : ClassId) (c0 : Int32) (c1 : Int32) (c2 : Int32) (c3 : Int32) (h0 : Heap) (n0 : Nat) (Z0 : n0 ≤ h0.size) (SB : own_St Z cs fm) (Od : Old Z n0 h0) (Vy : Arv Z h0 r0 ky .byte (4 : Int32) [(.int (c0.toInt8.toInt32)), (.int (c1.toInt8.toInt32)), (.int (c2.toInt8.toInt32)), (.int (c3.toInt8.toInt32))] (.int (0 : Int32))) (hc1_ : 0 ≤ c1.toInt ∧ c1.toInt < 256) :
    MetFree l (⟨"java/lang/StringLatin1", "charAt", "([BI)C"⟩ : MethodName) (head1 (Jvm.Cond.code (⟨"java/lang/StringLatin1", "charAt", "([BI)C"⟩ : MethodName) jdk_43_method_2_code 2 (some .char) :: ws) ({ frames := 2, cells := 0, slots := 0, locals := 27 } : Room)) (fun a U => a = #[(.ref r0), (.int (1 : Int32))] ∧ Z.Warmed39 U.vm ∧ U.heap = h0) (fun _ _ _ _ _ => True) (fun _ U o U' => ∃ v L, o = .returned v ∧ Q_rmAch1_L4 Z r0 cs fm ky c0 c1 c2 c3 h0 n0 v U'.heap L ∧ FrameEnd U o U' L ({ frames := 2, cells := 0, slots := 0, locals := 27 } : Room).cells ({ frames := 2, cells := 0, slots := 0, locals := 27 } : Room).slots) := by
  refine MetFree.of_bodySF (plainFor_of_name pn_3) hisR ?_
  intro p e s m args below meth c s₁ Bd hml0 hP hK
  obtain ⟨rfl, hZ, hh⟩ := hP
  have hx := Bd.exec
  have hby := Bd.bytes
  have hml : c.maxLocals = 2 := hml0
  have hown : s.vm.findClass "java/lang/StringLatin1" = some m.cls := findClass_of_methodNamed Bd.named
  have hnm := (name_of_methodNamed Bd.named Bd.method).1
  have X0 : Stand p l e ({ frames := 2, cells := 0, slots := 0, locals := 27 } : Room) s m #[(.ref r0), (.int (1 : Int32))] below meth c s₁ [] 0 0 := Stand.of_body Bd
  have e0 : s₁.heap = h0 := by rw [← hh, Bd.state]; rfl
  have N0 := Fr.nil n0
  have pre0 : ∀ t, Steps p.tables e below (s₁.setTop (mkF m 0 #[.val (.ref r0), .val (.int (1 : Int32))] [])) t → Steps p.tables e below (s₁.setTop (entryFrame m #[(.ref r0), (.int (1 : Int32))] 2)) t := fun t k => castTop (ef_rmAch1_L4 m r0 (1 : Int32)) k
  have st1 : own_S p e below s₁ (mkF m 2 #[.val (.ref r0), .val (.int (1 : Int32))] [(.ref r0), (.int (1 : Int32))]) (mkF m 0 #[.val (.ref r0), .val (.int (1 : Int32))] []) := by
    intro target kt
    refine XS.iloadN X0.here hx rfl (hb hby d15_0) rfl ?_
    refine XS.aloadN X0.here hx rfl (hb hby d15_1) rfl rfl ?_
    exact kt
  obtain ⟨cl2, Ar2, qc2, Sz2, Mn2, Hs2, Gs2⟩ := id Vy
  have st2 : own_S p e below s₁ (mkF m 3 #[.val (.ref r0), .val (.int (1 : Int32))] [(.int (4 : Int32)), (.int (1 : Int32))]) (mkF m 2 #[.val (.ref r0), .val (.int (1 : Int32))] [(.ref r0), (.int (1 : Int32))]) := fun target kt => X0.arraylength hx (cell := cl2) (by rw [e0]; exact Ar2.1) (State.isArrayOf_alike hZ.alike Ar2.2.1) (g := (mkF m 2 #[.val (.ref r0), .val (.int (1 : Int32))] [(.ref r0), (.int (1 : Int32))])) rfl rfl (hb hby d15_2) _ (by rw [len_of Sz2 Mn2]; exact kt)
  obtain ⟨_, _, ⟨T3, L3, k3, n3⟩, -, X3, ⟨Lc3, hQ3, l3, y3, z3⟩, st3⟩ := Jvm.LawKit.callS X0 hx (y := (⟨"java/lang/String", "checkIndex", "(II)V"⟩ : MethodName)) hown (mvT hZ (own_w hw 88 rfl)) (mvT hZ (own_w hw 89 rfl)) (mvT hZ (own_w hw 10 rfl)) (mvT hZ (own_w hw 90 rfl)) (by decide) (backOf (W := 0) (rmSci l Z a0 hw [] (1 : Int32) (4 : Int32) cs fm h0 n0 Z0 SB Od (by decide) (by decide)) hZ (own_w hw 90 rfl) (own_w hw 10 rfl) (by decide) (by decide)) (g := (mkF m 3 #[.val (.ref r0), .val (.int (1 : Int32))] [(.int (4 : Int32)), (.int (1 : Int32))])) rfl (by rw [hml]; rfl) (argsL := [(.int (1 : Int32)), (.int (4 : Int32))]) (rest := []) (lenOf pd_14 rfl) rfl (by show 2 * 0 + _ ≤ _; exact Nat.le_of_eq rfl) (hb hby d15_3) (fun _ _ => ⟨rfl, e0, (by decide : 0 + 0 ≤ _), (by decide : 0 + 0 ≤ _)⟩)
  dsimp only [Pt.U, Pt.locs, Pt.cells, Pt.slots] at X3 l3 y3 z3 st3 hQ3
  subst l3 y3 z3
  obtain ⟨rfl, Nq3, e3⟩ := hQ3
  have N3 := Fr.app N0 Nq3
  have st4 : own_S p e below T3 (mkF m 8 #[.val (.ref r0), .val (.int (1 : Int32))] [(.int (1 : Int32)), (.ref r0)]) (mkF m 6 #[.val (.ref r0), .val (.int (1 : Int32))] []) := by
    intro target kt
    refine XS.aloadN X3.here hx rfl (hb hby d15_6) rfl rfl ?_
    refine XS.iloadN X3.here hx rfl (hb hby d15_7) rfl ?_
    exact kt
  obtain ⟨cl5, Ar5, qc5, Sz5, Mn5, Hs5, Gs5⟩ := id Vy
  have hin5 : ¬ ((1 : Int32) < 0 ∨ cl5.slots.size ≤ ((1 : Int32)).toNatClampNeg) := inb_of Sz5 ⟨by decide, by decide⟩
  have hat5 : cl5.slots[((1 : Int32)).toNatClampNeg]? = some (.int (c1.toInt8.toInt32)) := Hs5.at hin5 rfl
  have st5 : own_S p e below T3 (mkF m 9 #[.val (.ref r0), .val (.int (1 : Int32))] [(.int (c1.toInt8.toInt32))]) (mkF m 8 #[.val (.ref r0), .val (.int (1 : Int32))] [(.int (1 : Int32)), (.ref r0)]) := fun target kt => X3.baloadBytes hx (j := (1 : Int32)) (v := (.int (c1.toInt8.toInt32))) (by rw [e3]; exact Ar5.1) (State.isArrayOf_alike hZ.alike Ar5.2.1) Ar5.2.2 hin5 hat5 (g := (mkF m 8 #[.val (.ref r0), .val (.int (1 : Int32))] [(.int (1 : Int32)), (.ref r0)])) rfl rfl (hb hby d15_8) _ kt
  obtain ⟨fs, hr, hrun, hended, hW, hsame⟩ := X3.leave (v := some (.int (nar .char (((c1.toInt8.toInt32) &&& (255 : Int32)).toUInt32.toUInt16.toUInt32.toInt32)))) (fun h => by rw [Bd.returns] at h; cases h)
  refine ⟨_, _, pre0 _ (st1 _ (st2 _ (st3 _ (st4 _ (st5 _ ?_))))), hrun, hended, _, _, rfl, ?_, ⟨_, rfl⟩, hW, hsame.mono (by decide) (by decide)⟩
  · refine XS.sipush X3.here hx rfl (hb hby d15_9) ?_
    refine XS.iand X3.here hx rfl (hb hby d15_12) rfl ?_
    refine XS.i2c X3.here hx rfl (hb hby d15_13) rfl ?_
    show Steps p.tables e below (T3.setTop (mkF m 14 #[.val (.ref r0), .val (.int (1 : Int32))] [(.int (((c1.toInt8.toInt32) &&& (255 : Int32)).toUInt32.toUInt16.toUInt32.toInt32))])) _
    exact retN X3 hx (t := .char) Bd.returns (by simp) (hb hby d15_14) hr
  · show Q_rmAch1_L4 Z r0 cs fm ky c0 c1 c2 c3 h0 n0 _ T3.heap _
    rw [e3]
    exact ⟨congrArg (fun z => some (Value.int z)) (own_l1c_eq hc1_.1 hc1_.2), N3, rfl⟩
theorem ef_rmAch2_L4 (m : MethodId) (x0 : Addr) (x1 : Int32) : entryFrame m #[(.ref x0), (.int x1)] 2 = mkF m 0 #[.val (.ref x0), .val (.int x1)] [] := by first | (simp [entryFrame, mkF, argsToLocals, Value.category]; done) | rfl
def Q_rmAch2_L4 (Z : State) (r0 : Addr) (cs : Int32) (fm : Value) (ky : ClassId) (c0 : Int32) (c1 : Int32) (c2 : Int32) (c3 : Int32) (h0 : Heap) (n0 : Nat) (v : Option Value) (h : Heap) (L : List Loc) : Prop := v = some (.int c2) ∧ Fr n0 L ∧ h = h0
set_option maxRecDepth 65536 in
set_option maxHeartbeats 40000000 in
theorem rmAch2_L4 (l : Launch) (Z : State) (a0 : Array Value) (hw : ∀ d ∈ tables_1, d.before a0 Z = true) (ws : List Jvm.Cond) (r0 : Addr) (cs : Int32) (fm : Value) (ky : ClassId) (c0 : Int32) (c1 : Int32) (c2 : Int32) (c3 : Int32) (h0 : Heap) (n0 : Nat) (Z0 : n0 ≤ h0.size) (SB : own_St Z cs fm) (Od : Old Z n0 h0) (Vy : Arv Z h0 r0 ky .byte (4 : Int32) [(.int (c0.toInt8.toInt32)), (.int (c1.toInt8.toInt32)), (.int (c2.toInt8.toInt32)), (.int (c3.toInt8.toInt32))] (.int (0 : Int32))) (hc2_ : 0 ≤ c2.toInt ∧ c2.toInt < 256) :
    MetFree l (⟨"java/lang/StringLatin1", "charAt", "([BI)C"⟩ : MethodName) (head1 (Jvm.Cond.code (⟨"java/lang/StringLatin1", "charAt", "([BI)C"⟩ : MethodName) jdk_43_method_2_code 2 (some .char) :: ws) ({ frames := 2, cells := 0, slots := 0, locals := 27 } : Room)) (fun a U => a = #[(.ref r0), (.int (2 : Int32))] ∧ Z.Warmed39 U.vm ∧ U.heap = h0) (fun _ _ _ _ _ => True) (fun _ U o U' => ∃ v L, o = .returned v ∧ Q_rmAch2_L4 Z r0 cs fm ky c0 c1 c2 c3 h0 n0 v U'.heap L ∧ FrameEnd U o U' L ({ frames := 2, cells := 0, slots := 0, locals := 27 } : Room).cells ({ frames := 2, cells := 0, slots := 0, locals := 27 } : Room).slots) := by
  refine MetFree.of_bodySF (plainFor_of_name pn_3) hisR ?_
  intro p e s m args below meth c s₁ Bd hml0 hP hK
  obtain ⟨rfl, hZ, hh⟩ := hP
  have hx := Bd.exec
  have hby := Bd.bytes
  have hml : c.maxLocals = 2 := hml0
  have hown : s.vm.findClass "java/lang/StringLatin1" = some m.cls := findClass_of_methodNamed Bd.named
  have hnm := (name_of_methodNamed Bd.named Bd.method).1
  have X0 : Stand p l e ({ frames := 2, cells := 0, slots := 0, locals := 27 } : Room) s m #[(.ref r0), (.int (2 : Int32))] below meth c s₁ [] 0 0 := Stand.of_body Bd
  have e0 : s₁.heap = h0 := by rw [← hh, Bd.state]; rfl
  have N0 := Fr.nil n0
  have pre0 : ∀ t, Steps p.tables e below (s₁.setTop (mkF m 0 #[.val (.ref r0), .val (.int (2 : Int32))] [])) t → Steps p.tables e below (s₁.setTop (entryFrame m #[(.ref r0), (.int (2 : Int32))] 2)) t := fun t k => castTop (ef_rmAch2_L4 m r0 (2 : Int32)) k
  have st1 : own_S p e below s₁ (mkF m 2 #[.val (.ref r0), .val (.int (2 : Int32))] [(.ref r0), (.int (2 : Int32))]) (mkF m 0 #[.val (.ref r0), .val (.int (2 : Int32))] []) := by
    intro target kt
    refine XS.iloadN X0.here hx rfl (hb hby d15_0) rfl ?_
    refine XS.aloadN X0.here hx rfl (hb hby d15_1) rfl rfl ?_
    exact kt
  obtain ⟨cl2, Ar2, qc2, Sz2, Mn2, Hs2, Gs2⟩ := id Vy
  have st2 : own_S p e below s₁ (mkF m 3 #[.val (.ref r0), .val (.int (2 : Int32))] [(.int (4 : Int32)), (.int (2 : Int32))]) (mkF m 2 #[.val (.ref r0), .val (.int (2 : Int32))] [(.ref r0), (.int (2 : Int32))]) := fun target kt => X0.arraylength hx (cell := cl2) (by rw [e0]; exact Ar2.1) (State.isArrayOf_alike hZ.alike Ar2.2.1) (g := (mkF m 2 #[.val (.ref r0), .val (.int (2 : Int32))] [(.ref r0), (.int (2 : Int32))])) rfl rfl (hb hby d15_2) _ (by rw [len_of Sz2 Mn2]; exact kt)
  obtain ⟨_, _, ⟨T3, L3, k3, n3⟩, -, X3, ⟨Lc3, hQ3, l3, y3, z3⟩, st3⟩ := Jvm.LawKit.callS X0 hx (y := (⟨"java/lang/String", "checkIndex", "(II)V"⟩ : MethodName)) hown (mvT hZ (own_w hw 88 rfl)) (mvT hZ (own_w hw 89 rfl)) (mvT hZ (own_w hw 10 rfl)) (mvT hZ (own_w hw 90 rfl)) (by decide) (backOf (W := 0) (rmSci l Z a0 hw [] (2 : Int32) (4 : Int32) cs fm h0 n0 Z0 SB Od (by decide) (by decide)) hZ (own_w hw 90 rfl) (own_w hw 10 rfl) (by decide) (by decide)) (g := (mkF m 3 #[.val (.ref r0), .val (.int (2 : Int32))] [(.int (4 : Int32)), (.int (2 : Int32))])) rfl (by rw [hml]; rfl) (argsL := [(.int (2 : Int32)), (.int (4 : Int32))]) (rest := []) (lenOf pd_14 rfl) rfl (by show 2 * 0 + _ ≤ _; exact Nat.le_of_eq rfl) (hb hby d15_3) (fun _ _ => ⟨rfl, e0, (by decide : 0 + 0 ≤ _), (by decide : 0 + 0 ≤ _)⟩)
  dsimp only [Pt.U, Pt.locs, Pt.cells, Pt.slots] at X3 l3 y3 z3 st3 hQ3
  subst l3 y3 z3
  obtain ⟨rfl, Nq3, e3⟩ := hQ3
  have N3 := Fr.app N0 Nq3
  have st4 : own_S p e below T3 (mkF m 8 #[.val (.ref r0), .val (.int (2 : Int32))] [(.int (2 : Int32)), (.ref r0)]) (mkF m 6 #[.val (.ref r0), .val (.int (2 : Int32))] []) := by
    intro target kt
    refine XS.aloadN X3.here hx rfl (hb hby d15_6) rfl rfl ?_
    refine XS.iloadN X3.here hx rfl (hb hby d15_7) rfl ?_
    exact kt
  obtain ⟨cl5, Ar5, qc5, Sz5, Mn5, Hs5, Gs5⟩ := id Vy
  have hin5 : ¬ ((2 : Int32) < 0 ∨ cl5.slots.size ≤ ((2 : Int32)).toNatClampNeg) := inb_of Sz5 ⟨by decide, by decide⟩
  have hat5 : cl5.slots[((2 : Int32)).toNatClampNeg]? = some (.int (c2.toInt8.toInt32)) := Hs5.at hin5 rfl
  have st5 : own_S p e below T3 (mkF m 9 #[.val (.ref r0), .val (.int (2 : Int32))] [(.int (c2.toInt8.toInt32))]) (mkF m 8 #[.val (.ref r0), .val (.int (2 : Int32))] [(.int (2 : Int32)), (.ref r0)]) := fun target kt => X3.baloadBytes hx (j := (2 : Int32)) (v := (.int (c2.toInt8.toInt32))) (by rw [e3]; exact Ar5.1) (State.isArrayOf_alike hZ.alike Ar5.2.1) Ar5.2.2 hin5 hat5 (g := (mkF m 8 #[.val (.ref r0), .val (.int (2 : Int32))] [(.int (2 : Int32)), (.ref r0)])) rfl rfl (hb hby d15_8) _ kt
  obtain ⟨fs, hr, hrun, hended, hW, hsame⟩ := X3.leave (v := some (.int (nar .char (((c2.toInt8.toInt32) &&& (255 : Int32)).toUInt32.toUInt16.toUInt32.toInt32)))) (fun h => by rw [Bd.returns] at h; cases h)
  refine ⟨_, _, pre0 _ (st1 _ (st2 _ (st3 _ (st4 _ (st5 _ ?_))))), hrun, hended, _, _, rfl, ?_, ⟨_, rfl⟩, hW, hsame.mono (by decide) (by decide)⟩
  · refine XS.sipush X3.here hx rfl (hb hby d15_9) ?_
    refine XS.iand X3.here hx rfl (hb hby d15_12) rfl ?_
    refine XS.i2c X3.here hx rfl (hb hby d15_13) rfl ?_
    show Steps p.tables e below (T3.setTop (mkF m 14 #[.val (.ref r0), .val (.int (2 : Int32))] [(.int (((c2.toInt8.toInt32) &&& (255 : Int32)).toUInt32.toUInt16.toUInt32.toInt32))])) _
    exact retN X3 hx (t := .char) Bd.returns (by simp) (hb hby d15_14) hr
  · show Q_rmAch2_L4 Z r0 cs fm ky c0 c1 c2 c3 h0 n0 _ T3.heap _
    rw [e3]
    exact ⟨congrArg (fun z => some (Value.int z)) (own_l1c_eq hc2_.1 hc2_.2), N3, rfl⟩
theorem ef_rmAch3_L4 (m : MethodId) (x0 : Addr) (x1 : Int32) : entryFrame m #[(.ref x0), (.int x1)] 2 = mkF m 0 #[.val (.ref x0), .val (.int x1)] [] := by first | (simp [entryFrame, mkF, argsToLocals, Value.category]; done) | rfl
def Q_rmAch3_L4 (Z : State) (r0 : Addr) (cs : Int32) (fm : Value) (ky : ClassId) (c0 : Int32) (c1 : Int32) (c2 : Int32) (c3 : Int32) (h0 : Heap) (n0 : Nat) (v : Option Value) (h : Heap) (L : List Loc) : Prop := v = some (.int c3) ∧ Fr n0 L ∧ h = h0
set_option maxRecDepth 65536 in
set_option maxHeartbeats 40000000 in
theorem rmAch3_L4 (l : Launch) (Z : State) (a0 : Array Value) (hw : ∀ d ∈ tables_1, d.before a0 Z = true) (ws : List Jvm.Cond) (r0 : Addr) (cs : Int32) (fm : Value) (ky : ClassId) (c0 : Int32) (c1 : Int32) (c2 : Int32) (c3 : Int32) (h0 : Heap) (n0 : Nat) (Z0 : n0 ≤ h0.size) (SB : own_St Z cs fm) (Od : Old Z n0 h0) (Vy : Arv Z h0 r0 ky .byte (4 : Int32) [(.int (c0.toInt8.toInt32)), (.int (c1.toInt8.toInt32)), (.int (c2.toInt8.toInt32)), (.int (c3.toInt8.toInt32))] (.int (0 : Int32))) (hc3_ : 0 ≤ c3.toInt ∧ c3.toInt < 256) :
    MetFree l (⟨"java/lang/StringLatin1", "charAt", "([BI)C"⟩ : MethodName) (head1 (Jvm.Cond.code (⟨"java/lang/StringLatin1", "charAt", "([BI)C"⟩ : MethodName) jdk_43_method_2_code 2 (some .char) :: ws) ({ frames := 2, cells := 0, slots := 0, locals := 27 } : Room)) (fun a U => a = #[(.ref r0), (.int (3 : Int32))] ∧ Z.Warmed39 U.vm ∧ U.heap = h0) (fun _ _ _ _ _ => True) (fun _ U o U' => ∃ v L, o = .returned v ∧ Q_rmAch3_L4 Z r0 cs fm ky c0 c1 c2 c3 h0 n0 v U'.heap L ∧ FrameEnd U o U' L ({ frames := 2, cells := 0, slots := 0, locals := 27 } : Room).cells ({ frames := 2, cells := 0, slots := 0, locals := 27 } : Room).slots) := by
  refine MetFree.of_bodySF (plainFor_of_name pn_3) hisR ?_
  intro p e s m args below meth c s₁ Bd hml0 hP hK
  obtain ⟨rfl, hZ, hh⟩ := hP
  have hx := Bd.exec
  have hby := Bd.bytes
  have hml : c.maxLocals = 2 := hml0
  have hown : s.vm.findClass "java/lang/StringLatin1" = some m.cls := findClass_of_methodNamed Bd.named
  have hnm := (name_of_methodNamed Bd.named Bd.method).1
  have X0 : Stand p l e ({ frames := 2, cells := 0, slots := 0, locals := 27 } : Room) s m #[(.ref r0), (.int (3 : Int32))] below meth c s₁ [] 0 0 := Stand.of_body Bd
  have e0 : s₁.heap = h0 := by rw [← hh, Bd.state]; rfl
  have N0 := Fr.nil n0
  have pre0 : ∀ t, Steps p.tables e below (s₁.setTop (mkF m 0 #[.val (.ref r0), .val (.int (3 : Int32))] [])) t → Steps p.tables e below (s₁.setTop (entryFrame m #[(.ref r0), (.int (3 : Int32))] 2)) t := fun t k => castTop (ef_rmAch3_L4 m r0 (3 : Int32)) k
  have st1 : own_S p e below s₁ (mkF m 2 #[.val (.ref r0), .val (.int (3 : Int32))] [(.ref r0), (.int (3 : Int32))]) (mkF m 0 #[.val (.ref r0), .val (.int (3 : Int32))] []) := by
    intro target kt
    refine XS.iloadN X0.here hx rfl (hb hby d15_0) rfl ?_
    refine XS.aloadN X0.here hx rfl (hb hby d15_1) rfl rfl ?_
    exact kt
  obtain ⟨cl2, Ar2, qc2, Sz2, Mn2, Hs2, Gs2⟩ := id Vy
  have st2 : own_S p e below s₁ (mkF m 3 #[.val (.ref r0), .val (.int (3 : Int32))] [(.int (4 : Int32)), (.int (3 : Int32))]) (mkF m 2 #[.val (.ref r0), .val (.int (3 : Int32))] [(.ref r0), (.int (3 : Int32))]) := fun target kt => X0.arraylength hx (cell := cl2) (by rw [e0]; exact Ar2.1) (State.isArrayOf_alike hZ.alike Ar2.2.1) (g := (mkF m 2 #[.val (.ref r0), .val (.int (3 : Int32))] [(.ref r0), (.int (3 : Int32))])) rfl rfl (hb hby d15_2) _ (by rw [len_of Sz2 Mn2]; exact kt)
  obtain ⟨_, _, ⟨T3, L3, k3, n3⟩, -, X3, ⟨Lc3, hQ3, l3, y3, z3⟩, st3⟩ := Jvm.LawKit.callS X0 hx (y := (⟨"java/lang/String", "checkIndex", "(II)V"⟩ : MethodName)) hown (mvT hZ (own_w hw 88 rfl)) (mvT hZ (own_w hw 89 rfl)) (mvT hZ (own_w hw 10 rfl)) (mvT hZ (own_w hw 90 rfl)) (by decide) (backOf (W := 0) (rmSci l Z a0 hw [] (3 : Int32) (4 : Int32) cs fm h0 n0 Z0 SB Od (by decide) (by decide)) hZ (own_w hw 90 rfl) (own_w hw 10 rfl) (by decide) (by decide)) (g := (mkF m 3 #[.val (.ref r0), .val (.int (3 : Int32))] [(.int (4 : Int32)), (.int (3 : Int32))])) rfl (by rw [hml]; rfl) (argsL := [(.int (3 : Int32)), (.int (4 : Int32))]) (rest := []) (lenOf pd_14 rfl) rfl (by show 2 * 0 + _ ≤ _; exact Nat.le_of_eq rfl) (hb hby d15_3) (fun _ _ => ⟨rfl, e0, (by decide : 0 + 0 ≤ _), (by decide : 0 + 0 ≤ _)⟩)
  dsimp only [Pt.U, Pt.locs, Pt.cells, Pt.slots] at X3 l3 y3 z3 st3 hQ3
  subst l3 y3 z3
  obtain ⟨rfl, Nq3, e3⟩ := hQ3
  have N3 := Fr.app N0 Nq3
  have st4 : own_S p e below T3 (mkF m 8 #[.val (.ref r0), .val (.int (3 : Int32))] [(.int (3 : Int32)), (.ref r0)]) (mkF m 6 #[.val (.ref r0), .val (.int (3 : Int32))] []) := by
    intro target kt
    refine XS.aloadN X3.here hx rfl (hb hby d15_6) rfl rfl ?_
    refine XS.iloadN X3.here hx rfl (hb hby d15_7) rfl ?_
    exact kt
  obtain ⟨cl5, Ar5, qc5, Sz5, Mn5, Hs5, Gs5⟩ := id Vy
  have hin5 : ¬ ((3 : Int32) < 0 ∨ cl5.slots.size ≤ ((3 : Int32)).toNatClampNeg) := inb_of Sz5 ⟨by decide, by decide⟩
  have hat5 : cl5.slots[((3 : Int32)).toNatClampNeg]? = some (.int (c3.toInt8.toInt32)) := Hs5.at hin5 rfl
  have st5 : own_S p e below T3 (mkF m 9 #[.val (.ref r0), .val (.int (3 : Int32))] [(.int (c3.toInt8.toInt32))]) (mkF m 8 #[.val (.ref r0), .val (.int (3 : Int32))] [(.int (3 : Int32)), (.ref r0)]) := fun target kt => X3.baloadBytes hx (j := (3 : Int32)) (v := (.int (c3.toInt8.toInt32))) (by rw [e3]; exact Ar5.1) (State.isArrayOf_alike hZ.alike Ar5.2.1) Ar5.2.2 hin5 hat5 (g := (mkF m 8 #[.val (.ref r0), .val (.int (3 : Int32))] [(.int (3 : Int32)), (.ref r0)])) rfl rfl (hb hby d15_8) _ kt
  obtain ⟨fs, hr, hrun, hended, hW, hsame⟩ := X3.leave (v := some (.int (nar .char (((c3.toInt8.toInt32) &&& (255 : Int32)).toUInt32.toUInt16.toUInt32.toInt32)))) (fun h => by rw [Bd.returns] at h; cases h)
  refine ⟨_, _, pre0 _ (st1 _ (st2 _ (st3 _ (st4 _ (st5 _ ?_))))), hrun, hended, _, _, rfl, ?_, ⟨_, rfl⟩, hW, hsame.mono (by decide) (by decide)⟩
  · refine XS.sipush X3.here hx rfl (hb hby d15_9) ?_
    refine XS.iand X3.here hx rfl (hb hby d15_12) rfl ?_
    refine XS.i2c X3.here hx rfl (hb hby d15_13) rfl ?_
    show Steps p.tables e below (T3.setTop (mkF m 14 #[.val (.ref r0), .val (.int (3 : Int32))] [(.int (((c3.toInt8.toInt32) &&& (255 : Int32)).toUInt32.toUInt16.toUInt32.toInt32))])) _
    exact retN X3 hx (t := .char) Bd.returns (by simp) (hb hby d15_14) hr
  · show Q_rmAch3_L4 Z r0 cs fm ky c0 c1 c2 c3 h0 n0 _ T3.heap _
    rw [e3]
    exact ⟨congrArg (fun z => some (Value.int z)) (own_l1c_eq hc3_.1 hc3_.2), N3, rfl⟩
theorem d25_0 : decode jdk_43_method_23_code 0 = .ok (.iload_n 1, 1) := by decide +kernel
theorem d25_1 : decode jdk_43_method_23_code 1 = .ok (.i2b, 1) := by decide +kernel
theorem d25_2 : decode jdk_43_method_23_code 2 = .ok (.istore 4, 2) := by decide +kernel
theorem d25_4 : decode jdk_43_method_23_code 4 = .ok (.iload_n 2, 1) := by decide +kernel
theorem d25_5 : decode jdk_43_method_23_code 5 = .ok (.istore 5, 2) := by decide +kernel
theorem d25_7 : decode jdk_43_method_23_code 7 = .ok (.iload 5, 2) := by decide +kernel
theorem d25_9 : decode jdk_43_method_23_code 9 = .ok (.iload_n 3, 1) := by decide +kernel
theorem d25_10 : decode jdk_43_method_23_code 10 = .ok (.if_icmp .ge 21, 3) := by decide +kernel
theorem d25_13 : decode jdk_43_method_23_code 13 = .ok (.aload_n 0, 1) := by decide +kernel
theorem d25_14 : decode jdk_43_method_23_code 14 = .ok (.iload 5, 2) := by decide +kernel
theorem d25_16 : decode jdk_43_method_23_code 16 = .ok (.baload, 1) := by decide +kernel
theorem d25_17 : decode jdk_43_method_23_code 17 = .ok (.iload 4, 2) := by decide +kernel
theorem d25_19 : decode jdk_43_method_23_code 19 = .ok (.if_icmp .ne 6, 3) := by decide +kernel
theorem d25_22 : decode jdk_43_method_23_code 22 = .ok (.iload 5, 2) := by decide +kernel
theorem d25_24 : decode jdk_43_method_23_code 24 = .ok (.ireturn, 1) := by decide +kernel
theorem d25_25 : decode jdk_43_method_23_code 25 = .ok (.iinc 5 1, 3) := by decide +kernel
theorem d25_28 : decode jdk_43_method_23_code 28 = .ok (.goto (-21), 3) := by decide +kernel
theorem d25_31 : decode jdk_43_method_23_code 31 = .ok (.iconst (-1), 1) := by decide +kernel
theorem d25_32 : decode jdk_43_method_23_code 32 = .ok (.ireturn, 1) := by decide +kernel
theorem ef_rmIx1_L4 (m : MethodId) (x0 : Addr) (x1 : Int32) (x2 : Int32) (x3 : Int32) : entryFrame m #[(.ref x0), (.int x1), (.int x2), (.int x3)] 6 = mkF m 0 #[.val (.ref x0), .val (.int x1), .val (.int x2), .val (.int x3), .unset, .unset] [] := by first | (simp [entryFrame, mkF, argsToLocals, Value.category]; done) | rfl
def Q_rmIx1_L4 (Z : State) (r0 : Addr) (cs : Int32) (fm : Value) (ky : ClassId) (c0 : Int32) (c1 : Int32) (c2 : Int32) (c3 : Int32) (h0 : Heap) (n0 : Nat) (v : Option Value) (h : Heap) (L : List Loc) : Prop := ∃ z : Int32, (z < 0 ↔ ¬ (c1 = 44 ∨ c2 = 44 ∨ c3 = 44 ∨ False)) ∧ v = some (.int z) ∧ Fr n0 L ∧ h = h0
set_option maxRecDepth 65536 in
set_option maxHeartbeats 40000000 in
theorem rmIx1_L4 (l : Launch) (Z : State) (a0 : Array Value) (hw : ∀ d ∈ tables_1, d.before a0 Z = true) (ws : List Jvm.Cond) (r0 : Addr) (cs : Int32) (fm : Value) (ky : ClassId) (c0 : Int32) (c1 : Int32) (c2 : Int32) (c3 : Int32) (h0 : Heap) (n0 : Nat) (Z0 : n0 ≤ h0.size) (SB : own_St Z cs fm) (Od : Old Z n0 h0) (Vy : Arv Z h0 r0 ky .byte (4 : Int32) [(.int (c0.toInt8.toInt32)), (.int (c1.toInt8.toInt32)), (.int (c2.toInt8.toInt32)), (.int (c3.toInt8.toInt32))] (.int (0 : Int32))) (hc1_ : 0 ≤ c1.toInt ∧ c1.toInt < 256) (hc2_ : 0 ≤ c2.toInt ∧ c2.toInt < 256) (hc3_ : 0 ≤ c3.toInt ∧ c3.toInt < 256) :
    MetFree l (⟨"java/lang/StringLatin1", "indexOfChar", "([BIII)I"⟩ : MethodName) (head1 (Jvm.Cond.code (⟨"java/lang/StringLatin1", "indexOfChar", "([BIII)I"⟩ : MethodName) jdk_43_method_23_code 6 (some .int) :: ws) ({ frames := 0, cells := 0, slots := 0, locals := 0 } : Room)) (fun a U => a = #[(.ref r0), (.int (44 : Int32)), (.int (1 : Int32)), (.int (4 : Int32))] ∧ Z.Warmed39 U.vm ∧ U.heap = h0) (fun _ _ _ _ _ => True) (fun _ U o U' => ∃ v L, o = .returned v ∧ Q_rmIx1_L4 Z r0 cs fm ky c0 c1 c2 c3 h0 n0 v U'.heap L ∧ FrameEnd U o U' L ({ frames := 0, cells := 0, slots := 0, locals := 0 } : Room).cells ({ frames := 0, cells := 0, slots := 0, locals := 0 } : Room).slots) := by
  refine MetFree.of_bodySF (plainFor_of_name pn_3) hisR ?_
  intro p e s m args below meth c s₁ Bd hml0 hP hK
  obtain ⟨rfl, hZ, hh⟩ := hP
  have hx := Bd.exec
  have hby := Bd.bytes
  have hml : c.maxLocals = 6 := hml0
  have hown : s.vm.findClass "java/lang/StringLatin1" = some m.cls := findClass_of_methodNamed Bd.named
  have hnm := (name_of_methodNamed Bd.named Bd.method).1
  have X0 : Stand p l e ({ frames := 0, cells := 0, slots := 0, locals := 0 } : Room) s m #[(.ref r0), (.int (44 : Int32)), (.int (1 : Int32)), (.int (4 : Int32))] below meth c s₁ [] 0 0 := Stand.of_body Bd
  have e0 : s₁.heap = h0 := by rw [← hh, Bd.state]; rfl
  have N0 := Fr.nil n0
  have pre0 : ∀ t, Steps p.tables e below (s₁.setTop (mkF m 0 #[.val (.ref r0), .val (.int (44 : Int32)), .val (.int (1 : Int32)), .val (.int (4 : Int32)), .unset, .unset] [])) t → Steps p.tables e below (s₁.setTop (entryFrame m #[(.ref r0), (.int (44 : Int32)), (.int (1 : Int32)), (.int (4 : Int32))] 6)) t := fun t k => castTop (ef_rmIx1_L4 m r0 (44 : Int32) (1 : Int32) (4 : Int32)) k
  have st1 : own_S p e below s₁ (mkF m 16 #[.val (.ref r0), .val (.int (44 : Int32)), .val (.int (1 : Int32)), .val (.int (4 : Int32)), .val (.int (44 : Int32)), .val (.int (1 : Int32))] [(.int (1 : Int32)), (.ref r0)]) (mkF m 0 #[.val (.ref r0), .val (.int (44 : Int32)), .val (.int (1 : Int32)), .val (.int (4 : Int32)), .unset, .unset] []) := by
    intro target kt
    refine XS.iloadN X0.here hx rfl (hb hby d25_0) rfl ?_
    refine XS.i2b X0.here hx rfl (hb hby d25_1) rfl ?_
    refine XS.istore X0.here hx rfl (hb hby d25_2) rfl (l' := #[.val (.ref r0), .val (.int (44 : Int32)), .val (.int (1 : Int32)), .val (.int (4 : Int32)), .val (.int (44 : Int32)), .unset]) rfl ?_
    refine XS.iloadN X0.here hx rfl (hb hby d25_4) rfl ?_
    refine XS.istore X0.here hx rfl (hb hby d25_5) rfl (l' := #[.val (.ref r0), .val (.int (44 : Int32)), .val (.int (1 : Int32)), .val (.int (4 : Int32)), .val (.int (44 : Int32)), .val (.int (1 : Int32))]) rfl ?_
    refine XS.iload X0.here hx rfl (hb hby d25_7) rfl ?_
    refine XS.iloadN X0.here hx rfl (hb hby d25_9) rfl ?_
    refine XS.icmpNo X0.here hx rfl (hb hby d25_10) rfl (tlt (by decide : ((1 : Int32) < (4 : Int32)))).2.1 ?_
    refine XS.aloadN X0.here hx rfl (hb hby d25_13) rfl rfl ?_
    refine XS.iload X0.here hx rfl (hb hby d25_14) rfl ?_
    exact kt
  obtain ⟨cl2, Ar2, qc2, Sz2, Mn2, Hs2, Gs2⟩ := id Vy
  have hin2 : ¬ ((1 : Int32) < 0 ∨ cl2.slots.size ≤ ((1 : Int32)).toNatClampNeg) := inb_of Sz2 ⟨by decide, by decide⟩
  have hat2 : cl2.slots[((1 : Int32)).toNatClampNeg]? = some (.int (c1.toInt8.toInt32)) := Hs2.at hin2 rfl
  have st2 : own_S p e below s₁ (mkF m 17 #[.val (.ref r0), .val (.int (44 : Int32)), .val (.int (1 : Int32)), .val (.int (4 : Int32)), .val (.int (44 : Int32)), .val (.int (1 : Int32))] [(.int (c1.toInt8.toInt32))]) (mkF m 16 #[.val (.ref r0), .val (.int (44 : Int32)), .val (.int (1 : Int32)), .val (.int (4 : Int32)), .val (.int (44 : Int32)), .val (.int (1 : Int32))] [(.int (1 : Int32)), (.ref r0)]) := fun target kt => X0.baloadBytes hx (j := (1 : Int32)) (v := (.int (c1.toInt8.toInt32))) (by rw [e0]; exact Ar2.1) (State.isArrayOf_alike hZ.alike Ar2.2.1) Ar2.2.2 hin2 hat2 (g := (mkF m 16 #[.val (.ref r0), .val (.int (44 : Int32)), .val (.int (1 : Int32)), .val (.int (4 : Int32)), .val (.int (44 : Int32)), .val (.int (1 : Int32))] [(.int (1 : Int32)), (.ref r0)])) rfl rfl (hb hby d25_16) _ kt
  have st3 : own_S p e below s₁ (mkF m 19 #[.val (.ref r0), .val (.int (44 : Int32)), .val (.int (1 : Int32)), .val (.int (4 : Int32)), .val (.int (44 : Int32)), .val (.int (1 : Int32))] [(.int (44 : Int32)), (.int (c1.toInt8.toInt32))]) (mkF m 17 #[.val (.ref r0), .val (.int (44 : Int32)), .val (.int (1 : Int32)), .val (.int (4 : Int32)), .val (.int (44 : Int32)), .val (.int (1 : Int32))] [(.int (c1.toInt8.toInt32))]) := by
    intro target kt
    refine XS.iload X0.here hx rfl (hb hby d25_17) rfl ?_
    exact kt
  by_cases m1 : (c1.toInt8.toInt32) = (44 : Int32)
  · have st4 : own_S p e below s₁ (mkF m 22 #[.val (.ref r0), .val (.int (44 : Int32)), .val (.int (1 : Int32)), .val (.int (4 : Int32)), .val (.int (44 : Int32)), .val (.int (1 : Int32))] []) (mkF m 19 #[.val (.ref r0), .val (.int (44 : Int32)), .val (.int (1 : Int32)), .val (.int (4 : Int32)), .val (.int (44 : Int32)), .val (.int (1 : Int32))] [(.int (44 : Int32)), (.int (c1.toInt8.toInt32))]) := by
      intro target kt
      refine XS.icmpNo X0.here hx rfl (hb hby d25_19) rfl (teq m1).2 ?_
      exact kt
    have m1' := (own_b44 hc1_.1 hc1_.2).mp m1
    obtain ⟨fs, hr, hrun, hended, hW, hsame⟩ := X0.leave (v := some (.int (1 : Int32))) (fun h => by rw [Bd.returns] at h; cases h)
    refine ⟨_, _, pre0 _ (st1 _ (st2 _ (st3 _ (st4 _ ?_)))), hrun, hended, _, _, rfl, ?_, ⟨_, rfl⟩, hW, hsame.mono (by decide) (by decide)⟩
    · refine XS.iload X0.here hx rfl (hb hby d25_22) rfl ?_
      show Steps p.tables e below (s₁.setTop (mkF m 24 #[.val (.ref r0), .val (.int (44 : Int32)), .val (.int (1 : Int32)), .val (.int (4 : Int32)), .val (.int (44 : Int32)), .val (.int (1 : Int32))] [(.int (1 : Int32))])) _
      exact retI X0 hx Bd.returns (hb hby d25_24) hr
    · show Q_rmIx1_L4 Z r0 cs fm ky c0 c1 c2 c3 h0 n0 _ s₁.heap _
      rw [e0]
      exact ⟨_, iff_of_false (by decide) (by simp [m1']), rfl, N0, rfl⟩
  · have st5 : own_S p e below s₁ (mkF m 25 #[.val (.ref r0), .val (.int (44 : Int32)), .val (.int (1 : Int32)), .val (.int (4 : Int32)), .val (.int (44 : Int32)), .val (.int (1 : Int32))] []) (mkF m 19 #[.val (.ref r0), .val (.int (44 : Int32)), .val (.int (1 : Int32)), .val (.int (4 : Int32)), .val (.int (44 : Int32)), .val (.int (1 : Int32))] [(.int (44 : Int32)), (.int (c1.toInt8.toInt32))]) := by
      intro target kt
      refine XS.icmpYes X0.here hx rfl (pc0 := 19) (pc' := 25) rfl (hb hby d25_19) rfl (feq m1).2 (by decide) (by decide) ?_
      exact kt
    have m1' : ¬ c1 = 44 := fun q => m1 ((own_b44 hc1_.1 hc1_.2).mpr q)
    have st6 : own_S p e below s₁ (mkF m 16 #[.val (.ref r0), .val (.int (44 : Int32)), .val (.int (1 : Int32)), .val (.int (4 : Int32)), .val (.int (44 : Int32)), .val (.int (2 : Int32))] [(.int (2 : Int32)), (.ref r0)]) (mkF m 25 #[.val (.ref r0), .val (.int (44 : Int32)), .val (.int (1 : Int32)), .val (.int (4 : Int32)), .val (.int (44 : Int32)), .val (.int (1 : Int32))] []) := by
      intro target kt
      refine XS.iinc X0.here hx rfl (hb hby d25_25) rfl (l' := #[.val (.ref r0), .val (.int (44 : Int32)), .val (.int (1 : Int32)), .val (.int (4 : Int32)), .val (.int (44 : Int32)), .val (.int (2 : Int32))]) rfl ?_
      refine XS.goto X0.here hx rfl (pc0 := 28) (pc' := 7) rfl (hb hby d25_28) (by decide) (by decide) ?_
      refine XS.iload X0.here hx rfl (hb hby d25_7) rfl ?_
      refine XS.iloadN X0.here hx rfl (hb hby d25_9) rfl ?_
      refine XS.icmpNo X0.here hx rfl (hb hby d25_10) rfl (tlt (by decide : ((2 : Int32) < (4 : Int32)))).2.1 ?_
      refine XS.aloadN X0.here hx rfl (hb hby d25_13) rfl rfl ?_
      refine XS.iload X0.here hx rfl (hb hby d25_14) rfl ?_
      exact kt
    obtain ⟨cl7, Ar7, qc7, Sz7, Mn7, Hs7, Gs7⟩ := id Vy
    have hin7 : ¬ ((2 : Int32) < 0 ∨ cl7.slots.size ≤ ((2 : Int32)).toNatClampNeg) := inb_of Sz7 ⟨by decide, by decide⟩
    have hat7 : cl7.slots[((2 : Int32)).toNatClampNeg]? = some (.int (c2.toInt8.toInt32)) := Hs7.at hin7 rfl
    have st7 : own_S p e below s₁ (mkF m 17 #[.val (.ref r0), .val (.int (44 : Int32)), .val (.int (1 : Int32)), .val (.int (4 : Int32)), .val (.int (44 : Int32)), .val (.int (2 : Int32))] [(.int (c2.toInt8.toInt32))]) (mkF m 16 #[.val (.ref r0), .val (.int (44 : Int32)), .val (.int (1 : Int32)), .val (.int (4 : Int32)), .val (.int (44 : Int32)), .val (.int (2 : Int32))] [(.int (2 : Int32)), (.ref r0)]) := fun target kt => X0.baloadBytes hx (j := (2 : Int32)) (v := (.int (c2.toInt8.toInt32))) (by rw [e0]; exact Ar7.1) (State.isArrayOf_alike hZ.alike Ar7.2.1) Ar7.2.2 hin7 hat7 (g := (mkF m 16 #[.val (.ref r0), .val (.int (44 : Int32)), .val (.int (1 : Int32)), .val (.int (4 : Int32)), .val (.int (44 : Int32)), .val (.int (2 : Int32))] [(.int (2 : Int32)), (.ref r0)])) rfl rfl (hb hby d25_16) _ kt
    have st8 : own_S p e below s₁ (mkF m 19 #[.val (.ref r0), .val (.int (44 : Int32)), .val (.int (1 : Int32)), .val (.int (4 : Int32)), .val (.int (44 : Int32)), .val (.int (2 : Int32))] [(.int (44 : Int32)), (.int (c2.toInt8.toInt32))]) (mkF m 17 #[.val (.ref r0), .val (.int (44 : Int32)), .val (.int (1 : Int32)), .val (.int (4 : Int32)), .val (.int (44 : Int32)), .val (.int (2 : Int32))] [(.int (c2.toInt8.toInt32))]) := by
      intro target kt
      refine XS.iload X0.here hx rfl (hb hby d25_17) rfl ?_
      exact kt
    by_cases m2 : (c2.toInt8.toInt32) = (44 : Int32)
    · have st9 : own_S p e below s₁ (mkF m 22 #[.val (.ref r0), .val (.int (44 : Int32)), .val (.int (1 : Int32)), .val (.int (4 : Int32)), .val (.int (44 : Int32)), .val (.int (2 : Int32))] []) (mkF m 19 #[.val (.ref r0), .val (.int (44 : Int32)), .val (.int (1 : Int32)), .val (.int (4 : Int32)), .val (.int (44 : Int32)), .val (.int (2 : Int32))] [(.int (44 : Int32)), (.int (c2.toInt8.toInt32))]) := by
        intro target kt
        refine XS.icmpNo X0.here hx rfl (hb hby d25_19) rfl (teq m2).2 ?_
        exact kt
      have m2' := (own_b44 hc2_.1 hc2_.2).mp m2
      obtain ⟨fs, hr, hrun, hended, hW, hsame⟩ := X0.leave (v := some (.int (2 : Int32))) (fun h => by rw [Bd.returns] at h; cases h)
      refine ⟨_, _, pre0 _ (st1 _ (st2 _ (st3 _ (st5 _ (st6 _ (st7 _ (st8 _ (st9 _ ?_)))))))), hrun, hended, _, _, rfl, ?_, ⟨_, rfl⟩, hW, hsame.mono (by decide) (by decide)⟩
      · refine XS.iload X0.here hx rfl (hb hby d25_22) rfl ?_
        show Steps p.tables e below (s₁.setTop (mkF m 24 #[.val (.ref r0), .val (.int (44 : Int32)), .val (.int (1 : Int32)), .val (.int (4 : Int32)), .val (.int (44 : Int32)), .val (.int (2 : Int32))] [(.int (2 : Int32))])) _
        exact retI X0 hx Bd.returns (hb hby d25_24) hr
      · show Q_rmIx1_L4 Z r0 cs fm ky c0 c1 c2 c3 h0 n0 _ s₁.heap _
        rw [e0]
        exact ⟨_, iff_of_false (by decide) (by simp [m2']), rfl, N0, rfl⟩
    · have st10 : own_S p e below s₁ (mkF m 25 #[.val (.ref r0), .val (.int (44 : Int32)), .val (.int (1 : Int32)), .val (.int (4 : Int32)), .val (.int (44 : Int32)), .val (.int (2 : Int32))] []) (mkF m 19 #[.val (.ref r0), .val (.int (44 : Int32)), .val (.int (1 : Int32)), .val (.int (4 : Int32)), .val (.int (44 : Int32)), .val (.int (2 : Int32))] [(.int (44 : Int32)), (.int (c2.toInt8.toInt32))]) := by
        intro target kt
        refine XS.icmpYes X0.here hx rfl (pc0 := 19) (pc' := 25) rfl (hb hby d25_19) rfl (feq m2).2 (by decide) (by decide) ?_
        exact kt
      have m2' : ¬ c2 = 44 := fun q => m2 ((own_b44 hc2_.1 hc2_.2).mpr q)
      have st11 : own_S p e below s₁ (mkF m 16 #[.val (.ref r0), .val (.int (44 : Int32)), .val (.int (1 : Int32)), .val (.int (4 : Int32)), .val (.int (44 : Int32)), .val (.int (3 : Int32))] [(.int (3 : Int32)), (.ref r0)]) (mkF m 25 #[.val (.ref r0), .val (.int (44 : Int32)), .val (.int (1 : Int32)), .val (.int (4 : Int32)), .val (.int (44 : Int32)), .val (.int (2 : Int32))] []) := by
        intro target kt
        refine XS.iinc X0.here hx rfl (hb hby d25_25) rfl (l' := #[.val (.ref r0), .val (.int (44 : Int32)), .val (.int (1 : Int32)), .val (.int (4 : Int32)), .val (.int (44 : Int32)), .val (.int (3 : Int32))]) rfl ?_
        refine XS.goto X0.here hx rfl (pc0 := 28) (pc' := 7) rfl (hb hby d25_28) (by decide) (by decide) ?_
        refine XS.iload X0.here hx rfl (hb hby d25_7) rfl ?_
        refine XS.iloadN X0.here hx rfl (hb hby d25_9) rfl ?_
        refine XS.icmpNo X0.here hx rfl (hb hby d25_10) rfl (tlt (by decide : ((3 : Int32) < (4 : Int32)))).2.1 ?_
        refine XS.aloadN X0.here hx rfl (hb hby d25_13) rfl rfl ?_
        refine XS.iload X0.here hx rfl (hb hby d25_14) rfl ?_
        exact kt
      obtain ⟨cl12, Ar12, qc12, Sz12, Mn12, Hs12, Gs12⟩ := id Vy
      have hin12 : ¬ ((3 : Int32) < 0 ∨ cl12.slots.size ≤ ((3 : Int32)).toNatClampNeg) := inb_of Sz12 ⟨by decide, by decide⟩
      have hat12 : cl12.slots[((3 : Int32)).toNatClampNeg]? = some (.int (c3.toInt8.toInt32)) := Hs12.at hin12 rfl
      have st12 : own_S p e below s₁ (mkF m 17 #[.val (.ref r0), .val (.int (44 : Int32)), .val (.int (1 : Int32)), .val (.int (4 : Int32)), .val (.int (44 : Int32)), .val (.int (3 : Int32))] [(.int (c3.toInt8.toInt32))]) (mkF m 16 #[.val (.ref r0), .val (.int (44 : Int32)), .val (.int (1 : Int32)), .val (.int (4 : Int32)), .val (.int (44 : Int32)), .val (.int (3 : Int32))] [(.int (3 : Int32)), (.ref r0)]) := fun target kt => X0.baloadBytes hx (j := (3 : Int32)) (v := (.int (c3.toInt8.toInt32))) (by rw [e0]; exact Ar12.1) (State.isArrayOf_alike hZ.alike Ar12.2.1) Ar12.2.2 hin12 hat12 (g := (mkF m 16 #[.val (.ref r0), .val (.int (44 : Int32)), .val (.int (1 : Int32)), .val (.int (4 : Int32)), .val (.int (44 : Int32)), .val (.int (3 : Int32))] [(.int (3 : Int32)), (.ref r0)])) rfl rfl (hb hby d25_16) _ kt
      have st13 : own_S p e below s₁ (mkF m 19 #[.val (.ref r0), .val (.int (44 : Int32)), .val (.int (1 : Int32)), .val (.int (4 : Int32)), .val (.int (44 : Int32)), .val (.int (3 : Int32))] [(.int (44 : Int32)), (.int (c3.toInt8.toInt32))]) (mkF m 17 #[.val (.ref r0), .val (.int (44 : Int32)), .val (.int (1 : Int32)), .val (.int (4 : Int32)), .val (.int (44 : Int32)), .val (.int (3 : Int32))] [(.int (c3.toInt8.toInt32))]) := by
        intro target kt
        refine XS.iload X0.here hx rfl (hb hby d25_17) rfl ?_
        exact kt
      by_cases m3 : (c3.toInt8.toInt32) = (44 : Int32)
      · have st14 : own_S p e below s₁ (mkF m 22 #[.val (.ref r0), .val (.int (44 : Int32)), .val (.int (1 : Int32)), .val (.int (4 : Int32)), .val (.int (44 : Int32)), .val (.int (3 : Int32))] []) (mkF m 19 #[.val (.ref r0), .val (.int (44 : Int32)), .val (.int (1 : Int32)), .val (.int (4 : Int32)), .val (.int (44 : Int32)), .val (.int (3 : Int32))] [(.int (44 : Int32)), (.int (c3.toInt8.toInt32))]) := by
          intro target kt
          refine XS.icmpNo X0.here hx rfl (hb hby d25_19) rfl (teq m3).2 ?_
          exact kt
        have m3' := (own_b44 hc3_.1 hc3_.2).mp m3
        obtain ⟨fs, hr, hrun, hended, hW, hsame⟩ := X0.leave (v := some (.int (3 : Int32))) (fun h => by rw [Bd.returns] at h; cases h)
        refine ⟨_, _, pre0 _ (st1 _ (st2 _ (st3 _ (st5 _ (st6 _ (st7 _ (st8 _ (st10 _ (st11 _ (st12 _ (st13 _ (st14 _ ?_)))))))))))), hrun, hended, _, _, rfl, ?_, ⟨_, rfl⟩, hW, hsame.mono (by decide) (by decide)⟩
        · refine XS.iload X0.here hx rfl (hb hby d25_22) rfl ?_
          show Steps p.tables e below (s₁.setTop (mkF m 24 #[.val (.ref r0), .val (.int (44 : Int32)), .val (.int (1 : Int32)), .val (.int (4 : Int32)), .val (.int (44 : Int32)), .val (.int (3 : Int32))] [(.int (3 : Int32))])) _
          exact retI X0 hx Bd.returns (hb hby d25_24) hr
        · show Q_rmIx1_L4 Z r0 cs fm ky c0 c1 c2 c3 h0 n0 _ s₁.heap _
          rw [e0]
          exact ⟨_, iff_of_false (by decide) (by simp [m3']), rfl, N0, rfl⟩
      · have st15 : own_S p e below s₁ (mkF m 25 #[.val (.ref r0), .val (.int (44 : Int32)), .val (.int (1 : Int32)), .val (.int (4 : Int32)), .val (.int (44 : Int32)), .val (.int (3 : Int32))] []) (mkF m 19 #[.val (.ref r0), .val (.int (44 : Int32)), .val (.int (1 : Int32)), .val (.int (4 : Int32)), .val (.int (44 : Int32)), .val (.int (3 : Int32))] [(.int (44 : Int32)), (.int (c3.toInt8.toInt32))]) := by
          intro target kt
          refine XS.icmpYes X0.here hx rfl (pc0 := 19) (pc' := 25) rfl (hb hby d25_19) rfl (feq m3).2 (by decide) (by decide) ?_
          exact kt
        have m3' : ¬ c3 = 44 := fun q => m3 ((own_b44 hc3_.1 hc3_.2).mpr q)
        have st16 : own_S p e below s₁ (mkF m 32 #[.val (.ref r0), .val (.int (44 : Int32)), .val (.int (1 : Int32)), .val (.int (4 : Int32)), .val (.int (44 : Int32)), .val (.int (4 : Int32))] [(.int (-1 : Int32))]) (mkF m 25 #[.val (.ref r0), .val (.int (44 : Int32)), .val (.int (1 : Int32)), .val (.int (4 : Int32)), .val (.int (44 : Int32)), .val (.int (3 : Int32))] []) := by
          intro target kt
          refine XS.iinc X0.here hx rfl (hb hby d25_25) rfl (l' := #[.val (.ref r0), .val (.int (44 : Int32)), .val (.int (1 : Int32)), .val (.int (4 : Int32)), .val (.int (44 : Int32)), .val (.int (4 : Int32))]) rfl ?_
          refine XS.goto X0.here hx rfl (pc0 := 28) (pc' := 7) rfl (hb hby d25_28) (by decide) (by decide) ?_
          refine XS.iload X0.here hx rfl (hb hby d25_7) rfl ?_
          refine XS.iloadN X0.here hx rfl (hb hby d25_9) rfl ?_
          refine XS.icmpYes X0.here hx rfl (pc0 := 10) (pc' := 31) rfl (hb hby d25_10) rfl (flt (by decide : ¬ ((4 : Int32) < (4 : Int32)))).2.1 (by decide) (by decide) ?_
          refine XS.iconst X0.here hx rfl (hb hby d25_31) ?_
          exact kt
        obtain ⟨fs, hr, hrun, hended, hW, hsame⟩ := X0.leave (v := some (.int (-1 : Int32))) (fun h => by rw [Bd.returns] at h; cases h)
        refine ⟨_, _, pre0 _ (st1 _ (st2 _ (st3 _ (st5 _ (st6 _ (st7 _ (st8 _ (st10 _ (st11 _ (st12 _ (st13 _ (st15 _ (st16 _ ?_))))))))))))), hrun, hended, _, _, rfl, ?_, ⟨_, rfl⟩, hW, hsame.mono (by decide) (by decide)⟩
        · show Steps p.tables e below (s₁.setTop (mkF m 32 #[.val (.ref r0), .val (.int (44 : Int32)), .val (.int (1 : Int32)), .val (.int (4 : Int32)), .val (.int (44 : Int32)), .val (.int (4 : Int32))] [(.int (-1 : Int32))])) _
          exact retI X0 hx Bd.returns (hb hby d25_32) hr
        · show Q_rmIx1_L4 Z r0 cs fm ky c0 c1 c2 c3 h0 n0 _ s₁.heap _
          rw [e0]
          exact ⟨_, iff_of_true (by decide) (by simp [m1', m2', m3']), rfl, N0, rfl⟩
theorem d23_0 : decode jdk_29_method_65_code 0 = .ok (.iload_n 0, 1) := by decide +kernel
theorem d23_1 : decode jdk_29_method_65_code 1 = .ok (.iload_n 1, 1) := by decide +kernel
theorem d23_2 : decode jdk_29_method_65_code 2 = .ok (.if_icmp .lt 7, 3) := by decide +kernel
theorem d23_5 : decode jdk_29_method_65_code 5 = .ok (.iload_n 0, 1) := by decide +kernel
theorem d23_6 : decode jdk_29_method_65_code 6 = .ok (.goto 4, 3) := by decide +kernel
theorem d23_9 : decode jdk_29_method_65_code 9 = .ok (.iload_n 1, 1) := by decide +kernel
theorem d23_10 : decode jdk_29_method_65_code 10 = .ok (.ireturn, 1) := by decide +kernel
theorem ef_rm23 (m : MethodId) (x0 : Int32) (x1 : Int32) : entryFrame m #[(.int x0), (.int x1)] 2 = mkF m 0 #[.val (.int x0), .val (.int x1)] [] := by first | (simp [entryFrame, mkF, argsToLocals, Value.category]; done) | rfl
def Q_rm23 (Z : State) (p0 : Int32) (p1 : Int32) (h0 : Heap) (n0 : Nat) (v : Option Value) (h : Heap) (L : List Loc) : Prop := v = some (.int (if p0 < p1 then p1 else p0)) ∧ Fr n0 L ∧ h = h0
set_option maxRecDepth 65536 in
set_option maxHeartbeats 40000000 in
theorem rm23 (l : Launch) (Z : State) (a0 : Array Value) (hw : ∀ d ∈ tables_1, d.before a0 Z = true) (ws : List Jvm.Cond) (p0 : Int32) (p1 : Int32) (h0 : Heap) (n0 : Nat) (Z0 : n0 ≤ h0.size) :
    MetFree l (⟨"java/lang/Math", "max", "(II)I"⟩ : MethodName) (head1 (Jvm.Cond.code (⟨"java/lang/Math", "max", "(II)I"⟩ : MethodName) jdk_29_method_65_code 2 (some .int) :: ws) ({ frames := 0, cells := 0, slots := 0, locals := 0 } : Room)) (fun a U => a = #[(.int p0), (.int p1)] ∧ Z.Warmed39 U.vm ∧ U.heap = h0) (fun _ _ _ _ _ => True) (fun _ U o U' => ∃ v L, o = .returned v ∧ Q_rm23 Z p0 p1 h0 n0 v U'.heap L ∧ FrameEnd U o U' L ({ frames := 0, cells := 0, slots := 0, locals := 0 } : Room).cells ({ frames := 0, cells := 0, slots := 0, locals := 0 } : Room).slots) := by
  refine MetFree.of_bodySF (Jvm.Free.JP.mathPlain rfl (by decide +kernel)) hisR ?_
  intro p e s m args below meth c s₁ Bd hml0 hP hK
  obtain ⟨rfl, hZ, hh⟩ := hP
  have hx := Bd.exec
  have hby := Bd.bytes
  have hml : c.maxLocals = 2 := hml0
  have hown : s.vm.findClass "java/lang/Math" = some m.cls := findClass_of_methodNamed Bd.named
  have hnm := (name_of_methodNamed Bd.named Bd.method).1
  have X0 : Stand p l e ({ frames := 0, cells := 0, slots := 0, locals := 0 } : Room) s m #[(.int p0), (.int p1)] below meth c s₁ [] 0 0 := Stand.of_body Bd
  have e0 : s₁.heap = h0 := by rw [← hh, Bd.state]; rfl
  have N0 := Fr.nil n0
  have pre0 : ∀ t, Steps p.tables e below (s₁.setTop (mkF m 0 #[.val (.int p0), .val (.int p1)] [])) t → Steps p.tables e below (s₁.setTop (entryFrame m #[(.int p0), (.int p1)] 2)) t := fun t k => castTop (ef_rm23 m p0 p1) k
  obtain ⟨fs, hr, hrun, hended, hW, hsame⟩ := X0.leave (v := some (.int (if p0 < p1 then p1 else p0))) (fun h => by rw [Bd.returns] at h; cases h)
  refine ⟨_, _, pre0 _ ?_, hrun, hended, _, _, rfl, ?_, ⟨_, rfl⟩, hW, hsame.mono (by decide) (by decide)⟩
  · refine XS.iloadN X0.here hx rfl (hb hby d23_0) rfl ?_
    refine XS.iloadN X0.here hx rfl (hb hby d23_1) rfl ?_
    by_cases hc2 : p0 < p1
    · rw [if_pos hc2] at hr
      refine XS.icmpYes X0.here hx rfl (pc0 := 2) (pc' := 9) rfl (hb hby d23_2) rfl (tlt hc2).1 (by decide) (by decide) ?_
      refine XS.iloadN X0.here hx rfl (hb hby d23_9) rfl ?_
      show Steps p.tables e below (s₁.setTop (mkF m 10 #[.val (.int p0), .val (.int p1)] [(.int p1)])) _
      exact retI X0 hx Bd.returns (hb hby d23_10) hr
    · rw [if_neg hc2] at hr
      refine XS.icmpNo X0.here hx rfl (hb hby d23_2) rfl (flt hc2).1 ?_
      refine XS.iloadN X0.here hx rfl (hb hby d23_5) rfl ?_
      refine XS.goto X0.here hx rfl (pc0 := 6) (pc' := 10) rfl (hb hby d23_6) (by decide) (by decide) ?_
      show Steps p.tables e below (s₁.setTop (mkF m 10 #[.val (.int p0), .val (.int p1)] [(.int p0)])) _
      exact retI X0 hx Bd.returns (hb hby d23_10) hr
  · show Q_rm23 Z p0 p1 h0 n0 _ s₁.heap _
    rw [e0]
    exact ⟨rfl, N0, rfl⟩
theorem d24_0 : decode jdk_29_method_69_code 0 = .ok (.iload_n 0, 1) := by decide +kernel
theorem d24_1 : decode jdk_29_method_69_code 1 = .ok (.iload_n 1, 1) := by decide +kernel
theorem d24_2 : decode jdk_29_method_69_code 2 = .ok (.if_icmp .gt 7, 3) := by decide +kernel
theorem d24_5 : decode jdk_29_method_69_code 5 = .ok (.iload_n 0, 1) := by decide +kernel
theorem d24_6 : decode jdk_29_method_69_code 6 = .ok (.goto 4, 3) := by decide +kernel
theorem d24_9 : decode jdk_29_method_69_code 9 = .ok (.iload_n 1, 1) := by decide +kernel
theorem d24_10 : decode jdk_29_method_69_code 10 = .ok (.ireturn, 1) := by decide +kernel
theorem ef_rm24 (m : MethodId) (x0 : Int32) (x1 : Int32) : entryFrame m #[(.int x0), (.int x1)] 2 = mkF m 0 #[.val (.int x0), .val (.int x1)] [] := by first | (simp [entryFrame, mkF, argsToLocals, Value.category]; done) | rfl
def Q_rm24 (Z : State) (p0 : Int32) (p1 : Int32) (h0 : Heap) (n0 : Nat) (v : Option Value) (h : Heap) (L : List Loc) : Prop := v = some (.int (if p1 < p0 then p1 else p0)) ∧ Fr n0 L ∧ h = h0
set_option maxRecDepth 65536 in
set_option maxHeartbeats 40000000 in
theorem rm24 (l : Launch) (Z : State) (a0 : Array Value) (hw : ∀ d ∈ tables_1, d.before a0 Z = true) (ws : List Jvm.Cond) (p0 : Int32) (p1 : Int32) (h0 : Heap) (n0 : Nat) (Z0 : n0 ≤ h0.size) :
    MetFree l (⟨"java/lang/Math", "min", "(II)I"⟩ : MethodName) (head1 (Jvm.Cond.code (⟨"java/lang/Math", "min", "(II)I"⟩ : MethodName) jdk_29_method_69_code 2 (some .int) :: ws) ({ frames := 0, cells := 0, slots := 0, locals := 0 } : Room)) (fun a U => a = #[(.int p0), (.int p1)] ∧ Z.Warmed39 U.vm ∧ U.heap = h0) (fun _ _ _ _ _ => True) (fun _ U o U' => ∃ v L, o = .returned v ∧ Q_rm24 Z p0 p1 h0 n0 v U'.heap L ∧ FrameEnd U o U' L ({ frames := 0, cells := 0, slots := 0, locals := 0 } : Room).cells ({ frames := 0, cells := 0, slots := 0, locals := 0 } : Room).slots) := by
  refine MetFree.of_bodySF (Jvm.Free.JP.mathPlain rfl (by decide +kernel)) hisR ?_
  intro p e s m args below meth c s₁ Bd hml0 hP hK
  obtain ⟨rfl, hZ, hh⟩ := hP
  have hx := Bd.exec
  have hby := Bd.bytes
  have hml : c.maxLocals = 2 := hml0
  have hown : s.vm.findClass "java/lang/Math" = some m.cls := findClass_of_methodNamed Bd.named
  have hnm := (name_of_methodNamed Bd.named Bd.method).1
  have X0 : Stand p l e ({ frames := 0, cells := 0, slots := 0, locals := 0 } : Room) s m #[(.int p0), (.int p1)] below meth c s₁ [] 0 0 := Stand.of_body Bd
  have e0 : s₁.heap = h0 := by rw [← hh, Bd.state]; rfl
  have N0 := Fr.nil n0
  have pre0 : ∀ t, Steps p.tables e below (s₁.setTop (mkF m 0 #[.val (.int p0), .val (.int p1)] [])) t → Steps p.tables e below (s₁.setTop (entryFrame m #[(.int p0), (.int p1)] 2)) t := fun t k => castTop (ef_rm24 m p0 p1) k
  obtain ⟨fs, hr, hrun, hended, hW, hsame⟩ := X0.leave (v := some (.int (if p1 < p0 then p1 else p0))) (fun h => by rw [Bd.returns] at h; cases h)
  refine ⟨_, _, pre0 _ ?_, hrun, hended, _, _, rfl, ?_, ⟨_, rfl⟩, hW, hsame.mono (by decide) (by decide)⟩
  · refine XS.iloadN X0.here hx rfl (hb hby d24_0) rfl ?_
    refine XS.iloadN X0.here hx rfl (hb hby d24_1) rfl ?_
    by_cases hc2 : p1 < p0
    · rw [if_pos hc2] at hr
      refine XS.icmpYes X0.here hx rfl (pc0 := 2) (pc' := 9) rfl (hb hby d24_2) rfl (tlt hc2).2.2.1 (by decide) (by decide) ?_
      refine XS.iloadN X0.here hx rfl (hb hby d24_9) rfl ?_
      show Steps p.tables e below (s₁.setTop (mkF m 10 #[.val (.int p0), .val (.int p1)] [(.int p1)])) _
      exact retI X0 hx Bd.returns (hb hby d24_10) hr
    · rw [if_neg hc2] at hr
      refine XS.icmpNo X0.here hx rfl (hb hby d24_2) rfl (flt hc2).2.2.1 ?_
      refine XS.iloadN X0.here hx rfl (hb hby d24_5) rfl ?_
      refine XS.goto X0.here hx rfl (pc0 := 6) (pc' := 10) rfl (hb hby d24_6) (by decide) (by decide) ?_
      show Steps p.tables e below (s₁.setTop (mkF m 10 #[.val (.int p0), .val (.int p1)] [(.int p0)])) _
      exact retI X0 hx Bd.returns (hb hby d24_10) hr
  · show Q_rm24 Z p0 p1 h0 n0 _ s₁.heap _
    rw [e0]
    exact ⟨rfl, N0, rfl⟩
theorem d22_0 : decode jdk_43_method_4_code 0 = .ok (.iload_n 0, 1) := by decide +kernel
theorem d22_1 : decode jdk_43_method_4_code 1 = .ok (.ifCond .lt 14, 3) := by decide +kernel
theorem d22_4 : decode jdk_43_method_4_code 4 = .ok (.iload_n 0, 1) := by decide +kernel
theorem d22_5 : decode jdk_43_method_4_code 5 = .ok (.sipush 255, 3) := by decide +kernel
theorem d22_8 : decode jdk_43_method_4_code 8 = .ok (.if_icmp .gt 7, 3) := by decide +kernel
theorem d22_11 : decode jdk_43_method_4_code 11 = .ok (.iconst 1, 1) := by decide +kernel
theorem d22_12 : decode jdk_43_method_4_code 12 = .ok (.goto 4, 3) := by decide +kernel
theorem d22_15 : decode jdk_43_method_4_code 15 = .ok (.iconst 0, 1) := by decide +kernel
theorem d22_16 : decode jdk_43_method_4_code 16 = .ok (.ireturn, 1) := by decide +kernel
theorem ef_rm22 (m : MethodId) (x0 : Int32) : entryFrame m #[(.int x0)] 1 = mkF m 0 #[.val (.int x0)] [] := by first | (simp [entryFrame, mkF, argsToLocals, Value.category]; done) | rfl
def Q_rm22 (Z : State) (p0 : Int32) (h0 : Heap) (n0 : Nat) (v : Option Value) (h : Heap) (L : List Loc) : Prop := v = some (.int (if p0 < (0 : Int32) then (0 : Int32) else (if (255 : Int32) < p0 then (0 : Int32) else (1 : Int32)))) ∧ Fr n0 L ∧ h = h0
set_option maxRecDepth 65536 in
set_option maxHeartbeats 40000000 in
theorem rm22 (l : Launch) (Z : State) (a0 : Array Value) (hw : ∀ d ∈ tables_1, d.before a0 Z = true) (ws : List Jvm.Cond) (p0 : Int32) (h0 : Heap) (n0 : Nat) (Z0 : n0 ≤ h0.size) :
    MetFree l (⟨"java/lang/StringLatin1", "canEncode", "(I)Z"⟩ : MethodName) (head1 (Jvm.Cond.code (⟨"java/lang/StringLatin1", "canEncode", "(I)Z"⟩ : MethodName) jdk_43_method_4_code 1 (some .boolean) :: ws) ({ frames := 0, cells := 0, slots := 0, locals := 0 } : Room)) (fun a U => a = #[(.int p0)] ∧ Z.Warmed39 U.vm ∧ U.heap = h0) (fun _ _ _ _ _ => True) (fun _ U o U' => ∃ v L, o = .returned v ∧ Q_rm22 Z p0 h0 n0 v U'.heap L ∧ FrameEnd U o U' L ({ frames := 0, cells := 0, slots := 0, locals := 0 } : Room).cells ({ frames := 0, cells := 0, slots := 0, locals := 0 } : Room).slots) := by
  refine MetFree.of_bodySF (plainFor_of_name pn_3) hisR ?_
  intro p e s m args below meth c s₁ Bd hml0 hP hK
  obtain ⟨rfl, hZ, hh⟩ := hP
  have hx := Bd.exec
  have hby := Bd.bytes
  have hml : c.maxLocals = 1 := hml0
  have hown : s.vm.findClass "java/lang/StringLatin1" = some m.cls := findClass_of_methodNamed Bd.named
  have hnm := (name_of_methodNamed Bd.named Bd.method).1
  have X0 : Stand p l e ({ frames := 0, cells := 0, slots := 0, locals := 0 } : Room) s m #[(.int p0)] below meth c s₁ [] 0 0 := Stand.of_body Bd
  have e0 : s₁.heap = h0 := by rw [← hh, Bd.state]; rfl
  have N0 := Fr.nil n0
  have pre0 : ∀ t, Steps p.tables e below (s₁.setTop (mkF m 0 #[.val (.int p0)] [])) t → Steps p.tables e below (s₁.setTop (entryFrame m #[(.int p0)] 1)) t := fun t k => castTop (ef_rm22 m p0) k
  obtain ⟨fs, hr, hrun, hended, hW, hsame⟩ := X0.leave (v := some (.int (if p0 < (0 : Int32) then (0 : Int32) else (if (255 : Int32) < p0 then (0 : Int32) else (1 : Int32))))) (fun h => by rw [Bd.returns] at h; cases h)
  refine ⟨_, _, pre0 _ ?_, hrun, hended, _, _, rfl, ?_, ⟨_, rfl⟩, hW, hsame.mono (by decide) (by decide)⟩
  · refine XS.iloadN X0.here hx rfl (hb hby d22_0) rfl ?_
    by_cases hc1 : p0 < (0 : Int32)
    · rw [if_pos hc1] at hr
      refine XS.ifYes X0.here hx rfl (pc0 := 1) (pc' := 15) rfl (hb hby d22_1) rfl ((if0 _ _).trans (tlt hc1).1) (by decide) (by decide) ?_
      refine XS.iconst X0.here hx rfl (hb hby d22_15) ?_
      show Steps p.tables e below (s₁.setTop (mkF m 16 #[.val (.int p0)] [(.int (0 : Int32))])) _
      exact retN X0 hx (t := .boolean) Bd.returns (by simp) (hb hby d22_16) hr
    · rw [if_neg hc1] at hr
      refine XS.ifNo X0.here hx rfl (hb hby d22_1) rfl ((if0 _ _).trans (flt hc1).1) ?_
      refine XS.iloadN X0.here hx rfl (hb hby d22_4) rfl ?_
      refine XS.sipush X0.here hx rfl (hb hby d22_5) ?_
      by_cases hc8 : (255 : Int32) < p0
      · rw [if_pos hc8] at hr
        refine XS.icmpYes X0.here hx rfl (pc0 := 8) (pc' := 15) rfl (hb hby d22_8) rfl (tlt hc8).2.2.1 (by decide) (by decide) ?_
        refine XS.iconst X0.here hx rfl (hb hby d22_15) ?_
        show Steps p.tables e below (s₁.setTop (mkF m 16 #[.val (.int p0)] [(.int (0 : Int32))])) _
        exact retN X0 hx (t := .boolean) Bd.returns (by simp) (hb hby d22_16) hr
      · rw [if_neg hc8] at hr
        refine XS.icmpNo X0.here hx rfl (hb hby d22_8) rfl (flt hc8).2.2.1 ?_
        refine XS.iconst X0.here hx rfl (hb hby d22_11) ?_
        refine XS.goto X0.here hx rfl (pc0 := 12) (pc' := 16) rfl (hb hby d22_12) (by decide) (by decide) ?_
        show Steps p.tables e below (s₁.setTop (mkF m 16 #[.val (.int p0)] [(.int (1 : Int32))])) _
        exact retN X0 hx (t := .boolean) Bd.returns (by simp) (hb hby d22_16) hr
  · show Q_rm22 Z p0 h0 n0 _ s₁.heap _
    rw [e0]
    exact ⟨rfl, N0, rfl⟩
theorem d21_0 : decode jdk_43_method_22_code 0 = .ok (.iload_n 1, 1) := by decide +kernel
theorem d21_1 : decode jdk_43_method_22_code 1 = .ok (.invokestatic 88, 3) := by decide +kernel
theorem d21_4 : decode jdk_43_method_22_code 4 = .ok (.ifCond .ne 5, 3) := by decide +kernel
theorem d21_9 : decode jdk_43_method_22_code 9 = .ok (.iload_n 2, 1) := by decide +kernel
theorem d21_10 : decode jdk_43_method_22_code 10 = .ok (.iconst 0, 1) := by decide +kernel
theorem d21_11 : decode jdk_43_method_22_code 11 = .ok (.invokestatic 92, 3) := by decide +kernel
theorem d21_14 : decode jdk_43_method_22_code 14 = .ok (.istore_n 2, 1) := by decide +kernel
theorem d21_15 : decode jdk_43_method_22_code 15 = .ok (.iload_n 3, 1) := by decide +kernel
theorem d21_16 : decode jdk_43_method_22_code 16 = .ok (.aload_n 0, 1) := by decide +kernel
theorem d21_17 : decode jdk_43_method_22_code 17 = .ok (.arraylength, 1) := by decide +kernel
theorem d21_18 : decode jdk_43_method_22_code 18 = .ok (.invokestatic 38, 3) := by decide +kernel
theorem d21_21 : decode jdk_43_method_22_code 21 = .ok (.istore_n 3, 1) := by decide +kernel
theorem d21_22 : decode jdk_43_method_22_code 22 = .ok (.iload_n 2, 1) := by decide +kernel
theorem d21_23 : decode jdk_43_method_22_code 23 = .ok (.iload_n 3, 1) := by decide +kernel
theorem d21_24 : decode jdk_43_method_22_code 24 = .ok (.if_icmp .lt 5, 3) := by decide +kernel
theorem d21_27 : decode jdk_43_method_22_code 27 = .ok (.iconst (-1), 1) := by decide +kernel
theorem d21_28 : decode jdk_43_method_22_code 28 = .ok (.ireturn, 1) := by decide +kernel
theorem d21_29 : decode jdk_43_method_22_code 29 = .ok (.aload_n 0, 1) := by decide +kernel
theorem d21_30 : decode jdk_43_method_22_code 30 = .ok (.iload_n 1, 1) := by decide +kernel
theorem d21_31 : decode jdk_43_method_22_code 31 = .ok (.iload_n 2, 1) := by decide +kernel
theorem d21_32 : decode jdk_43_method_22_code 32 = .ok (.iload_n 3, 1) := by decide +kernel
theorem d21_33 : decode jdk_43_method_22_code 33 = .ok (.invokestatic 95, 3) := by decide +kernel
theorem d21_36 : decode jdk_43_method_22_code 36 = .ok (.ireturn, 1) := by decide +kernel
theorem ef_rmAio1_L4 (m : MethodId) (x0 : Addr) (x1 : Int32) (x2 : Int32) (x3 : Int32) : entryFrame m #[(.ref x0), (.int x1), (.int x2), (.int x3)] 4 = mkF m 0 #[.val (.ref x0), .val (.int x1), .val (.int x2), .val (.int x3)] [] := by first | (simp [entryFrame, mkF, argsToLocals, Value.category]; done) | rfl
def Q_rmAio1_L4 (Z : State) (r0 : Addr) (cs : Int32) (fm : Value) (ky : ClassId) (c0 : Int32) (c1 : Int32) (c2 : Int32) (c3 : Int32) (h0 : Heap) (n0 : Nat) (v : Option Value) (h : Heap) (L : List Loc) : Prop := ∃ z : Int32, (z < 0 ↔ ¬ (c1 = 44 ∨ c2 = 44 ∨ c3 = 44 ∨ False)) ∧ v = some (.int z) ∧ Fr n0 L ∧ h = h0
set_option maxRecDepth 65536 in
set_option maxHeartbeats 40000000 in
theorem rmAio1_L4 (l : Launch) (Z : State) (a0 : Array Value) (hw : ∀ d ∈ tables_1, d.before a0 Z = true) (ws : List Jvm.Cond) (r0 : Addr) (cs : Int32) (fm : Value) (ky : ClassId) (c0 : Int32) (c1 : Int32) (c2 : Int32) (c3 : Int32) (h0 : Heap) (n0 : Nat) (Z0 : n0 ≤ h0.size) (SB : own_St Z cs fm) (Od : Old Z n0 h0) (Vy : Arv Z h0 r0 ky .byte (4 : Int32) [(.int (c0.toInt8.toInt32)), (.int (c1.toInt8.toInt32)), (.int (c2.toInt8.toInt32)), (.int (c3.toInt8.toInt32))] (.int (0 : Int32))) (hc1_ : 0 ≤ c1.toInt ∧ c1.toInt < 256) (hc2_ : 0 ≤ c2.toInt ∧ c2.toInt < 256) (hc3_ : 0 ≤ c3.toInt ∧ c3.toInt < 256) :
    MetFree l (⟨"java/lang/StringLatin1", "indexOf", "([BIII)I"⟩ : MethodName) (head1 (Jvm.Cond.code (⟨"java/lang/StringLatin1", "indexOf", "([BIII)I"⟩ : MethodName) jdk_43_method_22_code 4 (some .int) :: ws) ({ frames := 1, cells := 0, slots := 0, locals := 17 } : Room)) (fun a U => a = #[(.ref r0), (.int (44 : Int32)), (.int (1 : Int32)), (.int (4 : Int32))] ∧ Z.Warmed39 U.vm ∧ U.heap = h0) (fun _ _ _ _ _ => True) (fun _ U o U' => ∃ v L, o = .returned v ∧ Q_rmAio1_L4 Z r0 cs fm ky c0 c1 c2 c3 h0 n0 v U'.heap L ∧ FrameEnd U o U' L ({ frames := 1, cells := 0, slots := 0, locals := 17 } : Room).cells ({ frames := 1, cells := 0, slots := 0, locals := 17 } : Room).slots) := by
  refine MetFree.of_bodySF (plainFor_of_name pn_3) hisR ?_
  intro p e s m args below meth c s₁ Bd hml0 hP hK
  obtain ⟨rfl, hZ, hh⟩ := hP
  have hx := Bd.exec
  have hby := Bd.bytes
  have hml : c.maxLocals = 4 := hml0
  have hown : s.vm.findClass "java/lang/StringLatin1" = some m.cls := findClass_of_methodNamed Bd.named
  have hnm := (name_of_methodNamed Bd.named Bd.method).1
  have X0 : Stand p l e ({ frames := 1, cells := 0, slots := 0, locals := 17 } : Room) s m #[(.ref r0), (.int (44 : Int32)), (.int (1 : Int32)), (.int (4 : Int32))] below meth c s₁ [] 0 0 := Stand.of_body Bd
  have e0 : s₁.heap = h0 := by rw [← hh, Bd.state]; rfl
  have N0 := Fr.nil n0
  have pre0 : ∀ t, Steps p.tables e below (s₁.setTop (mkF m 0 #[.val (.ref r0), .val (.int (44 : Int32)), .val (.int (1 : Int32)), .val (.int (4 : Int32))] [])) t → Steps p.tables e below (s₁.setTop (entryFrame m #[(.ref r0), (.int (44 : Int32)), (.int (1 : Int32)), (.int (4 : Int32))] 4)) t := fun t k => castTop (ef_rmAio1_L4 m r0 (44 : Int32) (1 : Int32) (4 : Int32)) k
  have st1 : own_S p e below s₁ (mkF m 1 #[.val (.ref r0), .val (.int (44 : Int32)), .val (.int (1 : Int32)), .val (.int (4 : Int32))] [(.int (44 : Int32))]) (mkF m 0 #[.val (.ref r0), .val (.int (44 : Int32)), .val (.int (1 : Int32)), .val (.int (4 : Int32))] []) := by
    intro target kt
    refine XS.iloadN X0.here hx rfl (hb hby d21_0) rfl ?_
    exact kt
  obtain ⟨_, _, ⟨T2, L2, k2, n2⟩, -, X2, ⟨Lc2, hQ2, l2, y2, z2⟩, st2⟩ := Jvm.LawKit.callS X0 hx (y := (⟨"java/lang/StringLatin1", "canEncode", "(I)Z"⟩ : MethodName)) hown (mvT hZ (own_w hw 114 rfl)) (mvT hZ (own_w hw 115 rfl)) (mvT hZ (own_w hw 86 rfl)) (mvT hZ (own_w hw 116 rfl)) (by decide) (backOf (W := 0) (rm22 l Z a0 hw [] (44 : Int32)  h0 n0 Z0 ) hZ (own_w hw 116 rfl) (own_w hw 86 rfl) (by decide) (by decide)) (g := (mkF m 1 #[.val (.ref r0), .val (.int (44 : Int32)), .val (.int (1 : Int32)), .val (.int (4 : Int32))] [(.int (44 : Int32))])) rfl (by rw [hml]; rfl) (argsL := [(.int (44 : Int32))]) (rest := []) (lenOf pd_19 rfl) rfl (by show 2 * 0 + _ ≤ _; exact Nat.le_of_eq rfl) (hb hby d21_1) (fun _ _ => ⟨rfl, e0, (by decide : 0 + 0 ≤ _), (by decide : 0 + 0 ≤ _)⟩)
  dsimp only [Pt.U, Pt.locs, Pt.cells, Pt.slots] at X2 l2 y2 z2 st2 hQ2
  subst l2 y2 z2
  obtain ⟨rfl, Nq2, e2⟩ := hQ2
  have N2 := Fr.app N0 Nq2
  rw [if_neg (by decide), if_neg (by decide)] at st2
  have st3 : own_S p e below T2 (mkF m 11 #[.val (.ref r0), .val (.int (44 : Int32)), .val (.int (1 : Int32)), .val (.int (4 : Int32))] [(.int (0 : Int32)), (.int (1 : Int32))]) (mkF m 4 #[.val (.ref r0), .val (.int (44 : Int32)), .val (.int (1 : Int32)), .val (.int (4 : Int32))] [(.int (1 : Int32))]) := by
    intro target kt
    refine XS.ifYes X2.here hx rfl (pc0 := 4) (pc' := 9) rfl (hb hby d21_4) rfl ((if0 _ _).trans (feq (by decide : ¬ ((1 : Int32) = (0 : Int32)))).2) (by decide) (by decide) ?_
    refine XS.iloadN X2.here hx rfl (hb hby d21_9) rfl ?_
    refine XS.iconst X2.here hx rfl (hb hby d21_10) ?_
    exact kt
  obtain ⟨_, _, ⟨T4, L4, k4, n4⟩, -, X4, ⟨Lc4, hQ4, l4, y4, z4⟩, st4⟩ := Jvm.LawKit.callS X2 hx (y := (⟨"java/lang/Math", "max", "(II)I"⟩ : MethodName)) hown (mvT hZ (own_w hw 117 rfl)) (mvT hZ (own_w hw 118 rfl)) (mvT hZ (own_w hw 119 rfl)) (mvT hZ (own_w hw 120 rfl)) (by decide) (backOf (W := 0) (rm23 l Z a0 hw [] (1 : Int32) (0 : Int32)  h0 n0 Z0 ) hZ (own_w hw 120 rfl) (own_w hw 119 rfl) (by decide) (by decide)) (g := (mkF m 11 #[.val (.ref r0), .val (.int (44 : Int32)), .val (.int (1 : Int32)), .val (.int (4 : Int32))] [(.int (0 : Int32)), (.int (1 : Int32))])) rfl (by rw [hml]; rfl) (argsL := [(.int (1 : Int32)), (.int (0 : Int32))]) (rest := []) (lenOf pd_17 rfl) rfl (by show 2 * 0 + _ ≤ _; exact Nat.le_of_eq rfl) (hb hby d21_11) (fun _ _ => ⟨rfl, e2, (by decide : 0 + 0 ≤ _), (by decide : 0 + 0 ≤ _)⟩)
  dsimp only [Pt.U, Pt.locs, Pt.cells, Pt.slots] at X4 l4 y4 z4 st4 hQ4
  subst l4 y4 z4
  obtain ⟨rfl, Nq4, e4⟩ := hQ4
  have N4 := Fr.app N2 Nq4
  rw [if_neg (by decide)] at st4
  have st5 : own_S p e below T4 (mkF m 17 #[.val (.ref r0), .val (.int (44 : Int32)), .val (.int (1 : Int32)), .val (.int (4 : Int32))] [(.ref r0), (.int (4 : Int32))]) (mkF m 14 #[.val (.ref r0), .val (.int (44 : Int32)), .val (.int (1 : Int32)), .val (.int (4 : Int32))] [(.int (1 : Int32))]) := by
    intro target kt
    refine XS.istoreN X4.here hx rfl (hb hby d21_14) rfl (l' := #[.val (.ref r0), .val (.int (44 : Int32)), .val (.int (1 : Int32)), .val (.int (4 : Int32))]) rfl ?_
    refine XS.iloadN X4.here hx rfl (hb hby d21_15) rfl ?_
    refine XS.aloadN X4.here hx rfl (hb hby d21_16) rfl rfl ?_
    exact kt
  obtain ⟨cl6, Ar6, qc6, Sz6, Mn6, Hs6, Gs6⟩ := id Vy
  have st6 : own_S p e below T4 (mkF m 18 #[.val (.ref r0), .val (.int (44 : Int32)), .val (.int (1 : Int32)), .val (.int (4 : Int32))] [(.int (4 : Int32)), (.int (4 : Int32))]) (mkF m 17 #[.val (.ref r0), .val (.int (44 : Int32)), .val (.int (1 : Int32)), .val (.int (4 : Int32))] [(.ref r0), (.int (4 : Int32))]) := fun target kt => X4.arraylength hx (cell := cl6) (by rw [e4]; exact Ar6.1) (State.isArrayOf_alike hZ.alike Ar6.2.1) (g := (mkF m 17 #[.val (.ref r0), .val (.int (44 : Int32)), .val (.int (1 : Int32)), .val (.int (4 : Int32))] [(.ref r0), (.int (4 : Int32))])) rfl rfl (hb hby d21_17) _ (by rw [len_of Sz6 Mn6]; exact kt)
  obtain ⟨_, _, ⟨T7, L7, k7, n7⟩, -, X7, ⟨Lc7, hQ7, l7, y7, z7⟩, st7⟩ := Jvm.LawKit.callS X4 hx (y := (⟨"java/lang/Math", "min", "(II)I"⟩ : MethodName)) hown (mvT hZ (own_w hw 121 rfl)) (mvT hZ (own_w hw 122 rfl)) (mvT hZ (own_w hw 119 rfl)) (mvT hZ (own_w hw 123 rfl)) (by decide) (backOf (W := 0) (rm24 l Z a0 hw [] (4 : Int32) (4 : Int32)  h0 n0 Z0 ) hZ (own_w hw 123 rfl) (own_w hw 119 rfl) (by decide) (by decide)) (g := (mkF m 18 #[.val (.ref r0), .val (.int (44 : Int32)), .val (.int (1 : Int32)), .val (.int (4 : Int32))] [(.int (4 : Int32)), (.int (4 : Int32))])) rfl (by rw [hml]; rfl) (argsL := [(.int (4 : Int32)), (.int (4 : Int32))]) (rest := []) (lenOf pd_17 rfl) rfl (by show 2 * 0 + _ ≤ _; exact Nat.le_of_eq rfl) (hb hby d21_18) (fun _ _ => ⟨rfl, e4, (by decide : 0 + 0 ≤ _), (by decide : 0 + 0 ≤ _)⟩)
  dsimp only [Pt.U, Pt.locs, Pt.cells, Pt.slots] at X7 l7 y7 z7 st7 hQ7
  subst l7 y7 z7
  obtain ⟨rfl, Nq7, e7⟩ := hQ7
  have N7 := Fr.app N4 Nq7
  rw [if_neg (by decide)] at st7
  have st8 : own_S p e below T7 (mkF m 33 #[.val (.ref r0), .val (.int (44 : Int32)), .val (.int (1 : Int32)), .val (.int (4 : Int32))] [(.int (4 : Int32)), (.int (1 : Int32)), (.int (44 : Int32)), (.ref r0)]) (mkF m 21 #[.val (.ref r0), .val (.int (44 : Int32)), .val (.int (1 : Int32)), .val (.int (4 : Int32))] [(.int (4 : Int32))]) := by
    intro target kt
    refine XS.istoreN X7.here hx rfl (hb hby d21_21) rfl (l' := #[.val (.ref r0), .val (.int (44 : Int32)), .val (.int (1 : Int32)), .val (.int (4 : Int32))]) rfl ?_
    refine XS.iloadN X7.here hx rfl (hb hby d21_22) rfl ?_
    refine XS.iloadN X7.here hx rfl (hb hby d21_23) rfl ?_
    refine XS.icmpYes X7.here hx rfl (pc0 := 24) (pc' := 29) rfl (hb hby d21_24) rfl (tlt (by decide : ((1 : Int32) < (4 : Int32)))).1 (by decide) (by decide) ?_
    refine XS.aloadN X7.here hx rfl (hb hby d21_29) rfl rfl ?_
    refine XS.iloadN X7.here hx rfl (hb hby d21_30) rfl ?_
    refine XS.iloadN X7.here hx rfl (hb hby d21_31) rfl ?_
    refine XS.iloadN X7.here hx rfl (hb hby d21_32) rfl ?_
    exact kt
  obtain ⟨_, _, ⟨T9, L9, k9, n9⟩, -, X9, ⟨Lc9, hQ9, l9, y9, z9⟩, st9⟩ := Jvm.LawKit.callS X7 hx (y := (⟨"java/lang/StringLatin1", "indexOfChar", "([BIII)I"⟩ : MethodName)) hown (mvT hZ (own_w hw 124 rfl)) (mvT hZ (own_w hw 125 rfl)) (mvT hZ (own_w hw 86 rfl)) (mvT hZ (own_w hw 126 rfl)) (by decide) (backOf (W := 0) (rmIx1_L4 l Z a0 hw [] r0 cs fm ky c0 c1 c2 c3 h0 n0 Z0 SB Od Vy hc1_ hc2_ hc3_) hZ (own_w hw 126 rfl) (own_w hw 86 rfl) (by decide) (by decide)) (g := (mkF m 33 #[.val (.ref r0), .val (.int (44 : Int32)), .val (.int (1 : Int32)), .val (.int (4 : Int32))] [(.int (4 : Int32)), (.int (1 : Int32)), (.int (44 : Int32)), (.ref r0)])) rfl (by rw [hml]; rfl) (argsL := [(.ref r0), (.int (44 : Int32)), (.int (1 : Int32)), (.int (4 : Int32))]) (rest := []) (lenOf pd_18 rfl) rfl (by show 2 * 0 + _ ≤ _; exact Nat.le_of_eq rfl) (hb hby d21_33) (fun _ _ => ⟨rfl, e7, (by decide : 0 + 0 ≤ _), (by decide : 0 + 0 ≤ _)⟩)
  dsimp only [Pt.U, Pt.locs, Pt.cells, Pt.slots] at X9 l9 y9 z9 st9 hQ9
  subst l9 y9 z9
  obtain ⟨z9, hz9, rfl, Nq9, e9⟩ := hQ9
  have N9 := Fr.app N7 Nq9
  obtain ⟨fs, hr, hrun, hended, hW, hsame⟩ := X9.leave (v := some (.int z9)) (fun h => by rw [Bd.returns] at h; cases h)
  refine ⟨_, _, pre0 _ (st1 _ (st2 _ (st3 _ (st4 _ (st5 _ (st6 _ (st7 _ (st8 _ (st9 _ ?_))))))))), hrun, hended, _, _, rfl, ?_, ⟨_, rfl⟩, hW, hsame.mono (by decide) (by decide)⟩
  · show Steps p.tables e below (T9.setTop (mkF m 36 #[.val (.ref r0), .val (.int (44 : Int32)), .val (.int (1 : Int32)), .val (.int (4 : Int32))] [(.int z9)])) _
    exact retI X9 hx Bd.returns (hb hby d21_36) hr
  · show Q_rmAio1_L4 Z r0 cs fm ky c0 c1 c2 c3 h0 n0 _ T9.heap _
    rw [e9]
    exact ⟨_, hz9, rfl, N9, rfl⟩
theorem ef_rmIx2_L4 (m : MethodId) (x0 : Addr) (x1 : Int32) (x2 : Int32) (x3 : Int32) : entryFrame m #[(.ref x0), (.int x1), (.int x2), (.int x3)] 6 = mkF m 0 #[.val (.ref x0), .val (.int x1), .val (.int x2), .val (.int x3), .unset, .unset] [] := by first | (simp [entryFrame, mkF, argsToLocals, Value.category]; done) | rfl
def Q_rmIx2_L4 (Z : State) (r0 : Addr) (cs : Int32) (fm : Value) (ky : ClassId) (c0 : Int32) (c1 : Int32) (c2 : Int32) (c3 : Int32) (h0 : Heap) (n0 : Nat) (v : Option Value) (h : Heap) (L : List Loc) : Prop := ∃ z : Int32, (z < 0 ↔ ¬ (c2 = 44 ∨ c3 = 44 ∨ False)) ∧ v = some (.int z) ∧ Fr n0 L ∧ h = h0
set_option maxRecDepth 65536 in
set_option maxHeartbeats 40000000 in
theorem rmIx2_L4 (l : Launch) (Z : State) (a0 : Array Value) (hw : ∀ d ∈ tables_1, d.before a0 Z = true) (ws : List Jvm.Cond) (r0 : Addr) (cs : Int32) (fm : Value) (ky : ClassId) (c0 : Int32) (c1 : Int32) (c2 : Int32) (c3 : Int32) (h0 : Heap) (n0 : Nat) (Z0 : n0 ≤ h0.size) (SB : own_St Z cs fm) (Od : Old Z n0 h0) (Vy : Arv Z h0 r0 ky .byte (4 : Int32) [(.int (c0.toInt8.toInt32)), (.int (c1.toInt8.toInt32)), (.int (c2.toInt8.toInt32)), (.int (c3.toInt8.toInt32))] (.int (0 : Int32))) (hc2_ : 0 ≤ c2.toInt ∧ c2.toInt < 256) (hc3_ : 0 ≤ c3.toInt ∧ c3.toInt < 256) :
    MetFree l (⟨"java/lang/StringLatin1", "indexOfChar", "([BIII)I"⟩ : MethodName) (head1 (Jvm.Cond.code (⟨"java/lang/StringLatin1", "indexOfChar", "([BIII)I"⟩ : MethodName) jdk_43_method_23_code 6 (some .int) :: ws) ({ frames := 0, cells := 0, slots := 0, locals := 0 } : Room)) (fun a U => a = #[(.ref r0), (.int (44 : Int32)), (.int (2 : Int32)), (.int (4 : Int32))] ∧ Z.Warmed39 U.vm ∧ U.heap = h0) (fun _ _ _ _ _ => True) (fun _ U o U' => ∃ v L, o = .returned v ∧ Q_rmIx2_L4 Z r0 cs fm ky c0 c1 c2 c3 h0 n0 v U'.heap L ∧ FrameEnd U o U' L ({ frames := 0, cells := 0, slots := 0, locals := 0 } : Room).cells ({ frames := 0, cells := 0, slots := 0, locals := 0 } : Room).slots) := by
  refine MetFree.of_bodySF (plainFor_of_name pn_3) hisR ?_
  intro p e s m args below meth c s₁ Bd hml0 hP hK
  obtain ⟨rfl, hZ, hh⟩ := hP
  have hx := Bd.exec
  have hby := Bd.bytes
  have hml : c.maxLocals = 6 := hml0
  have hown : s.vm.findClass "java/lang/StringLatin1" = some m.cls := findClass_of_methodNamed Bd.named
  have hnm := (name_of_methodNamed Bd.named Bd.method).1
  have X0 : Stand p l e ({ frames := 0, cells := 0, slots := 0, locals := 0 } : Room) s m #[(.ref r0), (.int (44 : Int32)), (.int (2 : Int32)), (.int (4 : Int32))] below meth c s₁ [] 0 0 := Stand.of_body Bd
  have e0 : s₁.heap = h0 := by rw [← hh, Bd.state]; rfl
  have N0 := Fr.nil n0
  have pre0 : ∀ t, Steps p.tables e below (s₁.setTop (mkF m 0 #[.val (.ref r0), .val (.int (44 : Int32)), .val (.int (2 : Int32)), .val (.int (4 : Int32)), .unset, .unset] [])) t → Steps p.tables e below (s₁.setTop (entryFrame m #[(.ref r0), (.int (44 : Int32)), (.int (2 : Int32)), (.int (4 : Int32))] 6)) t := fun t k => castTop (ef_rmIx2_L4 m r0 (44 : Int32) (2 : Int32) (4 : Int32)) k
  have st1 : own_S p e below s₁ (mkF m 16 #[.val (.ref r0), .val (.int (44 : Int32)), .val (.int (2 : Int32)), .val (.int (4 : Int32)), .val (.int (44 : Int32)), .val (.int (2 : Int32))] [(.int (2 : Int32)), (.ref r0)]) (mkF m 0 #[.val (.ref r0), .val (.int (44 : Int32)), .val (.int (2 : Int32)), .val (.int (4 : Int32)), .unset, .unset] []) := by
    intro target kt
    refine XS.iloadN X0.here hx rfl (hb hby d25_0) rfl ?_
    refine XS.i2b X0.here hx rfl (hb hby d25_1) rfl ?_
    refine XS.istore X0.here hx rfl (hb hby d25_2) rfl (l' := #[.val (.ref r0), .val (.int (44 : Int32)), .val (.int (2 : Int32)), .val (.int (4 : Int32)), .val (.int (44 : Int32)), .unset]) rfl ?_
    refine XS.iloadN X0.here hx rfl (hb hby d25_4) rfl ?_
    refine XS.istore X0.here hx rfl (hb hby d25_5) rfl (l' := #[.val (.ref r0), .val (.int (44 : Int32)), .val (.int (2 : Int32)), .val (.int (4 : Int32)), .val (.int (44 : Int32)), .val (.int (2 : Int32))]) rfl ?_
    refine XS.iload X0.here hx rfl (hb hby d25_7) rfl ?_
    refine XS.iloadN X0.here hx rfl (hb hby d25_9) rfl ?_
    refine XS.icmpNo X0.here hx rfl (hb hby d25_10) rfl (tlt (by decide : ((2 : Int32) < (4 : Int32)))).2.1 ?_
    refine XS.aloadN X0.here hx rfl (hb hby d25_13) rfl rfl ?_
    refine XS.iload X0.here hx rfl (hb hby d25_14) rfl ?_
    exact kt
  obtain ⟨cl2, Ar2, qc2, Sz2, Mn2, Hs2, Gs2⟩ := id Vy
  have hin2 : ¬ ((2 : Int32) < 0 ∨ cl2.slots.size ≤ ((2 : Int32)).toNatClampNeg) := inb_of Sz2 ⟨by decide, by decide⟩
  have hat2 : cl2.slots[((2 : Int32)).toNatClampNeg]? = some (.int (c2.toInt8.toInt32)) := Hs2.at hin2 rfl
  have st2 : own_S p e below s₁ (mkF m 17 #[.val (.ref r0), .val (.int (44 : Int32)), .val (.int (2 : Int32)), .val (.int (4 : Int32)), .val (.int (44 : Int32)), .val (.int (2 : Int32))] [(.int (c2.toInt8.toInt32))]) (mkF m 16 #[.val (.ref r0), .val (.int (44 : Int32)), .val (.int (2 : Int32)), .val (.int (4 : Int32)), .val (.int (44 : Int32)), .val (.int (2 : Int32))] [(.int (2 : Int32)), (.ref r0)]) := fun target kt => X0.baloadBytes hx (j := (2 : Int32)) (v := (.int (c2.toInt8.toInt32))) (by rw [e0]; exact Ar2.1) (State.isArrayOf_alike hZ.alike Ar2.2.1) Ar2.2.2 hin2 hat2 (g := (mkF m 16 #[.val (.ref r0), .val (.int (44 : Int32)), .val (.int (2 : Int32)), .val (.int (4 : Int32)), .val (.int (44 : Int32)), .val (.int (2 : Int32))] [(.int (2 : Int32)), (.ref r0)])) rfl rfl (hb hby d25_16) _ kt
  have st3 : own_S p e below s₁ (mkF m 19 #[.val (.ref r0), .val (.int (44 : Int32)), .val (.int (2 : Int32)), .val (.int (4 : Int32)), .val (.int (44 : Int32)), .val (.int (2 : Int32))] [(.int (44 : Int32)), (.int (c2.toInt8.toInt32))]) (mkF m 17 #[.val (.ref r0), .val (.int (44 : Int32)), .val (.int (2 : Int32)), .val (.int (4 : Int32)), .val (.int (44 : Int32)), .val (.int (2 : Int32))] [(.int (c2.toInt8.toInt32))]) := by
    intro target kt
    refine XS.iload X0.here hx rfl (hb hby d25_17) rfl ?_
    exact kt
  by_cases m2 : (c2.toInt8.toInt32) = (44 : Int32)
  · have st4 : own_S p e below s₁ (mkF m 22 #[.val (.ref r0), .val (.int (44 : Int32)), .val (.int (2 : Int32)), .val (.int (4 : Int32)), .val (.int (44 : Int32)), .val (.int (2 : Int32))] []) (mkF m 19 #[.val (.ref r0), .val (.int (44 : Int32)), .val (.int (2 : Int32)), .val (.int (4 : Int32)), .val (.int (44 : Int32)), .val (.int (2 : Int32))] [(.int (44 : Int32)), (.int (c2.toInt8.toInt32))]) := by
      intro target kt
      refine XS.icmpNo X0.here hx rfl (hb hby d25_19) rfl (teq m2).2 ?_
      exact kt
    have m2' := (own_b44 hc2_.1 hc2_.2).mp m2
    obtain ⟨fs, hr, hrun, hended, hW, hsame⟩ := X0.leave (v := some (.int (2 : Int32))) (fun h => by rw [Bd.returns] at h; cases h)
    refine ⟨_, _, pre0 _ (st1 _ (st2 _ (st3 _ (st4 _ ?_)))), hrun, hended, _, _, rfl, ?_, ⟨_, rfl⟩, hW, hsame.mono (by decide) (by decide)⟩
    · refine XS.iload X0.here hx rfl (hb hby d25_22) rfl ?_
      show Steps p.tables e below (s₁.setTop (mkF m 24 #[.val (.ref r0), .val (.int (44 : Int32)), .val (.int (2 : Int32)), .val (.int (4 : Int32)), .val (.int (44 : Int32)), .val (.int (2 : Int32))] [(.int (2 : Int32))])) _
      exact retI X0 hx Bd.returns (hb hby d25_24) hr
    · show Q_rmIx2_L4 Z r0 cs fm ky c0 c1 c2 c3 h0 n0 _ s₁.heap _
      rw [e0]
      exact ⟨_, iff_of_false (by decide) (by simp [m2']), rfl, N0, rfl⟩
  · have st5 : own_S p e below s₁ (mkF m 25 #[.val (.ref r0), .val (.int (44 : Int32)), .val (.int (2 : Int32)), .val (.int (4 : Int32)), .val (.int (44 : Int32)), .val (.int (2 : Int32))] []) (mkF m 19 #[.val (.ref r0), .val (.int (44 : Int32)), .val (.int (2 : Int32)), .val (.int (4 : Int32)), .val (.int (44 : Int32)), .val (.int (2 : Int32))] [(.int (44 : Int32)), (.int (c2.toInt8.toInt32))]) := by
      intro target kt
      refine XS.icmpYes X0.here hx rfl (pc0 := 19) (pc' := 25) rfl (hb hby d25_19) rfl (feq m2).2 (by decide) (by decide) ?_
      exact kt
    have m2' : ¬ c2 = 44 := fun q => m2 ((own_b44 hc2_.1 hc2_.2).mpr q)
    have st6 : own_S p e below s₁ (mkF m 16 #[.val (.ref r0), .val (.int (44 : Int32)), .val (.int (2 : Int32)), .val (.int (4 : Int32)), .val (.int (44 : Int32)), .val (.int (3 : Int32))] [(.int (3 : Int32)), (.ref r0)]) (mkF m 25 #[.val (.ref r0), .val (.int (44 : Int32)), .val (.int (2 : Int32)), .val (.int (4 : Int32)), .val (.int (44 : Int32)), .val (.int (2 : Int32))] []) := by
      intro target kt
      refine XS.iinc X0.here hx rfl (hb hby d25_25) rfl (l' := #[.val (.ref r0), .val (.int (44 : Int32)), .val (.int (2 : Int32)), .val (.int (4 : Int32)), .val (.int (44 : Int32)), .val (.int (3 : Int32))]) rfl ?_
      refine XS.goto X0.here hx rfl (pc0 := 28) (pc' := 7) rfl (hb hby d25_28) (by decide) (by decide) ?_
      refine XS.iload X0.here hx rfl (hb hby d25_7) rfl ?_
      refine XS.iloadN X0.here hx rfl (hb hby d25_9) rfl ?_
      refine XS.icmpNo X0.here hx rfl (hb hby d25_10) rfl (tlt (by decide : ((3 : Int32) < (4 : Int32)))).2.1 ?_
      refine XS.aloadN X0.here hx rfl (hb hby d25_13) rfl rfl ?_
      refine XS.iload X0.here hx rfl (hb hby d25_14) rfl ?_
      exact kt
    obtain ⟨cl7, Ar7, qc7, Sz7, Mn7, Hs7, Gs7⟩ := id Vy
    have hin7 : ¬ ((3 : Int32) < 0 ∨ cl7.slots.size ≤ ((3 : Int32)).toNatClampNeg) := inb_of Sz7 ⟨by decide, by decide⟩
    have hat7 : cl7.slots[((3 : Int32)).toNatClampNeg]? = some (.int (c3.toInt8.toInt32)) := Hs7.at hin7 rfl
    have st7 : own_S p e below s₁ (mkF m 17 #[.val (.ref r0), .val (.int (44 : Int32)), .val (.int (2 : Int32)), .val (.int (4 : Int32)), .val (.int (44 : Int32)), .val (.int (3 : Int32))] [(.int (c3.toInt8.toInt32))]) (mkF m 16 #[.val (.ref r0), .val (.int (44 : Int32)), .val (.int (2 : Int32)), .val (.int (4 : Int32)), .val (.int (44 : Int32)), .val (.int (3 : Int32))] [(.int (3 : Int32)), (.ref r0)]) := fun target kt => X0.baloadBytes hx (j := (3 : Int32)) (v := (.int (c3.toInt8.toInt32))) (by rw [e0]; exact Ar7.1) (State.isArrayOf_alike hZ.alike Ar7.2.1) Ar7.2.2 hin7 hat7 (g := (mkF m 16 #[.val (.ref r0), .val (.int (44 : Int32)), .val (.int (2 : Int32)), .val (.int (4 : Int32)), .val (.int (44 : Int32)), .val (.int (3 : Int32))] [(.int (3 : Int32)), (.ref r0)])) rfl rfl (hb hby d25_16) _ kt
    have st8 : own_S p e below s₁ (mkF m 19 #[.val (.ref r0), .val (.int (44 : Int32)), .val (.int (2 : Int32)), .val (.int (4 : Int32)), .val (.int (44 : Int32)), .val (.int (3 : Int32))] [(.int (44 : Int32)), (.int (c3.toInt8.toInt32))]) (mkF m 17 #[.val (.ref r0), .val (.int (44 : Int32)), .val (.int (2 : Int32)), .val (.int (4 : Int32)), .val (.int (44 : Int32)), .val (.int (3 : Int32))] [(.int (c3.toInt8.toInt32))]) := by
      intro target kt
      refine XS.iload X0.here hx rfl (hb hby d25_17) rfl ?_
      exact kt
    by_cases m3 : (c3.toInt8.toInt32) = (44 : Int32)
    · have st9 : own_S p e below s₁ (mkF m 22 #[.val (.ref r0), .val (.int (44 : Int32)), .val (.int (2 : Int32)), .val (.int (4 : Int32)), .val (.int (44 : Int32)), .val (.int (3 : Int32))] []) (mkF m 19 #[.val (.ref r0), .val (.int (44 : Int32)), .val (.int (2 : Int32)), .val (.int (4 : Int32)), .val (.int (44 : Int32)), .val (.int (3 : Int32))] [(.int (44 : Int32)), (.int (c3.toInt8.toInt32))]) := by
        intro target kt
        refine XS.icmpNo X0.here hx rfl (hb hby d25_19) rfl (teq m3).2 ?_
        exact kt
      have m3' := (own_b44 hc3_.1 hc3_.2).mp m3
      obtain ⟨fs, hr, hrun, hended, hW, hsame⟩ := X0.leave (v := some (.int (3 : Int32))) (fun h => by rw [Bd.returns] at h; cases h)
      refine ⟨_, _, pre0 _ (st1 _ (st2 _ (st3 _ (st5 _ (st6 _ (st7 _ (st8 _ (st9 _ ?_)))))))), hrun, hended, _, _, rfl, ?_, ⟨_, rfl⟩, hW, hsame.mono (by decide) (by decide)⟩
      · refine XS.iload X0.here hx rfl (hb hby d25_22) rfl ?_
        show Steps p.tables e below (s₁.setTop (mkF m 24 #[.val (.ref r0), .val (.int (44 : Int32)), .val (.int (2 : Int32)), .val (.int (4 : Int32)), .val (.int (44 : Int32)), .val (.int (3 : Int32))] [(.int (3 : Int32))])) _
        exact retI X0 hx Bd.returns (hb hby d25_24) hr
      · show Q_rmIx2_L4 Z r0 cs fm ky c0 c1 c2 c3 h0 n0 _ s₁.heap _
        rw [e0]
        exact ⟨_, iff_of_false (by decide) (by simp [m3']), rfl, N0, rfl⟩
    · have st10 : own_S p e below s₁ (mkF m 25 #[.val (.ref r0), .val (.int (44 : Int32)), .val (.int (2 : Int32)), .val (.int (4 : Int32)), .val (.int (44 : Int32)), .val (.int (3 : Int32))] []) (mkF m 19 #[.val (.ref r0), .val (.int (44 : Int32)), .val (.int (2 : Int32)), .val (.int (4 : Int32)), .val (.int (44 : Int32)), .val (.int (3 : Int32))] [(.int (44 : Int32)), (.int (c3.toInt8.toInt32))]) := by
        intro target kt
        refine XS.icmpYes X0.here hx rfl (pc0 := 19) (pc' := 25) rfl (hb hby d25_19) rfl (feq m3).2 (by decide) (by decide) ?_
        exact kt
      have m3' : ¬ c3 = 44 := fun q => m3 ((own_b44 hc3_.1 hc3_.2).mpr q)
      have st11 : own_S p e below s₁ (mkF m 32 #[.val (.ref r0), .val (.int (44 : Int32)), .val (.int (2 : Int32)), .val (.int (4 : Int32)), .val (.int (44 : Int32)), .val (.int (4 : Int32))] [(.int (-1 : Int32))]) (mkF m 25 #[.val (.ref r0), .val (.int (44 : Int32)), .val (.int (2 : Int32)), .val (.int (4 : Int32)), .val (.int (44 : Int32)), .val (.int (3 : Int32))] []) := by
        intro target kt
        refine XS.iinc X0.here hx rfl (hb hby d25_25) rfl (l' := #[.val (.ref r0), .val (.int (44 : Int32)), .val (.int (2 : Int32)), .val (.int (4 : Int32)), .val (.int (44 : Int32)), .val (.int (4 : Int32))]) rfl ?_
        refine XS.goto X0.here hx rfl (pc0 := 28) (pc' := 7) rfl (hb hby d25_28) (by decide) (by decide) ?_
        refine XS.iload X0.here hx rfl (hb hby d25_7) rfl ?_
        refine XS.iloadN X0.here hx rfl (hb hby d25_9) rfl ?_
        refine XS.icmpYes X0.here hx rfl (pc0 := 10) (pc' := 31) rfl (hb hby d25_10) rfl (flt (by decide : ¬ ((4 : Int32) < (4 : Int32)))).2.1 (by decide) (by decide) ?_
        refine XS.iconst X0.here hx rfl (hb hby d25_31) ?_
        exact kt
      obtain ⟨fs, hr, hrun, hended, hW, hsame⟩ := X0.leave (v := some (.int (-1 : Int32))) (fun h => by rw [Bd.returns] at h; cases h)
      refine ⟨_, _, pre0 _ (st1 _ (st2 _ (st3 _ (st5 _ (st6 _ (st7 _ (st8 _ (st10 _ (st11 _ ?_))))))))), hrun, hended, _, _, rfl, ?_, ⟨_, rfl⟩, hW, hsame.mono (by decide) (by decide)⟩
      · show Steps p.tables e below (s₁.setTop (mkF m 32 #[.val (.ref r0), .val (.int (44 : Int32)), .val (.int (2 : Int32)), .val (.int (4 : Int32)), .val (.int (44 : Int32)), .val (.int (4 : Int32))] [(.int (-1 : Int32))])) _
        exact retI X0 hx Bd.returns (hb hby d25_32) hr
      · show Q_rmIx2_L4 Z r0 cs fm ky c0 c1 c2 c3 h0 n0 _ s₁.heap _
        rw [e0]
        exact ⟨_, iff_of_true (by decide) (by simp [m2', m3']), rfl, N0, rfl⟩
theorem ef_rmAio2_L4 (m : MethodId) (x0 : Addr) (x1 : Int32) (x2 : Int32) (x3 : Int32) : entryFrame m #[(.ref x0), (.int x1), (.int x2), (.int x3)] 4 = mkF m 0 #[.val (.ref x0), .val (.int x1), .val (.int x2), .val (.int x3)] [] := by first | (simp [entryFrame, mkF, argsToLocals, Value.category]; done) | rfl
def Q_rmAio2_L4 (Z : State) (r0 : Addr) (cs : Int32) (fm : Value) (ky : ClassId) (c0 : Int32) (c1 : Int32) (c2 : Int32) (c3 : Int32) (h0 : Heap) (n0 : Nat) (v : Option Value) (h : Heap) (L : List Loc) : Prop := ∃ z : Int32, (z < 0 ↔ ¬ (c2 = 44 ∨ c3 = 44 ∨ False)) ∧ v = some (.int z) ∧ Fr n0 L ∧ h = h0
set_option maxRecDepth 65536 in
set_option maxHeartbeats 40000000 in
theorem rmAio2_L4 (l : Launch) (Z : State) (a0 : Array Value) (hw : ∀ d ∈ tables_1, d.before a0 Z = true) (ws : List Jvm.Cond) (r0 : Addr) (cs : Int32) (fm : Value) (ky : ClassId) (c0 : Int32) (c1 : Int32) (c2 : Int32) (c3 : Int32) (h0 : Heap) (n0 : Nat) (Z0 : n0 ≤ h0.size) (SB : own_St Z cs fm) (Od : Old Z n0 h0) (Vy : Arv Z h0 r0 ky .byte (4 : Int32) [(.int (c0.toInt8.toInt32)), (.int (c1.toInt8.toInt32)), (.int (c2.toInt8.toInt32)), (.int (c3.toInt8.toInt32))] (.int (0 : Int32))) (hc2_ : 0 ≤ c2.toInt ∧ c2.toInt < 256) (hc3_ : 0 ≤ c3.toInt ∧ c3.toInt < 256) :
    MetFree l (⟨"java/lang/StringLatin1", "indexOf", "([BIII)I"⟩ : MethodName) (head1 (Jvm.Cond.code (⟨"java/lang/StringLatin1", "indexOf", "([BIII)I"⟩ : MethodName) jdk_43_method_22_code 4 (some .int) :: ws) ({ frames := 1, cells := 0, slots := 0, locals := 17 } : Room)) (fun a U => a = #[(.ref r0), (.int (44 : Int32)), (.int (2 : Int32)), (.int (4 : Int32))] ∧ Z.Warmed39 U.vm ∧ U.heap = h0) (fun _ _ _ _ _ => True) (fun _ U o U' => ∃ v L, o = .returned v ∧ Q_rmAio2_L4 Z r0 cs fm ky c0 c1 c2 c3 h0 n0 v U'.heap L ∧ FrameEnd U o U' L ({ frames := 1, cells := 0, slots := 0, locals := 17 } : Room).cells ({ frames := 1, cells := 0, slots := 0, locals := 17 } : Room).slots) := by
  refine MetFree.of_bodySF (plainFor_of_name pn_3) hisR ?_
  intro p e s m args below meth c s₁ Bd hml0 hP hK
  obtain ⟨rfl, hZ, hh⟩ := hP
  have hx := Bd.exec
  have hby := Bd.bytes
  have hml : c.maxLocals = 4 := hml0
  have hown : s.vm.findClass "java/lang/StringLatin1" = some m.cls := findClass_of_methodNamed Bd.named
  have hnm := (name_of_methodNamed Bd.named Bd.method).1
  have X0 : Stand p l e ({ frames := 1, cells := 0, slots := 0, locals := 17 } : Room) s m #[(.ref r0), (.int (44 : Int32)), (.int (2 : Int32)), (.int (4 : Int32))] below meth c s₁ [] 0 0 := Stand.of_body Bd
  have e0 : s₁.heap = h0 := by rw [← hh, Bd.state]; rfl
  have N0 := Fr.nil n0
  have pre0 : ∀ t, Steps p.tables e below (s₁.setTop (mkF m 0 #[.val (.ref r0), .val (.int (44 : Int32)), .val (.int (2 : Int32)), .val (.int (4 : Int32))] [])) t → Steps p.tables e below (s₁.setTop (entryFrame m #[(.ref r0), (.int (44 : Int32)), (.int (2 : Int32)), (.int (4 : Int32))] 4)) t := fun t k => castTop (ef_rmAio2_L4 m r0 (44 : Int32) (2 : Int32) (4 : Int32)) k
  have st1 : own_S p e below s₁ (mkF m 1 #[.val (.ref r0), .val (.int (44 : Int32)), .val (.int (2 : Int32)), .val (.int (4 : Int32))] [(.int (44 : Int32))]) (mkF m 0 #[.val (.ref r0), .val (.int (44 : Int32)), .val (.int (2 : Int32)), .val (.int (4 : Int32))] []) := by
    intro target kt
    refine XS.iloadN X0.here hx rfl (hb hby d21_0) rfl ?_
    exact kt
  obtain ⟨_, _, ⟨T2, L2, k2, n2⟩, -, X2, ⟨Lc2, hQ2, l2, y2, z2⟩, st2⟩ := Jvm.LawKit.callS X0 hx (y := (⟨"java/lang/StringLatin1", "canEncode", "(I)Z"⟩ : MethodName)) hown (mvT hZ (own_w hw 114 rfl)) (mvT hZ (own_w hw 115 rfl)) (mvT hZ (own_w hw 86 rfl)) (mvT hZ (own_w hw 116 rfl)) (by decide) (backOf (W := 0) (rm22 l Z a0 hw [] (44 : Int32)  h0 n0 Z0 ) hZ (own_w hw 116 rfl) (own_w hw 86 rfl) (by decide) (by decide)) (g := (mkF m 1 #[.val (.ref r0), .val (.int (44 : Int32)), .val (.int (2 : Int32)), .val (.int (4 : Int32))] [(.int (44 : Int32))])) rfl (by rw [hml]; rfl) (argsL := [(.int (44 : Int32))]) (rest := []) (lenOf pd_19 rfl) rfl (by show 2 * 0 + _ ≤ _; exact Nat.le_of_eq rfl) (hb hby d21_1) (fun _ _ => ⟨rfl, e0, (by decide : 0 + 0 ≤ _), (by decide : 0 + 0 ≤ _)⟩)
  dsimp only [Pt.U, Pt.locs, Pt.cells, Pt.slots] at X2 l2 y2 z2 st2 hQ2
  subst l2 y2 z2
  obtain ⟨rfl, Nq2, e2⟩ := hQ2
  have N2 := Fr.app N0 Nq2
  rw [if_neg (by decide), if_neg (by decide)] at st2
  have st3 : own_S p e below T2 (mkF m 11 #[.val (.ref r0), .val (.int (44 : Int32)), .val (.int (2 : Int32)), .val (.int (4 : Int32))] [(.int (0 : Int32)), (.int (2 : Int32))]) (mkF m 4 #[.val (.ref r0), .val (.int (44 : Int32)), .val (.int (2 : Int32)), .val (.int (4 : Int32))] [(.int (1 : Int32))]) := by
    intro target kt
    refine XS.ifYes X2.here hx rfl (pc0 := 4) (pc' := 9) rfl (hb hby d21_4) rfl ((if0 _ _).trans (feq (by decide : ¬ ((1 : Int32) = (0 : Int32)))).2) (by decide) (by decide) ?_
    refine XS.iloadN X2.here hx rfl (hb hby d21_9) rfl ?_
    refine XS.iconst X2.here hx rfl (hb hby d21_10) ?_
    exact kt
  obtain ⟨_, _, ⟨T4, L4, k4, n4⟩, -, X4, ⟨Lc4, hQ4, l4, y4, z4⟩, st4⟩ := Jvm.LawKit.callS X2 hx (y := (⟨"java/lang/Math", "max", "(II)I"⟩ : MethodName)) hown (mvT hZ (own_w hw 117 rfl)) (mvT hZ (own_w hw 118 rfl)) (mvT hZ (own_w hw 119 rfl)) (mvT hZ (own_w hw 120 rfl)) (by decide) (backOf (W := 0) (rm23 l Z a0 hw [] (2 : Int32) (0 : Int32)  h0 n0 Z0 ) hZ (own_w hw 120 rfl) (own_w hw 119 rfl) (by decide) (by decide)) (g := (mkF m 11 #[.val (.ref r0), .val (.int (44 : Int32)), .val (.int (2 : Int32)), .val (.int (4 : Int32))] [(.int (0 : Int32)), (.int (2 : Int32))])) rfl (by rw [hml]; rfl) (argsL := [(.int (2 : Int32)), (.int (0 : Int32))]) (rest := []) (lenOf pd_17 rfl) rfl (by show 2 * 0 + _ ≤ _; exact Nat.le_of_eq rfl) (hb hby d21_11) (fun _ _ => ⟨rfl, e2, (by decide : 0 + 0 ≤ _), (by decide : 0 + 0 ≤ _)⟩)
  dsimp only [Pt.U, Pt.locs, Pt.cells, Pt.slots] at X4 l4 y4 z4 st4 hQ4
  subst l4 y4 z4
  obtain ⟨rfl, Nq4, e4⟩ := hQ4
  have N4 := Fr.app N2 Nq4
  rw [if_neg (by decide)] at st4
  have st5 : own_S p e below T4 (mkF m 17 #[.val (.ref r0), .val (.int (44 : Int32)), .val (.int (2 : Int32)), .val (.int (4 : Int32))] [(.ref r0), (.int (4 : Int32))]) (mkF m 14 #[.val (.ref r0), .val (.int (44 : Int32)), .val (.int (2 : Int32)), .val (.int (4 : Int32))] [(.int (2 : Int32))]) := by
    intro target kt
    refine XS.istoreN X4.here hx rfl (hb hby d21_14) rfl (l' := #[.val (.ref r0), .val (.int (44 : Int32)), .val (.int (2 : Int32)), .val (.int (4 : Int32))]) rfl ?_
    refine XS.iloadN X4.here hx rfl (hb hby d21_15) rfl ?_
    refine XS.aloadN X4.here hx rfl (hb hby d21_16) rfl rfl ?_
    exact kt
  obtain ⟨cl6, Ar6, qc6, Sz6, Mn6, Hs6, Gs6⟩ := id Vy
  have st6 : own_S p e below T4 (mkF m 18 #[.val (.ref r0), .val (.int (44 : Int32)), .val (.int (2 : Int32)), .val (.int (4 : Int32))] [(.int (4 : Int32)), (.int (4 : Int32))]) (mkF m 17 #[.val (.ref r0), .val (.int (44 : Int32)), .val (.int (2 : Int32)), .val (.int (4 : Int32))] [(.ref r0), (.int (4 : Int32))]) := fun target kt => X4.arraylength hx (cell := cl6) (by rw [e4]; exact Ar6.1) (State.isArrayOf_alike hZ.alike Ar6.2.1) (g := (mkF m 17 #[.val (.ref r0), .val (.int (44 : Int32)), .val (.int (2 : Int32)), .val (.int (4 : Int32))] [(.ref r0), (.int (4 : Int32))])) rfl rfl (hb hby d21_17) _ (by rw [len_of Sz6 Mn6]; exact kt)
  obtain ⟨_, _, ⟨T7, L7, k7, n7⟩, -, X7, ⟨Lc7, hQ7, l7, y7, z7⟩, st7⟩ := Jvm.LawKit.callS X4 hx (y := (⟨"java/lang/Math", "min", "(II)I"⟩ : MethodName)) hown (mvT hZ (own_w hw 121 rfl)) (mvT hZ (own_w hw 122 rfl)) (mvT hZ (own_w hw 119 rfl)) (mvT hZ (own_w hw 123 rfl)) (by decide) (backOf (W := 0) (rm24 l Z a0 hw [] (4 : Int32) (4 : Int32)  h0 n0 Z0 ) hZ (own_w hw 123 rfl) (own_w hw 119 rfl) (by decide) (by decide)) (g := (mkF m 18 #[.val (.ref r0), .val (.int (44 : Int32)), .val (.int (2 : Int32)), .val (.int (4 : Int32))] [(.int (4 : Int32)), (.int (4 : Int32))])) rfl (by rw [hml]; rfl) (argsL := [(.int (4 : Int32)), (.int (4 : Int32))]) (rest := []) (lenOf pd_17 rfl) rfl (by show 2 * 0 + _ ≤ _; exact Nat.le_of_eq rfl) (hb hby d21_18) (fun _ _ => ⟨rfl, e4, (by decide : 0 + 0 ≤ _), (by decide : 0 + 0 ≤ _)⟩)
  dsimp only [Pt.U, Pt.locs, Pt.cells, Pt.slots] at X7 l7 y7 z7 st7 hQ7
  subst l7 y7 z7
  obtain ⟨rfl, Nq7, e7⟩ := hQ7
  have N7 := Fr.app N4 Nq7
  rw [if_neg (by decide)] at st7
  have st8 : own_S p e below T7 (mkF m 33 #[.val (.ref r0), .val (.int (44 : Int32)), .val (.int (2 : Int32)), .val (.int (4 : Int32))] [(.int (4 : Int32)), (.int (2 : Int32)), (.int (44 : Int32)), (.ref r0)]) (mkF m 21 #[.val (.ref r0), .val (.int (44 : Int32)), .val (.int (2 : Int32)), .val (.int (4 : Int32))] [(.int (4 : Int32))]) := by
    intro target kt
    refine XS.istoreN X7.here hx rfl (hb hby d21_21) rfl (l' := #[.val (.ref r0), .val (.int (44 : Int32)), .val (.int (2 : Int32)), .val (.int (4 : Int32))]) rfl ?_
    refine XS.iloadN X7.here hx rfl (hb hby d21_22) rfl ?_
    refine XS.iloadN X7.here hx rfl (hb hby d21_23) rfl ?_
    refine XS.icmpYes X7.here hx rfl (pc0 := 24) (pc' := 29) rfl (hb hby d21_24) rfl (tlt (by decide : ((2 : Int32) < (4 : Int32)))).1 (by decide) (by decide) ?_
    refine XS.aloadN X7.here hx rfl (hb hby d21_29) rfl rfl ?_
    refine XS.iloadN X7.here hx rfl (hb hby d21_30) rfl ?_
    refine XS.iloadN X7.here hx rfl (hb hby d21_31) rfl ?_
    refine XS.iloadN X7.here hx rfl (hb hby d21_32) rfl ?_
    exact kt
  obtain ⟨_, _, ⟨T9, L9, k9, n9⟩, -, X9, ⟨Lc9, hQ9, l9, y9, z9⟩, st9⟩ := Jvm.LawKit.callS X7 hx (y := (⟨"java/lang/StringLatin1", "indexOfChar", "([BIII)I"⟩ : MethodName)) hown (mvT hZ (own_w hw 124 rfl)) (mvT hZ (own_w hw 125 rfl)) (mvT hZ (own_w hw 86 rfl)) (mvT hZ (own_w hw 126 rfl)) (by decide) (backOf (W := 0) (rmIx2_L4 l Z a0 hw [] r0 cs fm ky c0 c1 c2 c3 h0 n0 Z0 SB Od Vy hc2_ hc3_) hZ (own_w hw 126 rfl) (own_w hw 86 rfl) (by decide) (by decide)) (g := (mkF m 33 #[.val (.ref r0), .val (.int (44 : Int32)), .val (.int (2 : Int32)), .val (.int (4 : Int32))] [(.int (4 : Int32)), (.int (2 : Int32)), (.int (44 : Int32)), (.ref r0)])) rfl (by rw [hml]; rfl) (argsL := [(.ref r0), (.int (44 : Int32)), (.int (2 : Int32)), (.int (4 : Int32))]) (rest := []) (lenOf pd_18 rfl) rfl (by show 2 * 0 + _ ≤ _; exact Nat.le_of_eq rfl) (hb hby d21_33) (fun _ _ => ⟨rfl, e7, (by decide : 0 + 0 ≤ _), (by decide : 0 + 0 ≤ _)⟩)
  dsimp only [Pt.U, Pt.locs, Pt.cells, Pt.slots] at X9 l9 y9 z9 st9 hQ9
  subst l9 y9 z9
  obtain ⟨z9, hz9, rfl, Nq9, e9⟩ := hQ9
  have N9 := Fr.app N7 Nq9
  obtain ⟨fs, hr, hrun, hended, hW, hsame⟩ := X9.leave (v := some (.int z9)) (fun h => by rw [Bd.returns] at h; cases h)
  refine ⟨_, _, pre0 _ (st1 _ (st2 _ (st3 _ (st4 _ (st5 _ (st6 _ (st7 _ (st8 _ (st9 _ ?_))))))))), hrun, hended, _, _, rfl, ?_, ⟨_, rfl⟩, hW, hsame.mono (by decide) (by decide)⟩
  · show Steps p.tables e below (T9.setTop (mkF m 36 #[.val (.ref r0), .val (.int (44 : Int32)), .val (.int (2 : Int32)), .val (.int (4 : Int32))] [(.int z9)])) _
    exact retI X9 hx Bd.returns (hb hby d21_36) hr
  · show Q_rmAio2_L4 Z r0 cs fm ky c0 c1 c2 c3 h0 n0 _ T9.heap _
    rw [e9]
    exact ⟨_, hz9, rfl, N9, rfl⟩
theorem ef_rmIx3_L4 (m : MethodId) (x0 : Addr) (x1 : Int32) (x2 : Int32) (x3 : Int32) : entryFrame m #[(.ref x0), (.int x1), (.int x2), (.int x3)] 6 = mkF m 0 #[.val (.ref x0), .val (.int x1), .val (.int x2), .val (.int x3), .unset, .unset] [] := by first | (simp [entryFrame, mkF, argsToLocals, Value.category]; done) | rfl
def Q_rmIx3_L4 (Z : State) (r0 : Addr) (cs : Int32) (fm : Value) (ky : ClassId) (c0 : Int32) (c1 : Int32) (c2 : Int32) (c3 : Int32) (h0 : Heap) (n0 : Nat) (v : Option Value) (h : Heap) (L : List Loc) : Prop := ∃ z : Int32, (z < 0 ↔ ¬ (c3 = 44 ∨ False)) ∧ v = some (.int z) ∧ Fr n0 L ∧ h = h0
set_option maxRecDepth 65536 in
set_option maxHeartbeats 40000000 in
theorem rmIx3_L4 (l : Launch) (Z : State) (a0 : Array Value) (hw : ∀ d ∈ tables_1, d.before a0 Z = true) (ws : List Jvm.Cond) (r0 : Addr) (cs : Int32) (fm : Value) (ky : ClassId) (c0 : Int32) (c1 : Int32) (c2 : Int32) (c3 : Int32) (h0 : Heap) (n0 : Nat) (Z0 : n0 ≤ h0.size) (SB : own_St Z cs fm) (Od : Old Z n0 h0) (Vy : Arv Z h0 r0 ky .byte (4 : Int32) [(.int (c0.toInt8.toInt32)), (.int (c1.toInt8.toInt32)), (.int (c2.toInt8.toInt32)), (.int (c3.toInt8.toInt32))] (.int (0 : Int32))) (hc3_ : 0 ≤ c3.toInt ∧ c3.toInt < 256) :
    MetFree l (⟨"java/lang/StringLatin1", "indexOfChar", "([BIII)I"⟩ : MethodName) (head1 (Jvm.Cond.code (⟨"java/lang/StringLatin1", "indexOfChar", "([BIII)I"⟩ : MethodName) jdk_43_method_23_code 6 (some .int) :: ws) ({ frames := 0, cells := 0, slots := 0, locals := 0 } : Room)) (fun a U => a = #[(.ref r0), (.int (44 : Int32)), (.int (3 : Int32)), (.int (4 : Int32))] ∧ Z.Warmed39 U.vm ∧ U.heap = h0) (fun _ _ _ _ _ => True) (fun _ U o U' => ∃ v L, o = .returned v ∧ Q_rmIx3_L4 Z r0 cs fm ky c0 c1 c2 c3 h0 n0 v U'.heap L ∧ FrameEnd U o U' L ({ frames := 0, cells := 0, slots := 0, locals := 0 } : Room).cells ({ frames := 0, cells := 0, slots := 0, locals := 0 } : Room).slots) := by
  refine MetFree.of_bodySF (plainFor_of_name pn_3) hisR ?_
  intro p e s m args below meth c s₁ Bd hml0 hP hK
  obtain ⟨rfl, hZ, hh⟩ := hP
  have hx := Bd.exec
  have hby := Bd.bytes
  have hml : c.maxLocals = 6 := hml0
  have hown : s.vm.findClass "java/lang/StringLatin1" = some m.cls := findClass_of_methodNamed Bd.named
  have hnm := (name_of_methodNamed Bd.named Bd.method).1
  have X0 : Stand p l e ({ frames := 0, cells := 0, slots := 0, locals := 0 } : Room) s m #[(.ref r0), (.int (44 : Int32)), (.int (3 : Int32)), (.int (4 : Int32))] below meth c s₁ [] 0 0 := Stand.of_body Bd
  have e0 : s₁.heap = h0 := by rw [← hh, Bd.state]; rfl
  have N0 := Fr.nil n0
  have pre0 : ∀ t, Steps p.tables e below (s₁.setTop (mkF m 0 #[.val (.ref r0), .val (.int (44 : Int32)), .val (.int (3 : Int32)), .val (.int (4 : Int32)), .unset, .unset] [])) t → Steps p.tables e below (s₁.setTop (entryFrame m #[(.ref r0), (.int (44 : Int32)), (.int (3 : Int32)), (.int (4 : Int32))] 6)) t := fun t k => castTop (ef_rmIx3_L4 m r0 (44 : Int32) (3 : Int32) (4 : Int32)) k
  have st1 : own_S p e below s₁ (mkF m 16 #[.val (.ref r0), .val (.int (44 : Int32)), .val (.int (3 : Int32)), .val (.int (4 : Int32)), .val (.int (44 : Int32)), .val (.int (3 : Int32))] [(.int (3 : Int32)), (.ref r0)]) (mkF m 0 #[.val (.ref r0), .val (.int (44 : Int32)), .val (.int (3 : Int32)), .val (.int (4 : Int32)), .unset, .unset] []) := by
    intro target kt
    refine XS.iloadN X0.here hx rfl (hb hby d25_0) rfl ?_
    refine XS.i2b X0.here hx rfl (hb hby d25_1) rfl ?_
    refine XS.istore X0.here hx rfl (hb hby d25_2) rfl (l' := #[.val (.ref r0), .val (.int (44 : Int32)), .val (.int (3 : Int32)), .val (.int (4 : Int32)), .val (.int (44 : Int32)), .unset]) rfl ?_
    refine XS.iloadN X0.here hx rfl (hb hby d25_4) rfl ?_
    refine XS.istore X0.here hx rfl (hb hby d25_5) rfl (l' := #[.val (.ref r0), .val (.int (44 : Int32)), .val (.int (3 : Int32)), .val (.int (4 : Int32)), .val (.int (44 : Int32)), .val (.int (3 : Int32))]) rfl ?_
    refine XS.iload X0.here hx rfl (hb hby d25_7) rfl ?_
    refine XS.iloadN X0.here hx rfl (hb hby d25_9) rfl ?_
    refine XS.icmpNo X0.here hx rfl (hb hby d25_10) rfl (tlt (by decide : ((3 : Int32) < (4 : Int32)))).2.1 ?_
    refine XS.aloadN X0.here hx rfl (hb hby d25_13) rfl rfl ?_
    refine XS.iload X0.here hx rfl (hb hby d25_14) rfl ?_
    exact kt
  obtain ⟨cl2, Ar2, qc2, Sz2, Mn2, Hs2, Gs2⟩ := id Vy
  have hin2 : ¬ ((3 : Int32) < 0 ∨ cl2.slots.size ≤ ((3 : Int32)).toNatClampNeg) := inb_of Sz2 ⟨by decide, by decide⟩
  have hat2 : cl2.slots[((3 : Int32)).toNatClampNeg]? = some (.int (c3.toInt8.toInt32)) := Hs2.at hin2 rfl
  have st2 : own_S p e below s₁ (mkF m 17 #[.val (.ref r0), .val (.int (44 : Int32)), .val (.int (3 : Int32)), .val (.int (4 : Int32)), .val (.int (44 : Int32)), .val (.int (3 : Int32))] [(.int (c3.toInt8.toInt32))]) (mkF m 16 #[.val (.ref r0), .val (.int (44 : Int32)), .val (.int (3 : Int32)), .val (.int (4 : Int32)), .val (.int (44 : Int32)), .val (.int (3 : Int32))] [(.int (3 : Int32)), (.ref r0)]) := fun target kt => X0.baloadBytes hx (j := (3 : Int32)) (v := (.int (c3.toInt8.toInt32))) (by rw [e0]; exact Ar2.1) (State.isArrayOf_alike hZ.alike Ar2.2.1) Ar2.2.2 hin2 hat2 (g := (mkF m 16 #[.val (.ref r0), .val (.int (44 : Int32)), .val (.int (3 : Int32)), .val (.int (4 : Int32)), .val (.int (44 : Int32)), .val (.int (3 : Int32))] [(.int (3 : Int32)), (.ref r0)])) rfl rfl (hb hby d25_16) _ kt
  have st3 : own_S p e below s₁ (mkF m 19 #[.val (.ref r0), .val (.int (44 : Int32)), .val (.int (3 : Int32)), .val (.int (4 : Int32)), .val (.int (44 : Int32)), .val (.int (3 : Int32))] [(.int (44 : Int32)), (.int (c3.toInt8.toInt32))]) (mkF m 17 #[.val (.ref r0), .val (.int (44 : Int32)), .val (.int (3 : Int32)), .val (.int (4 : Int32)), .val (.int (44 : Int32)), .val (.int (3 : Int32))] [(.int (c3.toInt8.toInt32))]) := by
    intro target kt
    refine XS.iload X0.here hx rfl (hb hby d25_17) rfl ?_
    exact kt
  by_cases m3 : (c3.toInt8.toInt32) = (44 : Int32)
  · have st4 : own_S p e below s₁ (mkF m 22 #[.val (.ref r0), .val (.int (44 : Int32)), .val (.int (3 : Int32)), .val (.int (4 : Int32)), .val (.int (44 : Int32)), .val (.int (3 : Int32))] []) (mkF m 19 #[.val (.ref r0), .val (.int (44 : Int32)), .val (.int (3 : Int32)), .val (.int (4 : Int32)), .val (.int (44 : Int32)), .val (.int (3 : Int32))] [(.int (44 : Int32)), (.int (c3.toInt8.toInt32))]) := by
      intro target kt
      refine XS.icmpNo X0.here hx rfl (hb hby d25_19) rfl (teq m3).2 ?_
      exact kt
    have m3' := (own_b44 hc3_.1 hc3_.2).mp m3
    obtain ⟨fs, hr, hrun, hended, hW, hsame⟩ := X0.leave (v := some (.int (3 : Int32))) (fun h => by rw [Bd.returns] at h; cases h)
    refine ⟨_, _, pre0 _ (st1 _ (st2 _ (st3 _ (st4 _ ?_)))), hrun, hended, _, _, rfl, ?_, ⟨_, rfl⟩, hW, hsame.mono (by decide) (by decide)⟩
    · refine XS.iload X0.here hx rfl (hb hby d25_22) rfl ?_
      show Steps p.tables e below (s₁.setTop (mkF m 24 #[.val (.ref r0), .val (.int (44 : Int32)), .val (.int (3 : Int32)), .val (.int (4 : Int32)), .val (.int (44 : Int32)), .val (.int (3 : Int32))] [(.int (3 : Int32))])) _
      exact retI X0 hx Bd.returns (hb hby d25_24) hr
    · show Q_rmIx3_L4 Z r0 cs fm ky c0 c1 c2 c3 h0 n0 _ s₁.heap _
      rw [e0]
      exact ⟨_, iff_of_false (by decide) (by simp [m3']), rfl, N0, rfl⟩
  · have st5 : own_S p e below s₁ (mkF m 25 #[.val (.ref r0), .val (.int (44 : Int32)), .val (.int (3 : Int32)), .val (.int (4 : Int32)), .val (.int (44 : Int32)), .val (.int (3 : Int32))] []) (mkF m 19 #[.val (.ref r0), .val (.int (44 : Int32)), .val (.int (3 : Int32)), .val (.int (4 : Int32)), .val (.int (44 : Int32)), .val (.int (3 : Int32))] [(.int (44 : Int32)), (.int (c3.toInt8.toInt32))]) := by
      intro target kt
      refine XS.icmpYes X0.here hx rfl (pc0 := 19) (pc' := 25) rfl (hb hby d25_19) rfl (feq m3).2 (by decide) (by decide) ?_
      exact kt
    have m3' : ¬ c3 = 44 := fun q => m3 ((own_b44 hc3_.1 hc3_.2).mpr q)
    have st6 : own_S p e below s₁ (mkF m 32 #[.val (.ref r0), .val (.int (44 : Int32)), .val (.int (3 : Int32)), .val (.int (4 : Int32)), .val (.int (44 : Int32)), .val (.int (4 : Int32))] [(.int (-1 : Int32))]) (mkF m 25 #[.val (.ref r0), .val (.int (44 : Int32)), .val (.int (3 : Int32)), .val (.int (4 : Int32)), .val (.int (44 : Int32)), .val (.int (3 : Int32))] []) := by
      intro target kt
      refine XS.iinc X0.here hx rfl (hb hby d25_25) rfl (l' := #[.val (.ref r0), .val (.int (44 : Int32)), .val (.int (3 : Int32)), .val (.int (4 : Int32)), .val (.int (44 : Int32)), .val (.int (4 : Int32))]) rfl ?_
      refine XS.goto X0.here hx rfl (pc0 := 28) (pc' := 7) rfl (hb hby d25_28) (by decide) (by decide) ?_
      refine XS.iload X0.here hx rfl (hb hby d25_7) rfl ?_
      refine XS.iloadN X0.here hx rfl (hb hby d25_9) rfl ?_
      refine XS.icmpYes X0.here hx rfl (pc0 := 10) (pc' := 31) rfl (hb hby d25_10) rfl (flt (by decide : ¬ ((4 : Int32) < (4 : Int32)))).2.1 (by decide) (by decide) ?_
      refine XS.iconst X0.here hx rfl (hb hby d25_31) ?_
      exact kt
    obtain ⟨fs, hr, hrun, hended, hW, hsame⟩ := X0.leave (v := some (.int (-1 : Int32))) (fun h => by rw [Bd.returns] at h; cases h)
    refine ⟨_, _, pre0 _ (st1 _ (st2 _ (st3 _ (st5 _ (st6 _ ?_))))), hrun, hended, _, _, rfl, ?_, ⟨_, rfl⟩, hW, hsame.mono (by decide) (by decide)⟩
    · show Steps p.tables e below (s₁.setTop (mkF m 32 #[.val (.ref r0), .val (.int (44 : Int32)), .val (.int (3 : Int32)), .val (.int (4 : Int32)), .val (.int (44 : Int32)), .val (.int (4 : Int32))] [(.int (-1 : Int32))])) _
      exact retI X0 hx Bd.returns (hb hby d25_32) hr
    · show Q_rmIx3_L4 Z r0 cs fm ky c0 c1 c2 c3 h0 n0 _ s₁.heap _
      rw [e0]
      exact ⟨_, iff_of_true (by decide) (by simp [m3']), rfl, N0, rfl⟩
theorem ef_rmAio3_L4 (m : MethodId) (x0 : Addr) (x1 : Int32) (x2 : Int32) (x3 : Int32) : entryFrame m #[(.ref x0), (.int x1), (.int x2), (.int x3)] 4 = mkF m 0 #[.val (.ref x0), .val (.int x1), .val (.int x2), .val (.int x3)] [] := by first | (simp [entryFrame, mkF, argsToLocals, Value.category]; done) | rfl
def Q_rmAio3_L4 (Z : State) (r0 : Addr) (cs : Int32) (fm : Value) (ky : ClassId) (c0 : Int32) (c1 : Int32) (c2 : Int32) (c3 : Int32) (h0 : Heap) (n0 : Nat) (v : Option Value) (h : Heap) (L : List Loc) : Prop := ∃ z : Int32, (z < 0 ↔ ¬ (c3 = 44 ∨ False)) ∧ v = some (.int z) ∧ Fr n0 L ∧ h = h0
set_option maxRecDepth 65536 in
set_option maxHeartbeats 40000000 in
theorem rmAio3_L4 (l : Launch) (Z : State) (a0 : Array Value) (hw : ∀ d ∈ tables_1, d.before a0 Z = true) (ws : List Jvm.Cond) (r0 : Addr) (cs : Int32) (fm : Value) (ky : ClassId) (c0 : Int32) (c1 : Int32) (c2 : Int32) (c3 : Int32) (h0 : Heap) (n0 : Nat) (Z0 : n0 ≤ h0.size) (SB : own_St Z cs fm) (Od : Old Z n0 h0) (Vy : Arv Z h0 r0 ky .byte (4 : Int32) [(.int (c0.toInt8.toInt32)), (.int (c1.toInt8.toInt32)), (.int (c2.toInt8.toInt32)), (.int (c3.toInt8.toInt32))] (.int (0 : Int32))) (hc3_ : 0 ≤ c3.toInt ∧ c3.toInt < 256) :
    MetFree l (⟨"java/lang/StringLatin1", "indexOf", "([BIII)I"⟩ : MethodName) (head1 (Jvm.Cond.code (⟨"java/lang/StringLatin1", "indexOf", "([BIII)I"⟩ : MethodName) jdk_43_method_22_code 4 (some .int) :: ws) ({ frames := 1, cells := 0, slots := 0, locals := 17 } : Room)) (fun a U => a = #[(.ref r0), (.int (44 : Int32)), (.int (3 : Int32)), (.int (4 : Int32))] ∧ Z.Warmed39 U.vm ∧ U.heap = h0) (fun _ _ _ _ _ => True) (fun _ U o U' => ∃ v L, o = .returned v ∧ Q_rmAio3_L4 Z r0 cs fm ky c0 c1 c2 c3 h0 n0 v U'.heap L ∧ FrameEnd U o U' L ({ frames := 1, cells := 0, slots := 0, locals := 17 } : Room).cells ({ frames := 1, cells := 0, slots := 0, locals := 17 } : Room).slots) := by
  refine MetFree.of_bodySF (plainFor_of_name pn_3) hisR ?_
  intro p e s m args below meth c s₁ Bd hml0 hP hK
  obtain ⟨rfl, hZ, hh⟩ := hP
  have hx := Bd.exec
  have hby := Bd.bytes
  have hml : c.maxLocals = 4 := hml0
  have hown : s.vm.findClass "java/lang/StringLatin1" = some m.cls := findClass_of_methodNamed Bd.named
  have hnm := (name_of_methodNamed Bd.named Bd.method).1
  have X0 : Stand p l e ({ frames := 1, cells := 0, slots := 0, locals := 17 } : Room) s m #[(.ref r0), (.int (44 : Int32)), (.int (3 : Int32)), (.int (4 : Int32))] below meth c s₁ [] 0 0 := Stand.of_body Bd
  have e0 : s₁.heap = h0 := by rw [← hh, Bd.state]; rfl
  have N0 := Fr.nil n0
  have pre0 : ∀ t, Steps p.tables e below (s₁.setTop (mkF m 0 #[.val (.ref r0), .val (.int (44 : Int32)), .val (.int (3 : Int32)), .val (.int (4 : Int32))] [])) t → Steps p.tables e below (s₁.setTop (entryFrame m #[(.ref r0), (.int (44 : Int32)), (.int (3 : Int32)), (.int (4 : Int32))] 4)) t := fun t k => castTop (ef_rmAio3_L4 m r0 (44 : Int32) (3 : Int32) (4 : Int32)) k
  have st1 : own_S p e below s₁ (mkF m 1 #[.val (.ref r0), .val (.int (44 : Int32)), .val (.int (3 : Int32)), .val (.int (4 : Int32))] [(.int (44 : Int32))]) (mkF m 0 #[.val (.ref r0), .val (.int (44 : Int32)), .val (.int (3 : Int32)), .val (.int (4 : Int32))] []) := by
    intro target kt
    refine XS.iloadN X0.here hx rfl (hb hby d21_0) rfl ?_
    exact kt
  obtain ⟨_, _, ⟨T2, L2, k2, n2⟩, -, X2, ⟨Lc2, hQ2, l2, y2, z2⟩, st2⟩ := Jvm.LawKit.callS X0 hx (y := (⟨"java/lang/StringLatin1", "canEncode", "(I)Z"⟩ : MethodName)) hown (mvT hZ (own_w hw 114 rfl)) (mvT hZ (own_w hw 115 rfl)) (mvT hZ (own_w hw 86 rfl)) (mvT hZ (own_w hw 116 rfl)) (by decide) (backOf (W := 0) (rm22 l Z a0 hw [] (44 : Int32)  h0 n0 Z0 ) hZ (own_w hw 116 rfl) (own_w hw 86 rfl) (by decide) (by decide)) (g := (mkF m 1 #[.val (.ref r0), .val (.int (44 : Int32)), .val (.int (3 : Int32)), .val (.int (4 : Int32))] [(.int (44 : Int32))])) rfl (by rw [hml]; rfl) (argsL := [(.int (44 : Int32))]) (rest := []) (lenOf pd_19 rfl) rfl (by show 2 * 0 + _ ≤ _; exact Nat.le_of_eq rfl) (hb hby d21_1) (fun _ _ => ⟨rfl, e0, (by decide : 0 + 0 ≤ _), (by decide : 0 + 0 ≤ _)⟩)
  dsimp only [Pt.U, Pt.locs, Pt.cells, Pt.slots] at X2 l2 y2 z2 st2 hQ2
  subst l2 y2 z2
  obtain ⟨rfl, Nq2, e2⟩ := hQ2
  have N2 := Fr.app N0 Nq2
  rw [if_neg (by decide), if_neg (by decide)] at st2
  have st3 : own_S p e below T2 (mkF m 11 #[.val (.ref r0), .val (.int (44 : Int32)), .val (.int (3 : Int32)), .val (.int (4 : Int32))] [(.int (0 : Int32)), (.int (3 : Int32))]) (mkF m 4 #[.val (.ref r0), .val (.int (44 : Int32)), .val (.int (3 : Int32)), .val (.int (4 : Int32))] [(.int (1 : Int32))]) := by
    intro target kt
    refine XS.ifYes X2.here hx rfl (pc0 := 4) (pc' := 9) rfl (hb hby d21_4) rfl ((if0 _ _).trans (feq (by decide : ¬ ((1 : Int32) = (0 : Int32)))).2) (by decide) (by decide) ?_
    refine XS.iloadN X2.here hx rfl (hb hby d21_9) rfl ?_
    refine XS.iconst X2.here hx rfl (hb hby d21_10) ?_
    exact kt
  obtain ⟨_, _, ⟨T4, L4, k4, n4⟩, -, X4, ⟨Lc4, hQ4, l4, y4, z4⟩, st4⟩ := Jvm.LawKit.callS X2 hx (y := (⟨"java/lang/Math", "max", "(II)I"⟩ : MethodName)) hown (mvT hZ (own_w hw 117 rfl)) (mvT hZ (own_w hw 118 rfl)) (mvT hZ (own_w hw 119 rfl)) (mvT hZ (own_w hw 120 rfl)) (by decide) (backOf (W := 0) (rm23 l Z a0 hw [] (3 : Int32) (0 : Int32)  h0 n0 Z0 ) hZ (own_w hw 120 rfl) (own_w hw 119 rfl) (by decide) (by decide)) (g := (mkF m 11 #[.val (.ref r0), .val (.int (44 : Int32)), .val (.int (3 : Int32)), .val (.int (4 : Int32))] [(.int (0 : Int32)), (.int (3 : Int32))])) rfl (by rw [hml]; rfl) (argsL := [(.int (3 : Int32)), (.int (0 : Int32))]) (rest := []) (lenOf pd_17 rfl) rfl (by show 2 * 0 + _ ≤ _; exact Nat.le_of_eq rfl) (hb hby d21_11) (fun _ _ => ⟨rfl, e2, (by decide : 0 + 0 ≤ _), (by decide : 0 + 0 ≤ _)⟩)
  dsimp only [Pt.U, Pt.locs, Pt.cells, Pt.slots] at X4 l4 y4 z4 st4 hQ4
  subst l4 y4 z4
  obtain ⟨rfl, Nq4, e4⟩ := hQ4
  have N4 := Fr.app N2 Nq4
  rw [if_neg (by decide)] at st4
  have st5 : own_S p e below T4 (mkF m 17 #[.val (.ref r0), .val (.int (44 : Int32)), .val (.int (3 : Int32)), .val (.int (4 : Int32))] [(.ref r0), (.int (4 : Int32))]) (mkF m 14 #[.val (.ref r0), .val (.int (44 : Int32)), .val (.int (3 : Int32)), .val (.int (4 : Int32))] [(.int (3 : Int32))]) := by
    intro target kt
    refine XS.istoreN X4.here hx rfl (hb hby d21_14) rfl (l' := #[.val (.ref r0), .val (.int (44 : Int32)), .val (.int (3 : Int32)), .val (.int (4 : Int32))]) rfl ?_
    refine XS.iloadN X4.here hx rfl (hb hby d21_15) rfl ?_
    refine XS.aloadN X4.here hx rfl (hb hby d21_16) rfl rfl ?_
    exact kt
  obtain ⟨cl6, Ar6, qc6, Sz6, Mn6, Hs6, Gs6⟩ := id Vy
  have st6 : own_S p e below T4 (mkF m 18 #[.val (.ref r0), .val (.int (44 : Int32)), .val (.int (3 : Int32)), .val (.int (4 : Int32))] [(.int (4 : Int32)), (.int (4 : Int32))]) (mkF m 17 #[.val (.ref r0), .val (.int (44 : Int32)), .val (.int (3 : Int32)), .val (.int (4 : Int32))] [(.ref r0), (.int (4 : Int32))]) := fun target kt => X4.arraylength hx (cell := cl6) (by rw [e4]; exact Ar6.1) (State.isArrayOf_alike hZ.alike Ar6.2.1) (g := (mkF m 17 #[.val (.ref r0), .val (.int (44 : Int32)), .val (.int (3 : Int32)), .val (.int (4 : Int32))] [(.ref r0), (.int (4 : Int32))])) rfl rfl (hb hby d21_17) _ (by rw [len_of Sz6 Mn6]; exact kt)
  obtain ⟨_, _, ⟨T7, L7, k7, n7⟩, -, X7, ⟨Lc7, hQ7, l7, y7, z7⟩, st7⟩ := Jvm.LawKit.callS X4 hx (y := (⟨"java/lang/Math", "min", "(II)I"⟩ : MethodName)) hown (mvT hZ (own_w hw 121 rfl)) (mvT hZ (own_w hw 122 rfl)) (mvT hZ (own_w hw 119 rfl)) (mvT hZ (own_w hw 123 rfl)) (by decide) (backOf (W := 0) (rm24 l Z a0 hw [] (4 : Int32) (4 : Int32)  h0 n0 Z0 ) hZ (own_w hw 123 rfl) (own_w hw 119 rfl) (by decide) (by decide)) (g := (mkF m 18 #[.val (.ref r0), .val (.int (44 : Int32)), .val (.int (3 : Int32)), .val (.int (4 : Int32))] [(.int (4 : Int32)), (.int (4 : Int32))])) rfl (by rw [hml]; rfl) (argsL := [(.int (4 : Int32)), (.int (4 : Int32))]) (rest := []) (lenOf pd_17 rfl) rfl (by show 2 * 0 + _ ≤ _; exact Nat.le_of_eq rfl) (hb hby d21_18) (fun _ _ => ⟨rfl, e4, (by decide : 0 + 0 ≤ _), (by decide : 0 + 0 ≤ _)⟩)
  dsimp only [Pt.U, Pt.locs, Pt.cells, Pt.slots] at X7 l7 y7 z7 st7 hQ7
  subst l7 y7 z7
  obtain ⟨rfl, Nq7, e7⟩ := hQ7
  have N7 := Fr.app N4 Nq7
  rw [if_neg (by decide)] at st7
  have st8 : own_S p e below T7 (mkF m 33 #[.val (.ref r0), .val (.int (44 : Int32)), .val (.int (3 : Int32)), .val (.int (4 : Int32))] [(.int (4 : Int32)), (.int (3 : Int32)), (.int (44 : Int32)), (.ref r0)]) (mkF m 21 #[.val (.ref r0), .val (.int (44 : Int32)), .val (.int (3 : Int32)), .val (.int (4 : Int32))] [(.int (4 : Int32))]) := by
    intro target kt
    refine XS.istoreN X7.here hx rfl (hb hby d21_21) rfl (l' := #[.val (.ref r0), .val (.int (44 : Int32)), .val (.int (3 : Int32)), .val (.int (4 : Int32))]) rfl ?_
    refine XS.iloadN X7.here hx rfl (hb hby d21_22) rfl ?_
    refine XS.iloadN X7.here hx rfl (hb hby d21_23) rfl ?_
    refine XS.icmpYes X7.here hx rfl (pc0 := 24) (pc' := 29) rfl (hb hby d21_24) rfl (tlt (by decide : ((3 : Int32) < (4 : Int32)))).1 (by decide) (by decide) ?_
    refine XS.aloadN X7.here hx rfl (hb hby d21_29) rfl rfl ?_
    refine XS.iloadN X7.here hx rfl (hb hby d21_30) rfl ?_
    refine XS.iloadN X7.here hx rfl (hb hby d21_31) rfl ?_
    refine XS.iloadN X7.here hx rfl (hb hby d21_32) rfl ?_
    exact kt
  obtain ⟨_, _, ⟨T9, L9, k9, n9⟩, -, X9, ⟨Lc9, hQ9, l9, y9, z9⟩, st9⟩ := Jvm.LawKit.callS X7 hx (y := (⟨"java/lang/StringLatin1", "indexOfChar", "([BIII)I"⟩ : MethodName)) hown (mvT hZ (own_w hw 124 rfl)) (mvT hZ (own_w hw 125 rfl)) (mvT hZ (own_w hw 86 rfl)) (mvT hZ (own_w hw 126 rfl)) (by decide) (backOf (W := 0) (rmIx3_L4 l Z a0 hw [] r0 cs fm ky c0 c1 c2 c3 h0 n0 Z0 SB Od Vy hc3_) hZ (own_w hw 126 rfl) (own_w hw 86 rfl) (by decide) (by decide)) (g := (mkF m 33 #[.val (.ref r0), .val (.int (44 : Int32)), .val (.int (3 : Int32)), .val (.int (4 : Int32))] [(.int (4 : Int32)), (.int (3 : Int32)), (.int (44 : Int32)), (.ref r0)])) rfl (by rw [hml]; rfl) (argsL := [(.ref r0), (.int (44 : Int32)), (.int (3 : Int32)), (.int (4 : Int32))]) (rest := []) (lenOf pd_18 rfl) rfl (by show 2 * 0 + _ ≤ _; exact Nat.le_of_eq rfl) (hb hby d21_33) (fun _ _ => ⟨rfl, e7, (by decide : 0 + 0 ≤ _), (by decide : 0 + 0 ≤ _)⟩)
  dsimp only [Pt.U, Pt.locs, Pt.cells, Pt.slots] at X9 l9 y9 z9 st9 hQ9
  subst l9 y9 z9
  obtain ⟨z9, hz9, rfl, Nq9, e9⟩ := hQ9
  have N9 := Fr.app N7 Nq9
  obtain ⟨fs, hr, hrun, hended, hW, hsame⟩ := X9.leave (v := some (.int z9)) (fun h => by rw [Bd.returns] at h; cases h)
  refine ⟨_, _, pre0 _ (st1 _ (st2 _ (st3 _ (st4 _ (st5 _ (st6 _ (st7 _ (st8 _ (st9 _ ?_))))))))), hrun, hended, _, _, rfl, ?_, ⟨_, rfl⟩, hW, hsame.mono (by decide) (by decide)⟩
  · show Steps p.tables e below (T9.setTop (mkF m 36 #[.val (.ref r0), .val (.int (44 : Int32)), .val (.int (3 : Int32)), .val (.int (4 : Int32))] [(.int z9)])) _
    exact retI X9 hx Bd.returns (hb hby d21_36) hr
  · show Q_rmAio3_L4 Z r0 cs fm ky c0 c1 c2 c3 h0 n0 _ T9.heap _
    rw [e9]
    exact ⟨_, hz9, rfl, N9, rfl⟩
theorem ef_rmAio4_L4 (m : MethodId) (x0 : Addr) (x1 : Int32) (x2 : Int32) (x3 : Int32) : entryFrame m #[(.ref x0), (.int x1), (.int x2), (.int x2)] 4 = mkF m 0 #[.val (.ref x0), .val (.int x1), .val (.int x2), .val (.int x2)] [] := by first | (simp [entryFrame, mkF, argsToLocals, Value.category]; done) | rfl
def Q_rmAio4_L4 (Z : State) (r0 : Addr) (cs : Int32) (fm : Value) (ky : ClassId) (c0 : Int32) (c1 : Int32) (c2 : Int32) (c3 : Int32) (h0 : Heap) (n0 : Nat) (v : Option Value) (h : Heap) (L : List Loc) : Prop := ∃ z : Int32, (z < 0 ↔ ¬ (False)) ∧ v = some (.int z) ∧ Fr n0 L ∧ h = h0
set_option maxRecDepth 65536 in
set_option maxHeartbeats 40000000 in
theorem rmAio4_L4 (l : Launch) (Z : State) (a0 : Array Value) (hw : ∀ d ∈ tables_1, d.before a0 Z = true) (ws : List Jvm.Cond) (r0 : Addr) (cs : Int32) (fm : Value) (ky : ClassId) (c0 : Int32) (c1 : Int32) (c2 : Int32) (c3 : Int32) (h0 : Heap) (n0 : Nat) (Z0 : n0 ≤ h0.size) (SB : own_St Z cs fm) (Od : Old Z n0 h0) (Vy : Arv Z h0 r0 ky .byte (4 : Int32) [(.int (c0.toInt8.toInt32)), (.int (c1.toInt8.toInt32)), (.int (c2.toInt8.toInt32)), (.int (c3.toInt8.toInt32))] (.int (0 : Int32))) :
    MetFree l (⟨"java/lang/StringLatin1", "indexOf", "([BIII)I"⟩ : MethodName) (head1 (Jvm.Cond.code (⟨"java/lang/StringLatin1", "indexOf", "([BIII)I"⟩ : MethodName) jdk_43_method_22_code 4 (some .int) :: ws) ({ frames := 1, cells := 0, slots := 0, locals := 17 } : Room)) (fun a U => a = #[(.ref r0), (.int (44 : Int32)), (.int (4 : Int32)), (.int (4 : Int32))] ∧ Z.Warmed39 U.vm ∧ U.heap = h0) (fun _ _ _ _ _ => True) (fun _ U o U' => ∃ v L, o = .returned v ∧ Q_rmAio4_L4 Z r0 cs fm ky c0 c1 c2 c3 h0 n0 v U'.heap L ∧ FrameEnd U o U' L ({ frames := 1, cells := 0, slots := 0, locals := 17 } : Room).cells ({ frames := 1, cells := 0, slots := 0, locals := 17 } : Room).slots) := by
  refine MetFree.of_bodySF (plainFor_of_name pn_3) hisR ?_
  intro p e s m args below meth c s₁ Bd hml0 hP hK
  obtain ⟨rfl, hZ, hh⟩ := hP
  have hx := Bd.exec
  have hby := Bd.bytes
  have hml : c.maxLocals = 4 := hml0
  have hown : s.vm.findClass "java/lang/StringLatin1" = some m.cls := findClass_of_methodNamed Bd.named
  have hnm := (name_of_methodNamed Bd.named Bd.method).1
  have X0 : Stand p l e ({ frames := 1, cells := 0, slots := 0, locals := 17 } : Room) s m #[(.ref r0), (.int (44 : Int32)), (.int (4 : Int32)), (.int (4 : Int32))] below meth c s₁ [] 0 0 := Stand.of_body Bd
  have e0 : s₁.heap = h0 := by rw [← hh, Bd.state]; rfl
  have N0 := Fr.nil n0
  have pre0 : ∀ t, Steps p.tables e below (s₁.setTop (mkF m 0 #[.val (.ref r0), .val (.int (44 : Int32)), .val (.int (4 : Int32)), .val (.int (4 : Int32))] [])) t → Steps p.tables e below (s₁.setTop (entryFrame m #[(.ref r0), (.int (44 : Int32)), (.int (4 : Int32)), (.int (4 : Int32))] 4)) t := fun t k => castTop (ef_rmAio4_L4 m r0 (44 : Int32) (4 : Int32) (4 : Int32)) k
  have st1 : own_S p e below s₁ (mkF m 1 #[.val (.ref r0), .val (.int (44 : Int32)), .val (.int (4 : Int32)), .val (.int (4 : Int32))] [(.int (44 : Int32))]) (mkF m 0 #[.val (.ref r0), .val (.int (44 : Int32)), .val (.int (4 : Int32)), .val (.int (4 : Int32))] []) := by
    intro target kt
    refine XS.iloadN X0.here hx rfl (hb hby d21_0) rfl ?_
    exact kt
  obtain ⟨_, _, ⟨T2, L2, k2, n2⟩, -, X2, ⟨Lc2, hQ2, l2, y2, z2⟩, st2⟩ := Jvm.LawKit.callS X0 hx (y := (⟨"java/lang/StringLatin1", "canEncode", "(I)Z"⟩ : MethodName)) hown (mvT hZ (own_w hw 114 rfl)) (mvT hZ (own_w hw 115 rfl)) (mvT hZ (own_w hw 86 rfl)) (mvT hZ (own_w hw 116 rfl)) (by decide) (backOf (W := 0) (rm22 l Z a0 hw [] (44 : Int32)  h0 n0 Z0 ) hZ (own_w hw 116 rfl) (own_w hw 86 rfl) (by decide) (by decide)) (g := (mkF m 1 #[.val (.ref r0), .val (.int (44 : Int32)), .val (.int (4 : Int32)), .val (.int (4 : Int32))] [(.int (44 : Int32))])) rfl (by rw [hml]; rfl) (argsL := [(.int (44 : Int32))]) (rest := []) (lenOf pd_19 rfl) rfl (by show 2 * 0 + _ ≤ _; exact Nat.le_of_eq rfl) (hb hby d21_1) (fun _ _ => ⟨rfl, e0, (by decide : 0 + 0 ≤ _), (by decide : 0 + 0 ≤ _)⟩)
  dsimp only [Pt.U, Pt.locs, Pt.cells, Pt.slots] at X2 l2 y2 z2 st2 hQ2
  subst l2 y2 z2
  obtain ⟨rfl, Nq2, e2⟩ := hQ2
  have N2 := Fr.app N0 Nq2
  rw [if_neg (by decide), if_neg (by decide)] at st2
  have st3 : own_S p e below T2 (mkF m 11 #[.val (.ref r0), .val (.int (44 : Int32)), .val (.int (4 : Int32)), .val (.int (4 : Int32))] [(.int (0 : Int32)), (.int (4 : Int32))]) (mkF m 4 #[.val (.ref r0), .val (.int (44 : Int32)), .val (.int (4 : Int32)), .val (.int (4 : Int32))] [(.int (1 : Int32))]) := by
    intro target kt
    refine XS.ifYes X2.here hx rfl (pc0 := 4) (pc' := 9) rfl (hb hby d21_4) rfl ((if0 _ _).trans (feq (by decide : ¬ ((1 : Int32) = (0 : Int32)))).2) (by decide) (by decide) ?_
    refine XS.iloadN X2.here hx rfl (hb hby d21_9) rfl ?_
    refine XS.iconst X2.here hx rfl (hb hby d21_10) ?_
    exact kt
  obtain ⟨_, _, ⟨T4, L4, k4, n4⟩, -, X4, ⟨Lc4, hQ4, l4, y4, z4⟩, st4⟩ := Jvm.LawKit.callS X2 hx (y := (⟨"java/lang/Math", "max", "(II)I"⟩ : MethodName)) hown (mvT hZ (own_w hw 117 rfl)) (mvT hZ (own_w hw 118 rfl)) (mvT hZ (own_w hw 119 rfl)) (mvT hZ (own_w hw 120 rfl)) (by decide) (backOf (W := 0) (rm23 l Z a0 hw [] (4 : Int32) (0 : Int32)  h0 n0 Z0 ) hZ (own_w hw 120 rfl) (own_w hw 119 rfl) (by decide) (by decide)) (g := (mkF m 11 #[.val (.ref r0), .val (.int (44 : Int32)), .val (.int (4 : Int32)), .val (.int (4 : Int32))] [(.int (0 : Int32)), (.int (4 : Int32))])) rfl (by rw [hml]; rfl) (argsL := [(.int (4 : Int32)), (.int (0 : Int32))]) (rest := []) (lenOf pd_17 rfl) rfl (by show 2 * 0 + _ ≤ _; exact Nat.le_of_eq rfl) (hb hby d21_11) (fun _ _ => ⟨rfl, e2, (by decide : 0 + 0 ≤ _), (by decide : 0 + 0 ≤ _)⟩)
  dsimp only [Pt.U, Pt.locs, Pt.cells, Pt.slots] at X4 l4 y4 z4 st4 hQ4
  subst l4 y4 z4
  obtain ⟨rfl, Nq4, e4⟩ := hQ4
  have N4 := Fr.app N2 Nq4
  rw [if_neg (by decide)] at st4
  have st5 : own_S p e below T4 (mkF m 17 #[.val (.ref r0), .val (.int (44 : Int32)), .val (.int (4 : Int32)), .val (.int (4 : Int32))] [(.ref r0), (.int (4 : Int32))]) (mkF m 14 #[.val (.ref r0), .val (.int (44 : Int32)), .val (.int (4 : Int32)), .val (.int (4 : Int32))] [(.int (4 : Int32))]) := by
    intro target kt
    refine XS.istoreN X4.here hx rfl (hb hby d21_14) rfl (l' := #[.val (.ref r0), .val (.int (44 : Int32)), .val (.int (4 : Int32)), .val (.int (4 : Int32))]) rfl ?_
    refine XS.iloadN X4.here hx rfl (hb hby d21_15) rfl ?_
    refine XS.aloadN X4.here hx rfl (hb hby d21_16) rfl rfl ?_
    exact kt
  obtain ⟨cl6, Ar6, qc6, Sz6, Mn6, Hs6, Gs6⟩ := id Vy
  have st6 : own_S p e below T4 (mkF m 18 #[.val (.ref r0), .val (.int (44 : Int32)), .val (.int (4 : Int32)), .val (.int (4 : Int32))] [(.int (4 : Int32)), (.int (4 : Int32))]) (mkF m 17 #[.val (.ref r0), .val (.int (44 : Int32)), .val (.int (4 : Int32)), .val (.int (4 : Int32))] [(.ref r0), (.int (4 : Int32))]) := fun target kt => X4.arraylength hx (cell := cl6) (by rw [e4]; exact Ar6.1) (State.isArrayOf_alike hZ.alike Ar6.2.1) (g := (mkF m 17 #[.val (.ref r0), .val (.int (44 : Int32)), .val (.int (4 : Int32)), .val (.int (4 : Int32))] [(.ref r0), (.int (4 : Int32))])) rfl rfl (hb hby d21_17) _ (by rw [len_of Sz6 Mn6]; exact kt)
  obtain ⟨_, _, ⟨T7, L7, k7, n7⟩, -, X7, ⟨Lc7, hQ7, l7, y7, z7⟩, st7⟩ := Jvm.LawKit.callS X4 hx (y := (⟨"java/lang/Math", "min", "(II)I"⟩ : MethodName)) hown (mvT hZ (own_w hw 121 rfl)) (mvT hZ (own_w hw 122 rfl)) (mvT hZ (own_w hw 119 rfl)) (mvT hZ (own_w hw 123 rfl)) (by decide) (backOf (W := 0) (rm24 l Z a0 hw [] (4 : Int32) (4 : Int32)  h0 n0 Z0 ) hZ (own_w hw 123 rfl) (own_w hw 119 rfl) (by decide) (by decide)) (g := (mkF m 18 #[.val (.ref r0), .val (.int (44 : Int32)), .val (.int (4 : Int32)), .val (.int (4 : Int32))] [(.int (4 : Int32)), (.int (4 : Int32))])) rfl (by rw [hml]; rfl) (argsL := [(.int (4 : Int32)), (.int (4 : Int32))]) (rest := []) (lenOf pd_17 rfl) rfl (by show 2 * 0 + _ ≤ _; exact Nat.le_of_eq rfl) (hb hby d21_18) (fun _ _ => ⟨rfl, e4, (by decide : 0 + 0 ≤ _), (by decide : 0 + 0 ≤ _)⟩)
  dsimp only [Pt.U, Pt.locs, Pt.cells, Pt.slots] at X7 l7 y7 z7 st7 hQ7
  subst l7 y7 z7
  obtain ⟨rfl, Nq7, e7⟩ := hQ7
  have N7 := Fr.app N4 Nq7
  rw [if_neg (by decide)] at st7
  have st8 : own_S p e below T7 (mkF m 28 #[.val (.ref r0), .val (.int (44 : Int32)), .val (.int (4 : Int32)), .val (.int (4 : Int32))] [(.int (-1 : Int32))]) (mkF m 21 #[.val (.ref r0), .val (.int (44 : Int32)), .val (.int (4 : Int32)), .val (.int (4 : Int32))] [(.int (4 : Int32))]) := by
    intro target kt
    refine XS.istoreN X7.here hx rfl (hb hby d21_21) rfl (l' := #[.val (.ref r0), .val (.int (44 : Int32)), .val (.int (4 : Int32)), .val (.int (4 : Int32))]) rfl ?_
    refine XS.iloadN X7.here hx rfl (hb hby d21_22) rfl ?_
    refine XS.iloadN X7.here hx rfl (hb hby d21_23) rfl ?_
    refine XS.icmpNo X7.here hx rfl (hb hby d21_24) rfl (flt (by decide : ¬ ((4 : Int32) < (4 : Int32)))).1 ?_
    refine XS.iconst X7.here hx rfl (hb hby d21_27) ?_
    exact kt
  obtain ⟨fs, hr, hrun, hended, hW, hsame⟩ := X7.leave (v := some (.int (-1 : Int32))) (fun h => by rw [Bd.returns] at h; cases h)
  refine ⟨_, _, pre0 _ (st1 _ (st2 _ (st3 _ (st4 _ (st5 _ (st6 _ (st7 _ (st8 _ ?_)))))))), hrun, hended, _, _, rfl, ?_, ⟨_, rfl⟩, hW, hsame.mono (by decide) (by decide)⟩
  · show Steps p.tables e below (T7.setTop (mkF m 28 #[.val (.ref r0), .val (.int (44 : Int32)), .val (.int (4 : Int32)), .val (.int (4 : Int32))] [(.int (-1 : Int32))])) _
    exact retI X7 hx Bd.returns (hb hby d21_28) hr
  · show Q_rmAio4_L4 Z r0 cs fm ky c0 c1 c2 c3 h0 n0 _ T7.heap _
    rw [e7]
    exact ⟨_, iff_of_true (by decide) (by simp), rfl, N7, rfl⟩
def Q_rmAjB_L4 (Z : State) (r0 : Addr) (p1 : Int32) (cs : Int32) (fm : Value) (ky : ClassId) (c0 : Int32) (c1 : Int32) (c2 : Int32) (c3 : Int32) (c : Int32) (h0 : Heap) (n0 : Nat) (v : Option Value) (h : Heap) (L : List Loc) : Prop := v = some (.int c) ∧ Fr n0 L ∧ h = h0
theorem rmAjB_L4 (l : Launch) (Z : State) (a0 : Array Value) (hw : ∀ d ∈ tables_1, d.before a0 Z = true) (ws : List Jvm.Cond) (r0 : Addr) (p1 : Int32) (cs : Int32) (fm : Value) (ky : ClassId) (c0 : Int32) (c1 : Int32) (c2 : Int32) (c3 : Int32) (c : Int32) (h0 : Heap) (n0 : Nat) (Z0 : n0 ≤ h0.size) (SB : own_St Z cs fm) (Od : Old Z n0 h0) (Vy : Arv Z h0 r0 ky .byte (4 : Int32) [(.int (c0.toInt8.toInt32)), (.int (c1.toInt8.toInt32)), (.int (c2.toInt8.toInt32)), (.int (c3.toInt8.toInt32))] (.int (0 : Int32))) (a0_ : 0 ≤ c0.toInt ∧ c0.toInt < 256) (a1_ : 0 ≤ c1.toInt ∧ c1.toInt < 256) (a2_ : 0 ≤ c2.toInt ∧ c2.toInt < 256) (a3_ : 0 ≤ c3.toInt ∧ c3.toInt < 256) (hix : own_ix4 p1 c c0 c1 c2 c3) :
    MetFree l (⟨"java/lang/StringLatin1", "charAt", "([BI)C"⟩ : MethodName) (head1 (Jvm.Cond.code (⟨"java/lang/StringLatin1", "charAt", "([BI)C"⟩ : MethodName) jdk_43_method_2_code 2 (some .char) :: ws) ({ frames := 2, cells := 0, slots := 0, locals := 27 } : Room)) (fun a U => a = #[(.ref r0), (.int p1)] ∧ Z.Warmed39 U.vm ∧ U.heap = h0) (fun _ _ _ _ _ => True) (fun _ U o U' => ∃ v L, o = .returned v ∧ Q_rmAjB_L4 Z r0 p1 cs fm ky c0 c1 c2 c3 c h0 n0 v U'.heap L ∧ FrameEnd U o U' L ({ frames := 2, cells := 0, slots := 0, locals := 27 } : Room).cells ({ frames := 2, cells := 0, slots := 0, locals := 27 } : Room).slots) := by
  rcases hix with ⟨j, k⟩ | ⟨j, k⟩ | ⟨j, k⟩ | ⟨j, k⟩
  · subst j; rw [k]; exact rmAch0_L4 l Z a0 hw ws r0 cs fm ky c0 c1 c2 c3 h0 n0 Z0 SB Od Vy a0_
  · subst j; rw [k]; exact rmAch1_L4 l Z a0 hw ws r0 cs fm ky c0 c1 c2 c3 h0 n0 Z0 SB Od Vy a1_
  · subst j; rw [k]; exact rmAch2_L4 l Z a0 hw ws r0 cs fm ky c0 c1 c2 c3 h0 n0 Z0 SB Od Vy a2_
  · subst j; rw [k]; exact rmAch3_L4 l Z a0 hw ws r0 cs fm ky c0 c1 c2 c3 h0 n0 Z0 SB Od Vy a3_
theorem d13_0 : decode jdk_42_method_56_code 0 = .ok (.aload_n 0, 1) := by decide +kernel
theorem d13_1 : decode jdk_42_method_56_code 1 = .ok (.invokevirtual 492, 3) := by decide +kernel
theorem d13_4 : decode jdk_42_method_56_code 4 = .ok (.ifCond .eq 12, 3) := by decide +kernel
theorem d13_7 : decode jdk_42_method_56_code 7 = .ok (.aload_n 0, 1) := by decide +kernel
theorem d13_8 : decode jdk_42_method_56_code 8 = .ok (.getfield 9, 3) := by decide +kernel
theorem d13_11 : decode jdk_42_method_56_code 11 = .ok (.iload_n 1, 1) := by decide +kernel
theorem d13_12 : decode jdk_42_method_56_code 12 = .ok (.invokestatic 495, 3) := by decide +kernel
theorem d13_15 : decode jdk_42_method_56_code 15 = .ok (.ireturn, 1) := by decide +kernel
theorem d13_16 : decode jdk_42_method_56_code 16 = .ok (.aload_n 0, 1) := by decide +kernel
theorem d13_17 : decode jdk_42_method_56_code 17 = .ok (.getfield 9, 3) := by decide +kernel
theorem d13_20 : decode jdk_42_method_56_code 20 = .ok (.iload_n 1, 1) := by decide +kernel
theorem d13_21 : decode jdk_42_method_56_code 21 = .ok (.invokestatic 498, 3) := by decide +kernel
theorem d13_24 : decode jdk_42_method_56_code 24 = .ok (.ireturn, 1) := by decide +kernel
theorem ef_rmChS_L4 (m : MethodId) (x0 : Addr) (x1 : Int32) : entryFrame m #[(.ref x0), (.int x1)] 2 = mkF m 0 #[.val (.ref x0), .val (.int x1)] [] := by first | (simp [entryFrame, mkF, argsToLocals, Value.category]; done) | rfl
def Q_rmChS_L4 (Z : State) (r0 : Addr) (p1 : Int32) (cs : Int32) (fm : Value) (y : Addr) (ky : ClassId) (c0 : Int32) (c1 : Int32) (c2 : Int32) (c3 : Int32) (ch : Int32) (h0 : Heap) (n0 : Nat) (v : Option Value) (h : Heap) (L : List Loc) : Prop := v = some (.int ch) ∧ Fr n0 L ∧ h = h0
set_option maxRecDepth 65536 in
set_option maxHeartbeats 40000000 in
theorem rmChS_L4 (l : Launch) (Z : State) (a0 : Array Value) (hw : ∀ d ∈ tables_1, d.before a0 Z = true) (ws : List Jvm.Cond) (r0 : Addr) (p1 : Int32) (cs : Int32) (fm : Value) (y : Addr) (ky : ClassId) (c0 : Int32) (c1 : Int32) (c2 : Int32) (c3 : Int32) (ch : Int32) (h0 : Heap) (n0 : Nat) (Z0 : n0 ≤ h0.size) (SB : own_St Z cs fm) (Od : Old Z n0 h0) (Fv : Fld Z h0 r0 "java/lang/String" "value" "[B" (.ref y)) (Fc : Fld Z h0 r0 "java/lang/String" "coder" "B" (.int (0 : Int32))) (Et : Exa Z h0 r0 "java/lang/String") (Vy : Arv Z h0 y ky .byte (4 : Int32) [(.int (c0.toInt8.toInt32)), (.int (c1.toInt8.toInt32)), (.int (c2.toInt8.toInt32)), (.int (c3.toInt8.toInt32))] (.int (0 : Int32))) (a0_ : 0 ≤ c0.toInt ∧ c0.toInt < 256) (a1_ : 0 ≤ c1.toInt ∧ c1.toInt < 256) (a2_ : 0 ≤ c2.toInt ∧ c2.toInt < 256) (a3_ : 0 ≤ c3.toInt ∧ c3.toInt < 256) (hix : own_ix4 p1 ch c0 c1 c2 c3) (hc_ : own_ch ch) :
    MetFree l (⟨"java/lang/String", "charAt", "(I)C"⟩ : MethodName) (head1 (Jvm.Cond.code (⟨"java/lang/String", "charAt", "(I)C"⟩ : MethodName) jdk_42_method_56_code 2 (some .char) :: ws) ({ frames := 4, cells := 0, slots := 0, locals := 53 } : Room)) (fun a U => a = #[(.ref r0), (.int p1)] ∧ Z.Warmed39 U.vm ∧ U.heap = h0) (fun _ _ _ _ _ => True) (fun _ U o U' => ∃ v L, o = .returned v ∧ Q_rmChS_L4 Z r0 p1 cs fm y ky c0 c1 c2 c3 ch h0 n0 v U'.heap L ∧ FrameEnd U o U' L ({ frames := 4, cells := 0, slots := 0, locals := 53 } : Room).cells ({ frames := 4, cells := 0, slots := 0, locals := 53 } : Room).slots) := by
  refine MetFree.of_bodySF (plainFor_of_name pn_1) hisR ?_
  intro p e s m args below meth c s₁ Bd hml0 hP hK
  obtain ⟨rfl, hZ, hh⟩ := hP
  have hx := Bd.exec
  have hby := Bd.bytes
  have hml : c.maxLocals = 2 := hml0
  have hown : s.vm.findClass "java/lang/String" = some m.cls := findClass_of_methodNamed Bd.named
  have hnm := (name_of_methodNamed Bd.named Bd.method).1
  have X0 : Stand p l e ({ frames := 4, cells := 0, slots := 0, locals := 53 } : Room) s m #[(.ref r0), (.int p1)] below meth c s₁ [] 0 0 := Stand.of_body Bd
  have e0 : s₁.heap = h0 := by rw [← hh, Bd.state]; rfl
  have N0 := Fr.nil n0
  have pre0 : ∀ t, Steps p.tables e below (s₁.setTop (mkF m 0 #[.val (.ref r0), .val (.int p1)] [])) t → Steps p.tables e below (s₁.setTop (entryFrame m #[(.ref r0), (.int p1)] 2)) t := fun t k => castTop (ef_rmChS_L4 m r0 p1) k
  have st1 : own_S p e below s₁ (mkF m 1 #[.val (.ref r0), .val (.int p1)] [(.ref r0)]) (mkF m 0 #[.val (.ref r0), .val (.int p1)] []) := by
    intro target kt
    refine XS.aloadN X0.here hx rfl (hb hby d13_0) rfl rfl ?_
    exact kt
  obtain ⟨cq2, kq2, qv2a, qv2b, qv2c⟩ := isOf hZ e0 Et
  obtain ⟨_, _, ⟨T2, L2, k2, n2⟩, -, X2, ⟨Lc2, hQ2, l2, y2, z2⟩, st2⟩ := X0.virtualBack hx (y := (⟨"java/lang/String", "isLatin1", "()Z"⟩ : MethodName)) (z := (⟨"java/lang/String", "isLatin1", "()Z"⟩ : MethodName)) hown (mvT hZ (own_w hw 79 rfl)) (mvT hZ (own_w hw 80 rfl)) (notFace_of_selects (args := #[]) (mvT hZ (own_w hw 82 rfl))) (mvT hZ (own_w hw 82 rfl)) (mvT hZ (own_w hw 81 rfl)) (by decide) (backOf (W := 0) (rmLat_L4 l Z a0 hw [] r0 cs fm h0 n0 Z0 SB Od Fc) hZ (own_w hw 83 rfl) (own_w hw 10 rfl) (by decide) (by decide)) qv2a qv2c (g := (mkF m 1 #[.val (.ref r0), .val (.int p1)] [(.ref r0)])) rfl (by rw [hml]; rfl) (Steps.refl _) (argsL := []) (rest := []) (lenOf pd_12 rfl) rfl (by show 2 * 0 + _ ≤ _; exact Nat.le_of_eq rfl) (hb hby d13_1) (fun _ _ => ⟨rfl, e0, (by decide : 0 + 0 ≤ _), (by decide : 0 + 0 ≤ _)⟩)
  dsimp only [Pt.U, Pt.locs, Pt.cells, Pt.slots] at X2 l2 y2 z2 st2 hQ2
  subst l2 y2 z2
  obtain ⟨rfl, Nq2, e2⟩ := hQ2
  have N2 := Fr.app N0 Nq2
  have st3 : own_S p e below T2 (mkF m 8 #[.val (.ref r0), .val (.int p1)] [(.ref r0)]) (mkF m 4 #[.val (.ref r0), .val (.int p1)] [(.int (1 : Int32))]) := by
    intro target kt
    refine XS.ifNo X2.here hx rfl (hb hby d13_4) rfl ((if0 _ _).trans (feq (by decide : ¬ ((1 : Int32) = (0 : Int32)))).1) ?_
    refine XS.aloadN X2.here hx rfl (hb hby d13_7) rfl rfl ?_
    exact kt
  obtain ⟨T4, X4, e4, st4⟩ := getF X2 hx hZ hown (host := "") (Or.inl (own_w hw 35 rfl)) Via.refl e2 Fv (g := (mkF m 8 #[.val (.ref r0), .val (.int p1)] [(.ref r0)])) rfl rfl (hb hby d13_8)
  have st5 : own_S p e below T4 (mkF m 12 #[.val (.ref r0), .val (.int p1)] [(.int p1), (.ref y)]) (mkF m 11 #[.val (.ref r0), .val (.int p1)] [(.ref y)]) := by
    intro target kt
    refine XS.iloadN X4.here hx rfl (hb hby d13_11) rfl ?_
    exact kt
  obtain ⟨_, _, ⟨T6, L6, k6, n6⟩, -, X6, ⟨Lc6, hQ6, l6, y6, z6⟩, st6⟩ := Jvm.LawKit.callS X4 hx (y := (⟨"java/lang/StringLatin1", "charAt", "([BI)C"⟩ : MethodName)) hown (mvT hZ (own_w hw 84 rfl)) (mvT hZ (own_w hw 85 rfl)) (mvT hZ (own_w hw 86 rfl)) (mvT hZ (own_w hw 87 rfl)) (by decide) (backOf (W := 0) (rmAjB_L4 l Z a0 hw [] y p1 cs fm ky c0 c1 c2 c3 ch h0 n0 Z0 SB Od Vy a0_ a1_ a2_ a3_ hix) hZ (own_w hw 87 rfl) (own_w hw 86 rfl) (by decide) (by decide)) (g := (mkF m 12 #[.val (.ref r0), .val (.int p1)] [(.int p1), (.ref y)])) rfl (by rw [hml]; rfl) (argsL := [(.ref y), (.int p1)]) (rest := []) (lenOf pd_13 rfl) rfl (by show 2 * 0 + _ ≤ _; exact Nat.le_of_eq rfl) (hb hby d13_12) (fun _ _ => ⟨rfl, e4, (by decide : 0 + 0 ≤ _), (by decide : 0 + 0 ≤ _)⟩)
  dsimp only [Pt.U, Pt.locs, Pt.cells, Pt.slots] at X6 l6 y6 z6 st6 hQ6
  subst l6 y6 z6
  obtain ⟨rfl, Nq6, e6⟩ := hQ6
  have N6 := Fr.app N2 Nq6
  obtain ⟨fs, hr, hrun, hended, hW, hsame⟩ := X6.leave (v := some (.int (nar .char ch))) (fun h => by rw [Bd.returns] at h; cases h)
  refine ⟨_, _, pre0 _ (st1 _ (st2.trans (st3 _ (st4 _ (st5 _ (st6 _ ?_)))))), hrun, hended, _, _, rfl, ?_, ⟨_, rfl⟩, hW, hsame.mono (by decide) (by decide)⟩
  · show Steps p.tables e below (T6.setTop (mkF m 15 #[.val (.ref r0), .val (.int p1)] [(.int ch)])) _
    exact retN X6 hx (t := .char) Bd.returns (by simp) (hb hby d13_15) hr
  · show Q_rmChS_L4 Z r0 p1 cs fm y ky c0 c1 c2 c3 ch h0 n0 _ T6.heap _
    rw [e6]
    exact ⟨congrArg (fun z => some (Value.int z)) (own_ncI hc_), N6, rfl⟩
def Q_rmAkB_L4 (Z : State) (r0 : Addr) (p2 : Int32) (cs : Int32) (fm : Value) (ky : ClassId) (c0 : Int32) (c1 : Int32) (c2 : Int32) (c3 : Int32) (P : Prop) (h0 : Heap) (n0 : Nat) (v : Option Value) (h : Heap) (L : List Loc) : Prop := ∃ z : Int32, (z < 0 ↔ ¬ P) ∧ v = some (.int z) ∧ Fr n0 L ∧ h = h0
theorem rmAkB_L4 (l : Launch) (Z : State) (a0 : Array Value) (hw : ∀ d ∈ tables_1, d.before a0 Z = true) (ws : List Jvm.Cond) (r0 : Addr) (p2 : Int32) (cs : Int32) (fm : Value) (ky : ClassId) (c0 : Int32) (c1 : Int32) (c2 : Int32) (c3 : Int32) (P : Prop) (h0 : Heap) (n0 : Nat) (Z0 : n0 ≤ h0.size) (SB : own_St Z cs fm) (Od : Old Z n0 h0) (Vy : Arv Z h0 r0 ky .byte (4 : Int32) [(.int (c0.toInt8.toInt32)), (.int (c1.toInt8.toInt32)), (.int (c2.toInt8.toInt32)), (.int (c3.toInt8.toInt32))] (.int (0 : Int32))) (a0_ : 0 ≤ c0.toInt ∧ c0.toInt < 256) (a1_ : 0 ≤ c1.toInt ∧ c1.toInt < 256) (a2_ : 0 ≤ c2.toInt ∧ c2.toInt < 256) (a3_ : 0 ≤ c3.toInt ∧ c3.toInt < 256) (hip : own_ip4 p2 P c0 c1 c2 c3) :
    MetFree l (⟨"java/lang/StringLatin1", "indexOf", "([BIII)I"⟩ : MethodName) (head1 (Jvm.Cond.code (⟨"java/lang/StringLatin1", "indexOf", "([BIII)I"⟩ : MethodName) jdk_43_method_22_code 4 (some .int) :: ws) ({ frames := 1, cells := 0, slots := 0, locals := 17 } : Room)) (fun a U => a = #[(.ref r0), (.int (44 : Int32)), (.int p2), (.int (4 : Int32))] ∧ Z.Warmed39 U.vm ∧ U.heap = h0) (fun _ _ _ _ _ => True) (fun _ U o U' => ∃ v L, o = .returned v ∧ Q_rmAkB_L4 Z r0 p2 cs fm ky c0 c1 c2 c3 P h0 n0 v U'.heap L ∧ FrameEnd U o U' L ({ frames := 1, cells := 0, slots := 0, locals := 17 } : Room).cells ({ frames := 1, cells := 0, slots := 0, locals := 17 } : Room).slots) := by
  rcases hip with ⟨j, k⟩ | ⟨j, k⟩ | ⟨j, k⟩ | ⟨j, k⟩
  · subst j; rw [k]; exact rmAio1_L4 l Z a0 hw ws r0 cs fm ky c0 c1 c2 c3 h0 n0 Z0 SB Od Vy a1_ a2_ a3_
  · subst j; rw [k]; exact rmAio2_L4 l Z a0 hw ws r0 cs fm ky c0 c1 c2 c3 h0 n0 Z0 SB Od Vy a2_ a3_
  · subst j; rw [k]; exact rmAio3_L4 l Z a0 hw ws r0 cs fm ky c0 c1 c2 c3 h0 n0 Z0 SB Od Vy a3_
  · subst j; rw [k]; exact rmAio4_L4 l Z a0 hw ws r0 cs fm ky c0 c1 c2 c3 h0 n0 Z0 SB Od Vy 
theorem d20_0 : decode jdk_42_method_80_code 0 = .ok (.aload_n 0, 1) := by decide +kernel
theorem d20_1 : decode jdk_42_method_80_code 1 = .ok (.invokevirtual 492, 3) := by decide +kernel
theorem d20_4 : decode jdk_42_method_80_code 4 = .ok (.ifCond .eq 19, 3) := by decide +kernel
theorem d20_7 : decode jdk_42_method_80_code 7 = .ok (.aload_n 0, 1) := by decide +kernel
theorem d20_8 : decode jdk_42_method_80_code 8 = .ok (.getfield 9, 3) := by decide +kernel
theorem d20_11 : decode jdk_42_method_80_code 11 = .ok (.iload_n 1, 1) := by decide +kernel
theorem d20_12 : decode jdk_42_method_80_code 12 = .ok (.iload_n 2, 1) := by decide +kernel
theorem d20_13 : decode jdk_42_method_80_code 13 = .ok (.aload_n 0, 1) := by decide +kernel
theorem d20_14 : decode jdk_42_method_80_code 14 = .ok (.invokevirtual 505, 3) := by decide +kernel
theorem d20_17 : decode jdk_42_method_80_code 17 = .ok (.invokestatic 637, 3) := by decide +kernel
theorem d20_20 : decode jdk_42_method_80_code 20 = .ok (.goto 16, 3) := by decide +kernel
theorem d20_23 : decode jdk_42_method_80_code 23 = .ok (.aload_n 0, 1) := by decide +kernel
theorem d20_24 : decode jdk_42_method_80_code 24 = .ok (.getfield 9, 3) := by decide +kernel
theorem d20_27 : decode jdk_42_method_80_code 27 = .ok (.iload_n 1, 1) := by decide +kernel
theorem d20_28 : decode jdk_42_method_80_code 28 = .ok (.iload_n 2, 1) := by decide +kernel
theorem d20_29 : decode jdk_42_method_80_code 29 = .ok (.aload_n 0, 1) := by decide +kernel
theorem d20_30 : decode jdk_42_method_80_code 30 = .ok (.invokevirtual 505, 3) := by decide +kernel
theorem d20_33 : decode jdk_42_method_80_code 33 = .ok (.invokestatic 640, 3) := by decide +kernel
theorem d20_36 : decode jdk_42_method_80_code 36 = .ok (.ireturn, 1) := by decide +kernel
theorem ef_rmIoS_L4 (m : MethodId) (x0 : Addr) (x1 : Int32) (x2 : Int32) : entryFrame m #[(.ref x0), (.int x1), (.int x2)] 3 = mkF m 0 #[.val (.ref x0), .val (.int x1), .val (.int x2)] [] := by first | (simp [entryFrame, mkF, argsToLocals, Value.category]; done) | rfl
def Q_rmIoS_L4 (Z : State) (r0 : Addr) (p2 : Int32) (cs : Int32) (fm : Value) (y : Addr) (ky : ClassId) (c0 : Int32) (c1 : Int32) (c2 : Int32) (c3 : Int32) (P : Prop) (h0 : Heap) (n0 : Nat) (v : Option Value) (h : Heap) (L : List Loc) : Prop := ∃ z : Int32, (z < 0 ↔ ¬ P) ∧ v = some (.int z) ∧ Fr n0 L ∧ h = h0
set_option maxRecDepth 65536 in
set_option maxHeartbeats 40000000 in
theorem rmIoS_L4 (l : Launch) (Z : State) (a0 : Array Value) (hw : ∀ d ∈ tables_1, d.before a0 Z = true) (ws : List Jvm.Cond) (r0 : Addr) (p2 : Int32) (cs : Int32) (fm : Value) (y : Addr) (ky : ClassId) (c0 : Int32) (c1 : Int32) (c2 : Int32) (c3 : Int32) (P : Prop) (h0 : Heap) (n0 : Nat) (Z0 : n0 ≤ h0.size) (SB : own_St Z cs fm) (Od : Old Z n0 h0) (Fv : Fld Z h0 r0 "java/lang/String" "value" "[B" (.ref y)) (Fc : Fld Z h0 r0 "java/lang/String" "coder" "B" (.int (0 : Int32))) (Et : Exa Z h0 r0 "java/lang/String") (Vy : Arv Z h0 y ky .byte (4 : Int32) [(.int (c0.toInt8.toInt32)), (.int (c1.toInt8.toInt32)), (.int (c2.toInt8.toInt32)), (.int (c3.toInt8.toInt32))] (.int (0 : Int32))) (a0_ : 0 ≤ c0.toInt ∧ c0.toInt < 256) (a1_ : 0 ≤ c1.toInt ∧ c1.toInt < 256) (a2_ : 0 ≤ c2.toInt ∧ c2.toInt < 256) (a3_ : 0 ≤ c3.toInt ∧ c3.toInt < 256) (hip : own_ip4 p2 P c0 c1 c2 c3) :
    MetFree l (⟨"java/lang/String", "indexOf", "(II)I"⟩ : MethodName) (head1 (Jvm.Cond.code (⟨"java/lang/String", "indexOf", "(II)I"⟩ : MethodName) jdk_42_method_80_code 3 (some .int) :: ws) ({ frames := 5, cells := 0, slots := 0, locals := 73 } : Room)) (fun a U => a = #[(.ref r0), (.int (44 : Int32)), (.int p2)] ∧ Z.Warmed39 U.vm ∧ U.heap = h0) (fun _ _ _ _ _ => True) (fun _ U o U' => ∃ v L, o = .returned v ∧ Q_rmIoS_L4 Z r0 p2 cs fm y ky c0 c1 c2 c3 P h0 n0 v U'.heap L ∧ FrameEnd U o U' L ({ frames := 5, cells := 0, slots := 0, locals := 73 } : Room).cells ({ frames := 5, cells := 0, slots := 0, locals := 73 } : Room).slots) := by
  refine MetFree.of_bodySF (plainFor_of_name pn_1) hisR ?_
  intro p e s m args below meth c s₁ Bd hml0 hP hK
  obtain ⟨rfl, hZ, hh⟩ := hP
  have hx := Bd.exec
  have hby := Bd.bytes
  have hml : c.maxLocals = 3 := hml0
  have hown : s.vm.findClass "java/lang/String" = some m.cls := findClass_of_methodNamed Bd.named
  have hnm := (name_of_methodNamed Bd.named Bd.method).1
  have X0 : Stand p l e ({ frames := 5, cells := 0, slots := 0, locals := 73 } : Room) s m #[(.ref r0), (.int (44 : Int32)), (.int p2)] below meth c s₁ [] 0 0 := Stand.of_body Bd
  have e0 : s₁.heap = h0 := by rw [← hh, Bd.state]; rfl
  have N0 := Fr.nil n0
  have pre0 : ∀ t, Steps p.tables e below (s₁.setTop (mkF m 0 #[.val (.ref r0), .val (.int (44 : Int32)), .val (.int p2)] [])) t → Steps p.tables e below (s₁.setTop (entryFrame m #[(.ref r0), (.int (44 : Int32)), (.int p2)] 3)) t := fun t k => castTop (ef_rmIoS_L4 m r0 (44 : Int32) p2) k
  have st1 : own_S p e below s₁ (mkF m 1 #[.val (.ref r0), .val (.int (44 : Int32)), .val (.int p2)] [(.ref r0)]) (mkF m 0 #[.val (.ref r0), .val (.int (44 : Int32)), .val (.int p2)] []) := by
    intro target kt
    refine XS.aloadN X0.here hx rfl (hb hby d20_0) rfl rfl ?_
    exact kt
  obtain ⟨cq2, kq2, qv2a, qv2b, qv2c⟩ := isOf hZ e0 Et
  obtain ⟨_, _, ⟨T2, L2, k2, n2⟩, -, X2, ⟨Lc2, hQ2, l2, y2, z2⟩, st2⟩ := X0.virtualBack hx (y := (⟨"java/lang/String", "isLatin1", "()Z"⟩ : MethodName)) (z := (⟨"java/lang/String", "isLatin1", "()Z"⟩ : MethodName)) hown (mvT hZ (own_w hw 79 rfl)) (mvT hZ (own_w hw 80 rfl)) (notFace_of_selects (args := #[]) (mvT hZ (own_w hw 82 rfl))) (mvT hZ (own_w hw 82 rfl)) (mvT hZ (own_w hw 81 rfl)) (by decide) (backOf (W := 0) (rmLat_L4 l Z a0 hw [] r0 cs fm h0 n0 Z0 SB Od Fc) hZ (own_w hw 83 rfl) (own_w hw 10 rfl) (by decide) (by decide)) qv2a qv2c (g := (mkF m 1 #[.val (.ref r0), .val (.int (44 : Int32)), .val (.int p2)] [(.ref r0)])) rfl (by rw [hml]; rfl) (Steps.refl _) (argsL := []) (rest := []) (lenOf pd_12 rfl) rfl (by show 2 * 0 + _ ≤ _; exact Nat.le_of_eq rfl) (hb hby d20_1) (fun _ _ => ⟨rfl, e0, (by decide : 0 + 0 ≤ _), (by decide : 0 + 0 ≤ _)⟩)
  dsimp only [Pt.U, Pt.locs, Pt.cells, Pt.slots] at X2 l2 y2 z2 st2 hQ2
  subst l2 y2 z2
  obtain ⟨rfl, Nq2, e2⟩ := hQ2
  have N2 := Fr.app N0 Nq2
  have st3 : own_S p e below T2 (mkF m 8 #[.val (.ref r0), .val (.int (44 : Int32)), .val (.int p2)] [(.ref r0)]) (mkF m 4 #[.val (.ref r0), .val (.int (44 : Int32)), .val (.int p2)] [(.int (1 : Int32))]) := by
    intro target kt
    refine XS.ifNo X2.here hx rfl (hb hby d20_4) rfl ((if0 _ _).trans (feq (by decide : ¬ ((1 : Int32) = (0 : Int32)))).1) ?_
    refine XS.aloadN X2.here hx rfl (hb hby d20_7) rfl rfl ?_
    exact kt
  obtain ⟨T4, X4, e4, st4⟩ := getF X2 hx hZ hown (host := "") (Or.inl (own_w hw 35 rfl)) Via.refl e2 Fv (g := (mkF m 8 #[.val (.ref r0), .val (.int (44 : Int32)), .val (.int p2)] [(.ref r0)])) rfl rfl (hb hby d20_8)
  have st5 : own_S p e below T4 (mkF m 14 #[.val (.ref r0), .val (.int (44 : Int32)), .val (.int p2)] [(.ref r0), (.int p2), (.int (44 : Int32)), (.ref y)]) (mkF m 11 #[.val (.ref r0), .val (.int (44 : Int32)), .val (.int p2)] [(.ref y)]) := by
    intro target kt
    refine XS.iloadN X4.here hx rfl (hb hby d20_11) rfl ?_
    refine XS.iloadN X4.here hx rfl (hb hby d20_12) rfl ?_
    refine XS.aloadN X4.here hx rfl (hb hby d20_13) rfl rfl ?_
    exact kt
  obtain ⟨cq6, kq6, qv6a, qv6b, qv6c⟩ := isOf hZ e4 Et
  obtain ⟨_, _, ⟨T6, L6, k6, n6⟩, -, X6, ⟨Lc6, hQ6, l6, y6, z6⟩, st6⟩ := X4.virtualBack hx (y := (⟨"java/lang/String", "length", "()I"⟩ : MethodName)) (z := (⟨"java/lang/String", "length", "()I"⟩ : MethodName)) hown (mvT hZ (own_w hw 110 rfl)) (mvT hZ (own_w hw 65 rfl)) (notFace_of_selects (args := #[]) (mvT hZ (own_w hw 67 rfl))) (mvT hZ (own_w hw 67 rfl)) (mvT hZ (own_w hw 66 rfl)) (by decide) (backOf (W := 3) (rmLen_L4 l Z a0 hw [] r0 cs fm y ky c0 c1 c2 c3 h0 n0 Z0 SB Od Fv Fc Et Vy) hZ (own_w hw 68 rfl) (own_w hw 10 rfl) (by decide) (by decide)) qv6a qv6c (g := (mkF m 14 #[.val (.ref r0), .val (.int (44 : Int32)), .val (.int p2)] [(.ref r0), (.int p2), (.int (44 : Int32)), (.ref y)])) rfl (by rw [hml]; rfl) (Steps.refl _) (argsL := []) (rest := [(.int p2), (.int (44 : Int32)), (.ref y)]) (lenOf pd_9 rfl) rfl (by show 2 * 0 + _ ≤ _; exact Nat.le_of_eq rfl) (hb hby d20_14) (fun _ _ => ⟨rfl, e4, (by decide : 0 + 0 ≤ _), (by decide : 0 + 0 ≤ _)⟩)
  dsimp only [Pt.U, Pt.locs, Pt.cells, Pt.slots] at X6 l6 y6 z6 st6 hQ6
  subst l6 y6 z6
  obtain ⟨rfl, Nq6, e6⟩ := hQ6
  have N6 := Fr.app N2 Nq6
  obtain ⟨_, _, ⟨T7, L7, k7, n7⟩, -, X7, ⟨Lc7, hQ7, l7, y7, z7⟩, st7⟩ := Jvm.LawKit.callS X6 hx (y := (⟨"java/lang/StringLatin1", "indexOf", "([BIII)I"⟩ : MethodName)) hown (mvT hZ (own_w hw 111 rfl)) (mvT hZ (own_w hw 112 rfl)) (mvT hZ (own_w hw 86 rfl)) (mvT hZ (own_w hw 113 rfl)) (by decide) (backOf (W := 0) (rmAkB_L4 l Z a0 hw [] y p2 cs fm ky c0 c1 c2 c3 P h0 n0 Z0 SB Od Vy a0_ a1_ a2_ a3_ hip) hZ (own_w hw 113 rfl) (own_w hw 86 rfl) (by decide) (by decide)) (g := (mkF m 17 #[.val (.ref r0), .val (.int (44 : Int32)), .val (.int p2)] [(.int (4 : Int32)), (.int p2), (.int (44 : Int32)), (.ref y)])) rfl (by rw [hml]; rfl) (argsL := [(.ref y), (.int (44 : Int32)), (.int p2), (.int (4 : Int32))]) (rest := []) (lenOf pd_18 rfl) rfl (by show 2 * 0 + _ ≤ _; exact Nat.le_of_eq rfl) (hb hby d20_17) (fun _ _ => ⟨rfl, e6, (by decide : 0 + 0 ≤ _), (by decide : 0 + 0 ≤ _)⟩)
  dsimp only [Pt.U, Pt.locs, Pt.cells, Pt.slots] at X7 l7 y7 z7 st7 hQ7
  subst l7 y7 z7
  obtain ⟨z7, hz7, rfl, Nq7, e7⟩ := hQ7
  have N7 := Fr.app N6 Nq7
  obtain ⟨fs, hr, hrun, hended, hW, hsame⟩ := X7.leave (v := some (.int z7)) (fun h => by rw [Bd.returns] at h; cases h)
  refine ⟨_, _, pre0 _ (st1 _ (st2.trans (st3 _ (st4 _ (st5 _ (st6.trans (st7 _ ?_))))))), hrun, hended, _, _, rfl, ?_, ⟨_, rfl⟩, hW, hsame.mono (by decide) (by decide)⟩
  · refine XS.goto X7.here hx rfl (pc0 := 20) (pc' := 36) rfl (hb hby d20_20) (by decide) (by decide) ?_
    show Steps p.tables e below (T7.setTop (mkF m 36 #[.val (.ref r0), .val (.int (44 : Int32)), .val (.int p2)] [(.int z7)])) _
    exact retI X7 hx Bd.returns (hb hby d20_36) hr
  · show Q_rmIoS_L4 Z r0 p2 cs fm y ky c0 c1 c2 c3 P h0 n0 _ T7.heap _
    rw [e7]
    exact ⟨_, hz7, rfl, N7, rfl⟩
theorem ef_rmCod_U4 (m : MethodId) (x0 : Addr) : entryFrame m #[(.ref x0)] 1 = mkF m 0 #[.val (.ref x0)] [] := by first | (simp [entryFrame, mkF, argsToLocals, Value.category]; done) | rfl
def Q_rmCod_U4 (Z : State) (r0 : Addr) (cs : Int32) (fm : Value) (h0 : Heap) (n0 : Nat) (v : Option Value) (h : Heap) (L : List Loc) : Prop := v = some (.int (1 : Int32)) ∧ Fr n0 L ∧ h = h0
set_option maxRecDepth 65536 in
set_option maxHeartbeats 40000000 in
theorem rmCod_U4 (l : Launch) (Z : State) (a0 : Array Value) (hw : ∀ d ∈ tables_1, d.before a0 Z = true) (ws : List Jvm.Cond) (r0 : Addr) (cs : Int32) (fm : Value) (h0 : Heap) (n0 : Nat) (Z0 : n0 ≤ h0.size) (SB : own_St Z cs fm) (Od : Old Z n0 h0) (Fc : Fld Z h0 r0 "java/lang/String" "coder" "B" (.int (1 : Int32))) :
    MetFree l (⟨"java/lang/String", "coder", "()B"⟩ : MethodName) (head1 (Jvm.Cond.code (⟨"java/lang/String", "coder", "()B"⟩ : MethodName) jdk_42_method_152_code 1 (some .byte) :: ws) ({ frames := 0, cells := 0, slots := 0, locals := 0 } : Room)) (fun a U => a = #[(.ref r0)] ∧ Z.Warmed39 U.vm ∧ U.heap = h0) (fun _ _ _ _ _ => True) (fun _ U o U' => ∃ v L, o = .returned v ∧ Q_rmCod_U4 Z r0 cs fm h0 n0 v U'.heap L ∧ FrameEnd U o U' L ({ frames := 0, cells := 0, slots := 0, locals := 0 } : Room).cells ({ frames := 0, cells := 0, slots := 0, locals := 0 } : Room).slots) := by
  refine MetFree.of_bodySF (plainFor_of_name pn_1) hisR ?_
  intro p e s m args below meth c s₁ Bd hml0 hP hK
  obtain ⟨rfl, hZ, hh⟩ := hP
  have hx := Bd.exec
  have hby := Bd.bytes
  have hml : c.maxLocals = 1 := hml0
  have hown : s.vm.findClass "java/lang/String" = some m.cls := findClass_of_methodNamed Bd.named
  have hnm := (name_of_methodNamed Bd.named Bd.method).1
  have X0 : Stand p l e ({ frames := 0, cells := 0, slots := 0, locals := 0 } : Room) s m #[(.ref r0)] below meth c s₁ [] 0 0 := Stand.of_body Bd
  have e0 : s₁.heap = h0 := by rw [← hh, Bd.state]; rfl
  have N0 := Fr.nil n0
  have pre0 : ∀ t, Steps p.tables e below (s₁.setTop (mkF m 0 #[.val (.ref r0)] [])) t → Steps p.tables e below (s₁.setTop (entryFrame m #[(.ref r0)] 1)) t := fun t k => castTop (ef_rmCod_U4 m r0) k
  obtain ⟨T1, X1, e1, st1⟩ := getS2 X0 hx hZ hown (host := "") (Or.inl (own_w hw 21 rfl)) Via.refl e0 (SB.1.ext Od.2) (g := (mkF m 0 #[.val (.ref r0)] [])) rfl (hb hby d12_0)
  have st2 : own_S p e below T1 (mkF m 7 #[.val (.ref r0)] [(.ref r0)]) (mkF m 3 #[.val (.ref r0)] [(.int cs)]) := by
    intro target kt
    refine XS.ifNo X1.here hx rfl (hb hby d12_3) rfl ((if0 _ _).trans (feq SB.2.1).1) ?_
    refine XS.aloadN X1.here hx rfl (hb hby d12_6) rfl rfl ?_
    exact kt
  obtain ⟨T3, X3, e3, st3⟩ := getF X1 hx hZ hown (host := "") (Or.inl (own_w hw 33 rfl)) Via.refl e1 Fc (g := (mkF m 7 #[.val (.ref r0)] [(.ref r0)])) rfl rfl (hb hby d12_7)
  obtain ⟨fs, hr, hrun, hended, hW, hsame⟩ := X3.leave (v := some (.int (1 : Int32))) (fun h => by rw [Bd.returns] at h; cases h)
  refine ⟨_, _, pre0 _ (st1 _ (st2 _ (st3 _ ?_))), hrun, hended, _, _, rfl, ?_, ⟨_, rfl⟩, hW, hsame.mono (by decide) (by decide)⟩
  · refine XS.goto X3.here hx rfl (pc0 := 10) (pc' := 14) rfl (hb hby d12_10) (by decide) (by decide) ?_
    show Steps p.tables e below (T3.setTop (mkF m 14 #[.val (.ref r0)] [(.int (1 : Int32))])) _
    exact retN X3 hx (t := .byte) Bd.returns (by simp) (hb hby d12_14) hr
  · show Q_rmCod_U4 Z r0 cs fm h0 n0 _ T3.heap _
    rw [e3]
    exact ⟨rfl, N0, rfl⟩
theorem ef_rmLen_U4 (m : MethodId) (x0 : Addr) : entryFrame m #[(.ref x0)] 1 = mkF m 0 #[.val (.ref x0)] [] := by first | (simp [entryFrame, mkF, argsToLocals, Value.category]; done) | rfl
def Q_rmLen_U4 (Z : State) (r0 : Addr) (cs : Int32) (fm : Value) (y : Addr) (ky : ClassId) (c0 : Int32) (c1 : Int32) (c2 : Int32) (c3 : Int32) (h0 : Heap) (n0 : Nat) (v : Option Value) (h : Heap) (L : List Loc) : Prop := v = some (.int (4 : Int32)) ∧ Fr n0 L ∧ h = h0
set_option maxRecDepth 65536 in
set_option maxHeartbeats 40000000 in
theorem rmLen_U4 (l : Launch) (Z : State) (a0 : Array Value) (hw : ∀ d ∈ tables_1, d.before a0 Z = true) (ws : List Jvm.Cond) (r0 : Addr) (cs : Int32) (fm : Value) (y : Addr) (ky : ClassId) (c0 : Int32) (c1 : Int32) (c2 : Int32) (c3 : Int32) (h0 : Heap) (n0 : Nat) (Z0 : n0 ≤ h0.size) (SB : own_St Z cs fm) (Od : Old Z n0 h0) (Fv : Fld Z h0 r0 "java/lang/String" "value" "[B" (.ref y)) (Fc : Fld Z h0 r0 "java/lang/String" "coder" "B" (.int (1 : Int32))) (Et : Exa Z h0 r0 "java/lang/String") (Vy : Arv Z h0 y ky .byte (8 : Int32) [(.int (own_lo c0)), (.int (own_hi c0)), (.int (own_lo c1)), (.int (own_hi c1)), (.int (own_lo c2)), (.int (own_hi c2)), (.int (own_lo c3)), (.int (own_hi c3))] (.int (0 : Int32))) :
    MetFree l (⟨"java/lang/String", "length", "()I"⟩ : MethodName) (head1 (Jvm.Cond.code (⟨"java/lang/String", "length", "()I"⟩ : MethodName) jdk_42_method_54_code 1 (some .int) :: ws) ({ frames := 1, cells := 0, slots := 0, locals := 13 } : Room)) (fun a U => a = #[(.ref r0)] ∧ Z.Warmed39 U.vm ∧ U.heap = h0) (fun _ _ _ _ _ => True) (fun _ U o U' => ∃ v L, o = .returned v ∧ Q_rmLen_U4 Z r0 cs fm y ky c0 c1 c2 c3 h0 n0 v U'.heap L ∧ FrameEnd U o U' L ({ frames := 1, cells := 0, slots := 0, locals := 13 } : Room).cells ({ frames := 1, cells := 0, slots := 0, locals := 13 } : Room).slots) := by
  refine MetFree.of_bodySF (plainFor_of_name pn_1) hisR ?_
  intro p e s m args below meth c s₁ Bd hml0 hP hK
  obtain ⟨rfl, hZ, hh⟩ := hP
  have hx := Bd.exec
  have hby := Bd.bytes
  have hml : c.maxLocals = 1 := hml0
  have hown : s.vm.findClass "java/lang/String" = some m.cls := findClass_of_methodNamed Bd.named
  have hnm := (name_of_methodNamed Bd.named Bd.method).1
  have X0 : Stand p l e ({ frames := 1, cells := 0, slots := 0, locals := 13 } : Room) s m #[(.ref r0)] below meth c s₁ [] 0 0 := Stand.of_body Bd
  have e0 : s₁.heap = h0 := by rw [← hh, Bd.state]; rfl
  have N0 := Fr.nil n0
  have pre0 : ∀ t, Steps p.tables e below (s₁.setTop (mkF m 0 #[.val (.ref r0)] [])) t → Steps p.tables e below (s₁.setTop (entryFrame m #[(.ref r0)] 1)) t := fun t k => castTop (ef_rmLen_U4 m r0) k
  have st1 : own_S p e below s₁ (mkF m 1 #[.val (.ref r0)] [(.ref r0)]) (mkF m 0 #[.val (.ref r0)] []) := by
    intro target kt
    refine XS.aloadN X0.here hx rfl (hb hby d11_0) rfl rfl ?_
    exact kt
  obtain ⟨T2, X2, e2, st2⟩ := getF X0 hx hZ hown (host := "") (Or.inl (own_w hw 35 rfl)) Via.refl e0 Fv (g := (mkF m 1 #[.val (.ref r0)] [(.ref r0)])) rfl rfl (hb hby d11_1)
  obtain ⟨cl3, Ar3, qc3, Sz3, Mn3, Hs3, Gs3⟩ := id Vy
  have st3 : own_S p e below T2 (mkF m 5 #[.val (.ref r0)] [(.int (8 : Int32))]) (mkF m 4 #[.val (.ref r0)] [(.ref y)]) := fun target kt => X2.arraylength hx (cell := cl3) (by rw [e2]; exact Ar3.1) (State.isArrayOf_alike hZ.alike Ar3.2.1) (g := (mkF m 4 #[.val (.ref r0)] [(.ref y)])) rfl rfl (hb hby d11_4) _ (by rw [len_of Sz3 Mn3]; exact kt)
  have st4 : own_S p e below T2 (mkF m 6 #[.val (.ref r0)] [(.ref r0), (.int (8 : Int32))]) (mkF m 5 #[.val (.ref r0)] [(.int (8 : Int32))]) := by
    intro target kt
    refine XS.aloadN X2.here hx rfl (hb hby d11_5) rfl rfl ?_
    exact kt
  obtain ⟨cq5, kq5, qv5a, qv5b, qv5c⟩ := isOf hZ e2 Et
  obtain ⟨_, _, ⟨T5, L5, k5, n5⟩, -, X5, ⟨Lc5, hQ5, l5, y5, z5⟩, st5⟩ := X2.virtualBack hx (y := (⟨"java/lang/String", "coder", "()B"⟩ : MethodName)) (z := (⟨"java/lang/String", "coder", "()B"⟩ : MethodName)) hown (mvT hZ (own_w hw 69 rfl)) (mvT hZ (own_w hw 70 rfl)) (notFace_of_selects (args := #[]) (mvT hZ (own_w hw 72 rfl))) (mvT hZ (own_w hw 72 rfl)) (mvT hZ (own_w hw 71 rfl)) (by decide) (backOf (W := 1) (rmCod_U4 l Z a0 hw [] r0 cs fm h0 n0 Z0 SB Od Fc) hZ (own_w hw 73 rfl) (own_w hw 10 rfl) (by decide) (by decide)) qv5a qv5c (g := (mkF m 6 #[.val (.ref r0)] [(.ref r0), (.int (8 : Int32))])) rfl (by rw [hml]; rfl) (Steps.refl _) (argsL := []) (rest := [(.int (8 : Int32))]) (lenOf pd_10 rfl) rfl (by show 2 * 0 + _ ≤ _; exact Nat.le_of_eq rfl) (hb hby d11_6) (fun _ _ => ⟨rfl, e2, (by decide : 0 + 0 ≤ _), (by decide : 0 + 0 ≤ _)⟩)
  dsimp only [Pt.U, Pt.locs, Pt.cells, Pt.slots] at X5 l5 y5 z5 st5 hQ5
  subst l5 y5 z5
  obtain ⟨rfl, Nq5, e5⟩ := hQ5
  have N5 := Fr.app N0 Nq5
  obtain ⟨fs, hr, hrun, hended, hW, hsame⟩ := X5.leave (v := some (.int (4 : Int32))) (fun h => by rw [Bd.returns] at h; cases h)
  refine ⟨_, _, pre0 _ (st1 _ (st2 _ (st3 _ (st4 _ (st5.trans ?_))))), hrun, hended, _, _, rfl, ?_, ⟨_, rfl⟩, hW, hsame.mono (by decide) (by decide)⟩
  · refine XS.ishr X5.here hx rfl (hb hby d11_9) rfl ?_
    show Steps p.tables e below (T5.setTop (mkF m 10 #[.val (.ref r0)] [(.int (4 : Int32))])) _
    exact retI X5 hx Bd.returns (hb hby d11_10) hr
  · show Q_rmLen_U4 Z r0 cs fm y ky c0 c1 c2 c3 h0 n0 _ T5.heap _
    rw [e5]
    exact ⟨rfl, N5, rfl⟩
theorem ef_rmLat_U4 (m : MethodId) (x0 : Addr) : entryFrame m #[(.ref x0)] 1 = mkF m 0 #[.val (.ref x0)] [] := by first | (simp [entryFrame, mkF, argsToLocals, Value.category]; done) | rfl
def Q_rmLat_U4 (Z : State) (r0 : Addr) (cs : Int32) (fm : Value) (h0 : Heap) (n0 : Nat) (v : Option Value) (h : Heap) (L : List Loc) : Prop := v = some (.int (0 : Int32)) ∧ Fr n0 L ∧ h = h0
set_option maxRecDepth 65536 in
set_option maxHeartbeats 40000000 in
theorem rmLat_U4 (l : Launch) (Z : State) (a0 : Array Value) (hw : ∀ d ∈ tables_1, d.before a0 Z = true) (ws : List Jvm.Cond) (r0 : Addr) (cs : Int32) (fm : Value) (h0 : Heap) (n0 : Nat) (Z0 : n0 ≤ h0.size) (SB : own_St Z cs fm) (Od : Old Z n0 h0) (Fc : Fld Z h0 r0 "java/lang/String" "coder" "B" (.int (1 : Int32))) :
    MetFree l (⟨"java/lang/String", "isLatin1", "()Z"⟩ : MethodName) (head1 (Jvm.Cond.code (⟨"java/lang/String", "isLatin1", "()Z"⟩ : MethodName) jdk_42_method_154_code 1 (some .boolean) :: ws) ({ frames := 0, cells := 0, slots := 0, locals := 0 } : Room)) (fun a U => a = #[(.ref r0)] ∧ Z.Warmed39 U.vm ∧ U.heap = h0) (fun _ _ _ _ _ => True) (fun _ U o U' => ∃ v L, o = .returned v ∧ Q_rmLat_U4 Z r0 cs fm h0 n0 v U'.heap L ∧ FrameEnd U o U' L ({ frames := 0, cells := 0, slots := 0, locals := 0 } : Room).cells ({ frames := 0, cells := 0, slots := 0, locals := 0 } : Room).slots) := by
  refine MetFree.of_bodySF (plainFor_of_name pn_1) hisR ?_
  intro p e s m args below meth c s₁ Bd hml0 hP hK
  obtain ⟨rfl, hZ, hh⟩ := hP
  have hx := Bd.exec
  have hby := Bd.bytes
  have hml : c.maxLocals = 1 := hml0
  have hown : s.vm.findClass "java/lang/String" = some m.cls := findClass_of_methodNamed Bd.named
  have hnm := (name_of_methodNamed Bd.named Bd.method).1
  have X0 : Stand p l e ({ frames := 0, cells := 0, slots := 0, locals := 0 } : Room) s m #[(.ref r0)] below meth c s₁ [] 0 0 := Stand.of_body Bd
  have e0 : s₁.heap = h0 := by rw [← hh, Bd.state]; rfl
  have N0 := Fr.nil n0
  have pre0 : ∀ t, Steps p.tables e below (s₁.setTop (mkF m 0 #[.val (.ref r0)] [])) t → Steps p.tables e below (s₁.setTop (entryFrame m #[(.ref r0)] 1)) t := fun t k => castTop (ef_rmLat_U4 m r0) k
  obtain ⟨T1, X1, e1, st1⟩ := getS2 X0 hx hZ hown (host := "") (Or.inl (own_w hw 21 rfl)) Via.refl e0 (SB.1.ext Od.2) (g := (mkF m 0 #[.val (.ref r0)] [])) rfl (hb hby d14_0)
  have st2 : own_S p e below T1 (mkF m 7 #[.val (.ref r0)] [(.ref r0)]) (mkF m 3 #[.val (.ref r0)] [(.int cs)]) := by
    intro target kt
    refine XS.ifNo X1.here hx rfl (hb hby d14_3) rfl ((if0 _ _).trans (feq SB.2.1).1) ?_
    refine XS.aloadN X1.here hx rfl (hb hby d14_6) rfl rfl ?_
    exact kt
  obtain ⟨T3, X3, e3, st3⟩ := getF X1 hx hZ hown (host := "") (Or.inl (own_w hw 33 rfl)) Via.refl e1 Fc (g := (mkF m 7 #[.val (.ref r0)] [(.ref r0)])) rfl rfl (hb hby d14_7)
  obtain ⟨fs, hr, hrun, hended, hW, hsame⟩ := X3.leave (v := some (.int (0 : Int32))) (fun h => by rw [Bd.returns] at h; cases h)
  refine ⟨_, _, pre0 _ (st1 _ (st2 _ (st3 _ ?_))), hrun, hended, _, _, rfl, ?_, ⟨_, rfl⟩, hW, hsame.mono (by decide) (by decide)⟩
  · refine XS.ifYes X3.here hx rfl (pc0 := 10) (pc' := 17) rfl (hb hby d14_10) rfl ((if0 _ _).trans (feq (by decide : ¬ ((1 : Int32) = (0 : Int32)))).2) (by decide) (by decide) ?_
    refine XS.iconst X3.here hx rfl (hb hby d14_17) ?_
    show Steps p.tables e below (T3.setTop (mkF m 18 #[.val (.ref r0)] [(.int (0 : Int32))])) _
    exact retN X3 hx (t := .boolean) Bd.returns (by simp) (hb hby d14_18) hr
  · show Q_rmLat_U4 Z r0 cs fm h0 n0 _ T3.heap _
    rw [e3]
    exact ⟨rfl, N0, rfl⟩
theorem d33_0 : decode jdk_52_method_6_code 0 = .ok (.aload_n 0, 1) := by decide +kernel
theorem d33_1 : decode jdk_52_method_6_code 1 = .ok (.arraylength, 1) := by decide +kernel
theorem d33_2 : decode jdk_52_method_6_code 2 = .ok (.iconst 1, 1) := by decide +kernel
theorem d33_3 : decode jdk_52_method_6_code 3 = .ok (.ishr, 1) := by decide +kernel
theorem d33_4 : decode jdk_52_method_6_code 4 = .ok (.ireturn, 1) := by decide +kernel
theorem ef_rmUlen_U4 (m : MethodId) (x0 : Addr) : entryFrame m #[(.ref x0)] 1 = mkF m 0 #[.val (.ref x0)] [] := by first | (simp [entryFrame, mkF, argsToLocals, Value.category]; done) | rfl
def Q_rmUlen_U4 (Z : State) (r0 : Addr) (cs : Int32) (fm : Value) (ky : ClassId) (c0 : Int32) (c1 : Int32) (c2 : Int32) (c3 : Int32) (h0 : Heap) (n0 : Nat) (v : Option Value) (h : Heap) (L : List Loc) : Prop := v = some (.int (4 : Int32)) ∧ Fr n0 L ∧ h = h0
set_option maxRecDepth 65536 in
set_option maxHeartbeats 40000000 in
theorem rmUlen_U4 (l : Launch) (Z : State) (a0 : Array Value) (hw : ∀ d ∈ tables_1, d.before a0 Z = true) (ws : List Jvm.Cond) (r0 : Addr) (cs : Int32) (fm : Value) (ky : ClassId) (c0 : Int32) (c1 : Int32) (c2 : Int32) (c3 : Int32) (h0 : Heap) (n0 : Nat) (Z0 : n0 ≤ h0.size) (SB : own_St Z cs fm) (Od : Old Z n0 h0) (Vy : Arv Z h0 r0 ky .byte (8 : Int32) [(.int (own_lo c0)), (.int (own_hi c0)), (.int (own_lo c1)), (.int (own_hi c1)), (.int (own_lo c2)), (.int (own_hi c2)), (.int (own_lo c3)), (.int (own_hi c3))] (.int (0 : Int32))) :
    MetFree l (⟨"java/lang/StringUTF16", "length", "([B)I"⟩ : MethodName) (head1 (Jvm.Cond.code (⟨"java/lang/StringUTF16", "length", "([B)I"⟩ : MethodName) jdk_52_method_6_code 1 (some .int) :: ws) ({ frames := 0, cells := 0, slots := 0, locals := 0 } : Room)) (fun a U => a = #[(.ref r0)] ∧ Z.Warmed39 U.vm ∧ U.heap = h0) (fun _ _ _ _ _ => True) (fun _ U o U' => ∃ v L, o = .returned v ∧ Q_rmUlen_U4 Z r0 cs fm ky c0 c1 c2 c3 h0 n0 v U'.heap L ∧ FrameEnd U o U' L ({ frames := 0, cells := 0, slots := 0, locals := 0 } : Room).cells ({ frames := 0, cells := 0, slots := 0, locals := 0 } : Room).slots) := by
  refine MetFree.of_bodySF (plainFor_of_name pn_0) hisR ?_
  intro p e s m args below meth c s₁ Bd hml0 hP hK
  obtain ⟨rfl, hZ, hh⟩ := hP
  have hx := Bd.exec
  have hby := Bd.bytes
  have hml : c.maxLocals = 1 := hml0
  have hown : s.vm.findClass "java/lang/StringUTF16" = some m.cls := findClass_of_methodNamed Bd.named
  have hnm := (name_of_methodNamed Bd.named Bd.method).1
  have X0 : Stand p l e ({ frames := 0, cells := 0, slots := 0, locals := 0 } : Room) s m #[(.ref r0)] below meth c s₁ [] 0 0 := Stand.of_body Bd
  have e0 : s₁.heap = h0 := by rw [← hh, Bd.state]; rfl
  have N0 := Fr.nil n0
  have pre0 : ∀ t, Steps p.tables e below (s₁.setTop (mkF m 0 #[.val (.ref r0)] [])) t → Steps p.tables e below (s₁.setTop (entryFrame m #[(.ref r0)] 1)) t := fun t k => castTop (ef_rmUlen_U4 m r0) k
  have st1 : own_S p e below s₁ (mkF m 1 #[.val (.ref r0)] [(.ref r0)]) (mkF m 0 #[.val (.ref r0)] []) := by
    intro target kt
    refine XS.aloadN X0.here hx rfl (hb hby d33_0) rfl rfl ?_
    exact kt
  obtain ⟨cl2, Ar2, qc2, Sz2, Mn2, Hs2, Gs2⟩ := id Vy
  have st2 : own_S p e below s₁ (mkF m 2 #[.val (.ref r0)] [(.int (8 : Int32))]) (mkF m 1 #[.val (.ref r0)] [(.ref r0)]) := fun target kt => X0.arraylength hx (cell := cl2) (by rw [e0]; exact Ar2.1) (State.isArrayOf_alike hZ.alike Ar2.2.1) (g := (mkF m 1 #[.val (.ref r0)] [(.ref r0)])) rfl rfl (hb hby d33_1) _ (by rw [len_of Sz2 Mn2]; exact kt)
  obtain ⟨fs, hr, hrun, hended, hW, hsame⟩ := X0.leave (v := some (.int (4 : Int32))) (fun h => by rw [Bd.returns] at h; cases h)
  refine ⟨_, _, pre0 _ (st1 _ (st2 _ ?_)), hrun, hended, _, _, rfl, ?_, ⟨_, rfl⟩, hW, hsame.mono (by decide) (by decide)⟩
  · refine XS.iconst X0.here hx rfl (hb hby d33_2) ?_
    refine XS.ishr X0.here hx rfl (hb hby d33_3) rfl ?_
    show Steps p.tables e below (s₁.setTop (mkF m 4 #[.val (.ref r0)] [(.int (4 : Int32))])) _
    exact retI X0 hx Bd.returns (hb hby d33_4) hr
  · show Q_rmUlen_U4 Z r0 cs fm ky c0 c1 c2 c3 h0 n0 _ s₁.heap _
    rw [e0]
    exact ⟨rfl, N0, rfl⟩
theorem d32_0 : decode jdk_52_method_91_code 0 = .ok (.iload_n 0, 1) := by decide +kernel
theorem d32_1 : decode jdk_52_method_91_code 1 = .ok (.aload_n 1, 1) := by decide +kernel
theorem d32_2 : decode jdk_52_method_91_code 2 = .ok (.invokestatic 48, 3) := by decide +kernel
theorem d32_5 : decode jdk_52_method_91_code 5 = .ok (.invokestatic 414, 3) := by decide +kernel
theorem d32_8 : decode jdk_52_method_91_code 8 = .ok (.return_, 1) := by decide +kernel
theorem ef_rmUci0_U4 (m : MethodId) (x0 : Int32) (x1 : Addr) : entryFrame m #[(.int x0), (.ref x1)] 2 = mkF m 0 #[.val (.int x0), .val (.ref x1)] [] := by first | (simp [entryFrame, mkF, argsToLocals, Value.category]; done) | rfl
def Q_rmUci0_U4 (Z : State) (r1 : Addr) (cs : Int32) (fm : Value) (ky : ClassId) (c0 : Int32) (c1 : Int32) (c2 : Int32) (c3 : Int32) (h0 : Heap) (n0 : Nat) (v : Option Value) (h : Heap) (L : List Loc) : Prop := v = none ∧ Fr n0 L ∧ h = h0
set_option maxRecDepth 65536 in
set_option maxHeartbeats 40000000 in
theorem rmUci0_U4 (l : Launch) (Z : State) (a0 : Array Value) (hw : ∀ d ∈ tables_1, d.before a0 Z = true) (ws : List Jvm.Cond) (r1 : Addr) (cs : Int32) (fm : Value) (ky : ClassId) (c0 : Int32) (c1 : Int32) (c2 : Int32) (c3 : Int32) (h0 : Heap) (n0 : Nat) (Z0 : n0 ≤ h0.size) (SB : own_St Z cs fm) (Od : Old Z n0 h0) (Vy : Arv Z h0 r1 ky .byte (8 : Int32) [(.int (own_lo c0)), (.int (own_hi c0)), (.int (own_lo c1)), (.int (own_hi c1)), (.int (own_lo c2)), (.int (own_hi c2)), (.int (own_lo c3)), (.int (own_hi c3))] (.int (0 : Int32))) :
    MetFree l (⟨"java/lang/StringUTF16", "checkIndex", "(I[B)V"⟩ : MethodName) (head1 (Jvm.Cond.code (⟨"java/lang/StringUTF16", "checkIndex", "(I[B)V"⟩ : MethodName) jdk_52_method_91_code 2 none :: ws) ({ frames := 2, cells := 0, slots := 0, locals := 27 } : Room)) (fun a U => a = #[(.int (0 : Int32)), (.ref r1)] ∧ Z.Warmed39 U.vm ∧ U.heap = h0) (fun _ _ _ _ _ => True) (fun _ U o U' => ∃ v L, o = .returned v ∧ Q_rmUci0_U4 Z r1 cs fm ky c0 c1 c2 c3 h0 n0 v U'.heap L ∧ FrameEnd U o U' L ({ frames := 2, cells := 0, slots := 0, locals := 27 } : Room).cells ({ frames := 2, cells := 0, slots := 0, locals := 27 } : Room).slots) := by
  refine MetFree.of_bodySF (plainFor_of_name pn_0) hisR ?_
  intro p e s m args below meth c s₁ Bd hml0 hP hK
  obtain ⟨rfl, hZ, hh⟩ := hP
  have hx := Bd.exec
  have hby := Bd.bytes
  have hml : c.maxLocals = 2 := hml0
  have hown : s.vm.findClass "java/lang/StringUTF16" = some m.cls := findClass_of_methodNamed Bd.named
  have hnm := (name_of_methodNamed Bd.named Bd.method).1
  have X0 : Stand p l e ({ frames := 2, cells := 0, slots := 0, locals := 27 } : Room) s m #[(.int (0 : Int32)), (.ref r1)] below meth c s₁ [] 0 0 := Stand.of_body Bd
  have e0 : s₁.heap = h0 := by rw [← hh, Bd.state]; rfl
  have N0 := Fr.nil n0
  have pre0 : ∀ t, Steps p.tables e below (s₁.setTop (mkF m 0 #[.val (.int (0 : Int32)), .val (.ref r1)] [])) t → Steps p.tables e below (s₁.setTop (entryFrame m #[(.int (0 : Int32)), (.ref r1)] 2)) t := fun t k => castTop (ef_rmUci0_U4 m (0 : Int32) r1) k
  have st1 : own_S p e below s₁ (mkF m 2 #[.val (.int (0 : Int32)), .val (.ref r1)] [(.ref r1), (.int (0 : Int32))]) (mkF m 0 #[.val (.int (0 : Int32)), .val (.ref r1)] []) := by
    intro target kt
    refine XS.iloadN X0.here hx rfl (hb hby d32_0) rfl ?_
    refine XS.aloadN X0.here hx rfl (hb hby d32_1) rfl rfl ?_
    exact kt
  obtain ⟨_, _, ⟨T2, L2, k2, n2⟩, -, X2, ⟨Lc2, hQ2, l2, y2, z2⟩, st2⟩ := Jvm.LawKit.callS X0 hx (y := (⟨"java/lang/StringUTF16", "length", "([B)I"⟩ : MethodName)) hown (mvT hZ (own_w hw 152 rfl)) (mvT hZ (own_w hw 153 rfl)) (mvT hZ (own_w hw 24 rfl)) (mvT hZ (own_w hw 154 rfl)) (by decide) (backOf (W := 1) (rmUlen_U4 l Z a0 hw [] r1 cs fm ky c0 c1 c2 c3 h0 n0 Z0 SB Od Vy) hZ (own_w hw 154 rfl) (own_w hw 24 rfl) (by decide) (by decide)) (g := (mkF m 2 #[.val (.int (0 : Int32)), .val (.ref r1)] [(.ref r1), (.int (0 : Int32))])) rfl (by rw [hml]; rfl) (argsL := [(.ref r1)]) (rest := [(.int (0 : Int32))]) (lenOf pd_24 rfl) rfl (by show 2 * 0 + _ ≤ _; exact Nat.le_of_eq rfl) (hb hby d32_2) (fun _ _ => ⟨rfl, e0, (by decide : 0 + 0 ≤ _), (by decide : 0 + 0 ≤ _)⟩)
  dsimp only [Pt.U, Pt.locs, Pt.cells, Pt.slots] at X2 l2 y2 z2 st2 hQ2
  subst l2 y2 z2
  obtain ⟨rfl, Nq2, e2⟩ := hQ2
  have N2 := Fr.app N0 Nq2
  obtain ⟨_, _, ⟨T3, L3, k3, n3⟩, -, X3, ⟨Lc3, hQ3, l3, y3, z3⟩, st3⟩ := Jvm.LawKit.callS X2 hx (y := (⟨"java/lang/String", "checkIndex", "(II)V"⟩ : MethodName)) hown (mvT hZ (own_w hw 155 rfl)) (mvT hZ (own_w hw 89 rfl)) (mvT hZ (own_w hw 10 rfl)) (mvT hZ (own_w hw 90 rfl)) (by decide) (backOf (W := 0) (rmSci l Z a0 hw [] (0 : Int32) (4 : Int32) cs fm h0 n0 Z0 SB Od (by decide) (by decide)) hZ (own_w hw 90 rfl) (own_w hw 10 rfl) (by decide) (by decide)) (g := (mkF m 5 #[.val (.int (0 : Int32)), .val (.ref r1)] [(.int (4 : Int32)), (.int (0 : Int32))])) rfl (by rw [hml]; rfl) (argsL := [(.int (0 : Int32)), (.int (4 : Int32))]) (rest := []) (lenOf pd_14 rfl) rfl (by show 2 * 0 + _ ≤ _; exact Nat.le_of_eq rfl) (hb hby d32_5) (fun _ _ => ⟨rfl, e2, (by decide : 0 + 0 ≤ _), (by decide : 0 + 0 ≤ _)⟩)
  dsimp only [Pt.U, Pt.locs, Pt.cells, Pt.slots] at X3 l3 y3 z3 st3 hQ3
  subst l3 y3 z3
  obtain ⟨rfl, Nq3, e3⟩ := hQ3
  have N3 := Fr.app N2 Nq3
  obtain ⟨fs, hr, hrun, hended, hW, hsame⟩ := X3.leave (v := none) (fun _ => rfl)
  refine ⟨_, _, pre0 _ (st1 _ (st2 _ (st3 _ ?_))), hrun, hended, _, _, rfl, ?_, ⟨_, rfl⟩, hW, hsame.mono (by decide) (by decide)⟩
  · show Steps p.tables e below (T3.setTop (mkF m 8 #[.val (.int (0 : Int32)), .val (.ref r1)] [])) _
    exact X3.returnOut hx Bd.returns (hb hby d32_8) hr
  · show Q_rmUci0_U4 Z r1 cs fm ky c0 c1 c2 c3 h0 n0 _ T3.heap _
    rw [e3]
    exact ⟨rfl, N3, rfl⟩
theorem d31_0 : decode jdk_52_method_83_code 0 = .ok (.iload_n 1, 1) := by decide +kernel
theorem d31_1 : decode jdk_52_method_83_code 1 = .ok (.aload_n 0, 1) := by decide +kernel
theorem d31_2 : decode jdk_52_method_83_code 2 = .ok (.invokestatic 67, 3) := by decide +kernel
theorem d31_5 : decode jdk_52_method_83_code 5 = .ok (.aload_n 0, 1) := by decide +kernel
theorem d31_6 : decode jdk_52_method_83_code 6 = .ok (.iload_n 1, 1) := by decide +kernel
theorem d31_7 : decode jdk_52_method_83_code 7 = .ok (.invokestatic 71, 3) := by decide +kernel
theorem d31_10 : decode jdk_52_method_83_code 10 = .ok (.ireturn, 1) := by decide +kernel
theorem ef_rmAch0_U4 (m : MethodId) (x0 : Addr) (x1 : Int32) : entryFrame m #[(.ref x0), (.int x1)] 2 = mkF m 0 #[.val (.ref x0), .val (.int x1)] [] := by first | (simp [entryFrame, mkF, argsToLocals, Value.category]; done) | rfl
def Q_rmAch0_U4 (Z : State) (r0 : Addr) (cs : Int32) (fm : Value) (ky : ClassId) (c0 : Int32) (c1 : Int32) (c2 : Int32) (c3 : Int32) (h0 : Heap) (n0 : Nat) (v : Option Value) (h : Heap) (L : List Loc) : Prop := v = some (.int c0) ∧ Fr n0 L ∧ h = h0
set_option maxRecDepth 65536 in
set_option maxHeartbeats 40000000 in
theorem rmAch0_U4 (l : Launch) (Z : State) (a0 : Array Value) (hw : ∀ d ∈ tables_1, d.before a0 Z = true) (ws : List Jvm.Cond) (r0 : Addr) (cs : Int32) (fm : Value) (ky : ClassId) (c0 : Int32) (c1 : Int32) (c2 : Int32) (c3 : Int32) (h0 : Heap) (n0 : Nat) (Z0 : n0 ≤ h0.size) (SB : own_St Z cs fm) (Od : Old Z n0 h0) (Vy : Arv Z h0 r0 ky .byte (8 : Int32) [(.int (own_lo c0)), (.int (own_hi c0)), (.int (own_lo c1)), (.int (own_hi c1)), (.int (own_lo c2)), (.int (own_hi c2)), (.int (own_lo c3)), (.int (own_hi c3))] (.int (0 : Int32))) (hc0_ : 0 ≤ c0.toInt ∧ c0.toInt < 65536) :
    MetFree l (⟨"java/lang/StringUTF16", "charAt", "([BI)C"⟩ : MethodName) (head1 (Jvm.Cond.code (⟨"java/lang/StringUTF16", "charAt", "([BI)C"⟩ : MethodName) jdk_52_method_83_code 2 (some .char) :: ws) ({ frames := 3, cells := 0, slots := 0, locals := 40 } : Room)) (fun a U => a = #[(.ref r0), (.int (0 : Int32))] ∧ Z.Warmed39 U.vm ∧ U.heap = h0) (fun _ _ _ _ _ => True) (fun _ U o U' => ∃ v L, o = .returned v ∧ Q_rmAch0_U4 Z r0 cs fm ky c0 c1 c2 c3 h0 n0 v U'.heap L ∧ FrameEnd U o U' L ({ frames := 3, cells := 0, slots := 0, locals := 40 } : Room).cells ({ frames := 3, cells := 0, slots := 0, locals := 40 } : Room).slots) := by
  refine MetFree.of_bodySF (plainFor_of_name pn_0) hisR ?_
  intro p e s m args below meth c s₁ Bd hml0 hP hK
  obtain ⟨rfl, hZ, hh⟩ := hP
  have hx := Bd.exec
  have hby := Bd.bytes
  have hml : c.maxLocals = 2 := hml0
  have hown : s.vm.findClass "java/lang/StringUTF16" = some m.cls := findClass_of_methodNamed Bd.named
  have hnm := (name_of_methodNamed Bd.named Bd.method).1
  have X0 : Stand p l e ({ frames := 3, cells := 0, slots := 0, locals := 40 } : Room) s m #[(.ref r0), (.int (0 : Int32))] below meth c s₁ [] 0 0 := Stand.of_body Bd
  have e0 : s₁.heap = h0 := by rw [← hh, Bd.state]; rfl
  have N0 := Fr.nil n0
  have pre0 : ∀ t, Steps p.tables e below (s₁.setTop (mkF m 0 #[.val (.ref r0), .val (.int (0 : Int32))] [])) t → Steps p.tables e below (s₁.setTop (entryFrame m #[(.ref r0), (.int (0 : Int32))] 2)) t := fun t k => castTop (ef_rmAch0_U4 m r0 (0 : Int32)) k
  have st1 : own_S p e below s₁ (mkF m 2 #[.val (.ref r0), .val (.int (0 : Int32))] [(.ref r0), (.int (0 : Int32))]) (mkF m 0 #[.val (.ref r0), .val (.int (0 : Int32))] []) := by
    intro target kt
    refine XS.iloadN X0.here hx rfl (hb hby d31_0) rfl ?_
    refine XS.aloadN X0.here hx rfl (hb hby d31_1) rfl rfl ?_
    exact kt
  obtain ⟨_, _, ⟨T2, L2, k2, n2⟩, -, X2, ⟨Lc2, hQ2, l2, y2, z2⟩, st2⟩ := Jvm.LawKit.callS X0 hx (y := (⟨"java/lang/StringUTF16", "checkIndex", "(I[B)V"⟩ : MethodName)) hown (mvT hZ (own_w hw 149 rfl)) (mvT hZ (own_w hw 150 rfl)) (mvT hZ (own_w hw 24 rfl)) (mvT hZ (own_w hw 151 rfl)) (by decide) (backOf (W := 0) (rmUci0_U4 l Z a0 hw [] r0 cs fm ky c0 c1 c2 c3 h0 n0 Z0 SB Od Vy) hZ (own_w hw 151 rfl) (own_w hw 24 rfl) (by decide) (by decide)) (g := (mkF m 2 #[.val (.ref r0), .val (.int (0 : Int32))] [(.ref r0), (.int (0 : Int32))])) rfl (by rw [hml]; rfl) (argsL := [(.int (0 : Int32)), (.ref r0)]) (rest := []) (lenOf pd_23 rfl) rfl (by show 2 * 0 + _ ≤ _; exact Nat.le_of_eq rfl) (hb hby d31_2) (fun _ _ => ⟨rfl, e0, (by decide : 0 + 0 ≤ _), (by decide : 0 + 0 ≤ _)⟩)
  dsimp only [Pt.U, Pt.locs, Pt.cells, Pt.slots] at X2 l2 y2 z2 st2 hQ2
  subst l2 y2 z2
  obtain ⟨rfl, Nq2, e2⟩ := hQ2
  have N2 := Fr.app N0 Nq2
  have st3 : own_S p e below T2 (mkF m 7 #[.val (.ref r0), .val (.int (0 : Int32))] [(.int (0 : Int32)), (.ref r0)]) (mkF m 5 #[.val (.ref r0), .val (.int (0 : Int32))] []) := by
    intro target kt
    refine XS.aloadN X2.here hx rfl (hb hby d31_5) rfl rfl ?_
    refine XS.iloadN X2.here hx rfl (hb hby d31_6) rfl ?_
    exact kt
  obtain ⟨_, _, ⟨T4, L4, k4, n4⟩, -, X4, ⟨Lc4, hQ4, l4, y4, z4⟩, st4⟩ := Jvm.LawKit.callS X2 hx (y := (⟨"java/lang/StringUTF16", "getChar", "([BI)C"⟩ : MethodName)) hown (mvT hZ (own_w hw 143 rfl)) (mvT hZ (own_w hw 144 rfl)) (mvT hZ (own_w hw 24 rfl)) (mvT hZ (own_w hw 145 rfl)) (by decide) (backOf (W := 0) (rmGC0_U4 l Z a0 hw [] r0 cs fm ky c0 c1 c2 c3 h0 n0 Z0 SB Od Vy hc0_) hZ (own_w hw 145 rfl) (own_w hw 24 rfl) (by decide) (by decide)) (g := (mkF m 7 #[.val (.ref r0), .val (.int (0 : Int32))] [(.int (0 : Int32)), (.ref r0)])) rfl (by rw [hml]; rfl) (argsL := [(.ref r0), (.int (0 : Int32))]) (rest := []) (lenOf pd_13 rfl) rfl (by show 2 * 0 + _ ≤ _; exact Nat.le_of_eq rfl) (hb hby d31_7) (fun _ _ => ⟨rfl, e2, (by decide : 0 + 0 ≤ _), (by decide : 0 + 0 ≤ _)⟩)
  dsimp only [Pt.U, Pt.locs, Pt.cells, Pt.slots] at X4 l4 y4 z4 st4 hQ4
  subst l4 y4 z4
  obtain ⟨rfl, Nq4, e4⟩ := hQ4
  have N4 := Fr.app N2 Nq4
  obtain ⟨fs, hr, hrun, hended, hW, hsame⟩ := X4.leave (v := some (.int (nar .char c0))) (fun h => by rw [Bd.returns] at h; cases h)
  refine ⟨_, _, pre0 _ (st1 _ (st2 _ (st3 _ (st4 _ ?_)))), hrun, hended, _, _, rfl, ?_, ⟨_, rfl⟩, hW, hsame.mono (by decide) (by decide)⟩
  · show Steps p.tables e below (T4.setTop (mkF m 10 #[.val (.ref r0), .val (.int (0 : Int32))] [(.int c0)])) _
    exact retN X4 hx (t := .char) Bd.returns (by simp) (hb hby d31_10) hr
  · show Q_rmAch0_U4 Z r0 cs fm ky c0 c1 c2 c3 h0 n0 _ T4.heap _
    rw [e4]
    exact ⟨congrArg (fun z => some (Value.int z)) (own_ncI hc0_), N4, rfl⟩
theorem ef_rmUci1_U4 (m : MethodId) (x0 : Int32) (x1 : Addr) : entryFrame m #[(.int x0), (.ref x1)] 2 = mkF m 0 #[.val (.int x0), .val (.ref x1)] [] := by first | (simp [entryFrame, mkF, argsToLocals, Value.category]; done) | rfl
def Q_rmUci1_U4 (Z : State) (r1 : Addr) (cs : Int32) (fm : Value) (ky : ClassId) (c0 : Int32) (c1 : Int32) (c2 : Int32) (c3 : Int32) (h0 : Heap) (n0 : Nat) (v : Option Value) (h : Heap) (L : List Loc) : Prop := v = none ∧ Fr n0 L ∧ h = h0
set_option maxRecDepth 65536 in
set_option maxHeartbeats 40000000 in
theorem rmUci1_U4 (l : Launch) (Z : State) (a0 : Array Value) (hw : ∀ d ∈ tables_1, d.before a0 Z = true) (ws : List Jvm.Cond) (r1 : Addr) (cs : Int32) (fm : Value) (ky : ClassId) (c0 : Int32) (c1 : Int32) (c2 : Int32) (c3 : Int32) (h0 : Heap) (n0 : Nat) (Z0 : n0 ≤ h0.size) (SB : own_St Z cs fm) (Od : Old Z n0 h0) (Vy : Arv Z h0 r1 ky .byte (8 : Int32) [(.int (own_lo c0)), (.int (own_hi c0)), (.int (own_lo c1)), (.int (own_hi c1)), (.int (own_lo c2)), (.int (own_hi c2)), (.int (own_lo c3)), (.int (own_hi c3))] (.int (0 : Int32))) :
    MetFree l (⟨"java/lang/StringUTF16", "checkIndex", "(I[B)V"⟩ : MethodName) (head1 (Jvm.Cond.code (⟨"java/lang/StringUTF16", "checkIndex", "(I[B)V"⟩ : MethodName) jdk_52_method_91_code 2 none :: ws) ({ frames := 2, cells := 0, slots := 0, locals := 27 } : Room)) (fun a U => a = #[(.int (1 : Int32)), (.ref r1)] ∧ Z.Warmed39 U.vm ∧ U.heap = h0) (fun _ _ _ _ _ => True) (fun _ U o U' => ∃ v L, o = .returned v ∧ Q_rmUci1_U4 Z r1 cs fm ky c0 c1 c2 c3 h0 n0 v U'.heap L ∧ FrameEnd U o U' L ({ frames := 2, cells := 0, slots := 0, locals := 27 } : Room).cells ({ frames := 2, cells := 0, slots := 0, locals := 27 } : Room).slots) := by
  refine MetFree.of_bodySF (plainFor_of_name pn_0) hisR ?_
  intro p e s m args below meth c s₁ Bd hml0 hP hK
  obtain ⟨rfl, hZ, hh⟩ := hP
  have hx := Bd.exec
  have hby := Bd.bytes
  have hml : c.maxLocals = 2 := hml0
  have hown : s.vm.findClass "java/lang/StringUTF16" = some m.cls := findClass_of_methodNamed Bd.named
  have hnm := (name_of_methodNamed Bd.named Bd.method).1
  have X0 : Stand p l e ({ frames := 2, cells := 0, slots := 0, locals := 27 } : Room) s m #[(.int (1 : Int32)), (.ref r1)] below meth c s₁ [] 0 0 := Stand.of_body Bd
  have e0 : s₁.heap = h0 := by rw [← hh, Bd.state]; rfl
  have N0 := Fr.nil n0
  have pre0 : ∀ t, Steps p.tables e below (s₁.setTop (mkF m 0 #[.val (.int (1 : Int32)), .val (.ref r1)] [])) t → Steps p.tables e below (s₁.setTop (entryFrame m #[(.int (1 : Int32)), (.ref r1)] 2)) t := fun t k => castTop (ef_rmUci1_U4 m (1 : Int32) r1) k
  have st1 : own_S p e below s₁ (mkF m 2 #[.val (.int (1 : Int32)), .val (.ref r1)] [(.ref r1), (.int (1 : Int32))]) (mkF m 0 #[.val (.int (1 : Int32)), .val (.ref r1)] []) := by
    intro target kt
    refine XS.iloadN X0.here hx rfl (hb hby d32_0) rfl ?_
    refine XS.aloadN X0.here hx rfl (hb hby d32_1) rfl rfl ?_
    exact kt
  obtain ⟨_, _, ⟨T2, L2, k2, n2⟩, -, X2, ⟨Lc2, hQ2, l2, y2, z2⟩, st2⟩ := Jvm.LawKit.callS X0 hx (y := (⟨"java/lang/StringUTF16", "length", "([B)I"⟩ : MethodName)) hown (mvT hZ (own_w hw 152 rfl)) (mvT hZ (own_w hw 153 rfl)) (mvT hZ (own_w hw 24 rfl)) (mvT hZ (own_w hw 154 rfl)) (by decide) (backOf (W := 1) (rmUlen_U4 l Z a0 hw [] r1 cs fm ky c0 c1 c2 c3 h0 n0 Z0 SB Od Vy) hZ (own_w hw 154 rfl) (own_w hw 24 rfl) (by decide) (by decide)) (g := (mkF m 2 #[.val (.int (1 : Int32)), .val (.ref r1)] [(.ref r1), (.int (1 : Int32))])) rfl (by rw [hml]; rfl) (argsL := [(.ref r1)]) (rest := [(.int (1 : Int32))]) (lenOf pd_24 rfl) rfl (by show 2 * 0 + _ ≤ _; exact Nat.le_of_eq rfl) (hb hby d32_2) (fun _ _ => ⟨rfl, e0, (by decide : 0 + 0 ≤ _), (by decide : 0 + 0 ≤ _)⟩)
  dsimp only [Pt.U, Pt.locs, Pt.cells, Pt.slots] at X2 l2 y2 z2 st2 hQ2
  subst l2 y2 z2
  obtain ⟨rfl, Nq2, e2⟩ := hQ2
  have N2 := Fr.app N0 Nq2
  obtain ⟨_, _, ⟨T3, L3, k3, n3⟩, -, X3, ⟨Lc3, hQ3, l3, y3, z3⟩, st3⟩ := Jvm.LawKit.callS X2 hx (y := (⟨"java/lang/String", "checkIndex", "(II)V"⟩ : MethodName)) hown (mvT hZ (own_w hw 155 rfl)) (mvT hZ (own_w hw 89 rfl)) (mvT hZ (own_w hw 10 rfl)) (mvT hZ (own_w hw 90 rfl)) (by decide) (backOf (W := 0) (rmSci l Z a0 hw [] (1 : Int32) (4 : Int32) cs fm h0 n0 Z0 SB Od (by decide) (by decide)) hZ (own_w hw 90 rfl) (own_w hw 10 rfl) (by decide) (by decide)) (g := (mkF m 5 #[.val (.int (1 : Int32)), .val (.ref r1)] [(.int (4 : Int32)), (.int (1 : Int32))])) rfl (by rw [hml]; rfl) (argsL := [(.int (1 : Int32)), (.int (4 : Int32))]) (rest := []) (lenOf pd_14 rfl) rfl (by show 2 * 0 + _ ≤ _; exact Nat.le_of_eq rfl) (hb hby d32_5) (fun _ _ => ⟨rfl, e2, (by decide : 0 + 0 ≤ _), (by decide : 0 + 0 ≤ _)⟩)
  dsimp only [Pt.U, Pt.locs, Pt.cells, Pt.slots] at X3 l3 y3 z3 st3 hQ3
  subst l3 y3 z3
  obtain ⟨rfl, Nq3, e3⟩ := hQ3
  have N3 := Fr.app N2 Nq3
  obtain ⟨fs, hr, hrun, hended, hW, hsame⟩ := X3.leave (v := none) (fun _ => rfl)
  refine ⟨_, _, pre0 _ (st1 _ (st2 _ (st3 _ ?_))), hrun, hended, _, _, rfl, ?_, ⟨_, rfl⟩, hW, hsame.mono (by decide) (by decide)⟩
  · show Steps p.tables e below (T3.setTop (mkF m 8 #[.val (.int (1 : Int32)), .val (.ref r1)] [])) _
    exact X3.returnOut hx Bd.returns (hb hby d32_8) hr
  · show Q_rmUci1_U4 Z r1 cs fm ky c0 c1 c2 c3 h0 n0 _ T3.heap _
    rw [e3]
    exact ⟨rfl, N3, rfl⟩
theorem ef_rmAch1_U4 (m : MethodId) (x0 : Addr) (x1 : Int32) : entryFrame m #[(.ref x0), (.int x1)] 2 = mkF m 0 #[.val (.ref x0), .val (.int x1)] [] := by first | (simp [entryFrame, mkF, argsToLocals, Value.category]; done) | rfl
def Q_rmAch1_U4 (Z : State) (r0 : Addr) (cs : Int32) (fm : Value) (ky : ClassId) (c0 : Int32) (c1 : Int32) (c2 : Int32) (c3 : Int32) (h0 : Heap) (n0 : Nat) (v : Option Value) (h : Heap) (L : List Loc) : Prop := v = some (.int c1) ∧ Fr n0 L ∧ h = h0
set_option maxRecDepth 65536 in
set_option maxHeartbeats 40000000 in
theorem rmAch1_U4 (l : Launch) (Z : State) (a0 : Array Value) (hw : ∀ d ∈ tables_1, d.before a0 Z = true) (ws : List Jvm.Cond) (r0 : Addr) (cs : Int32) (fm : Value) (ky : ClassId) (c0 : Int32) (c1 : Int32) (c2 : Int32) (c3 : Int32) (h0 : Heap) (n0 : Nat) (Z0 : n0 ≤ h0.size) (SB : own_St Z cs fm) (Od : Old Z n0 h0) (Vy : Arv Z h0 r0 ky .byte (8 : Int32) [(.int (own_lo c0)), (.int (own_hi c0)), (.int (own_lo c1)), (.int (own_hi c1)), (.int (own_lo c2)), (.int (own_hi c2)), (.int (own_lo c3)), (.int (own_hi c3))] (.int (0 : Int32))) (hc1_ : 0 ≤ c1.toInt ∧ c1.toInt < 65536) :
    MetFree l (⟨"java/lang/StringUTF16", "charAt", "([BI)C"⟩ : MethodName) (head1 (Jvm.Cond.code (⟨"java/lang/StringUTF16", "charAt", "([BI)C"⟩ : MethodName) jdk_52_method_83_code 2 (some .char) :: ws) ({ frames := 3, cells := 0, slots := 0, locals := 40 } : Room)) (fun a U => a = #[(.ref r0), (.int (1 : Int32))] ∧ Z.Warmed39 U.vm ∧ U.heap = h0) (fun _ _ _ _ _ => True) (fun _ U o U' => ∃ v L, o = .returned v ∧ Q_rmAch1_U4 Z r0 cs fm ky c0 c1 c2 c3 h0 n0 v U'.heap L ∧ FrameEnd U o U' L ({ frames := 3, cells := 0, slots := 0, locals := 40 } : Room).cells ({ frames := 3, cells := 0, slots := 0, locals := 40 } : Room).slots) := by
  refine MetFree.of_bodySF (plainFor_of_name pn_0) hisR ?_
  intro p e s m args below meth c s₁ Bd hml0 hP hK
  obtain ⟨rfl, hZ, hh⟩ := hP
  have hx := Bd.exec
  have hby := Bd.bytes
  have hml : c.maxLocals = 2 := hml0
  have hown : s.vm.findClass "java/lang/StringUTF16" = some m.cls := findClass_of_methodNamed Bd.named
  have hnm := (name_of_methodNamed Bd.named Bd.method).1
  have X0 : Stand p l e ({ frames := 3, cells := 0, slots := 0, locals := 40 } : Room) s m #[(.ref r0), (.int (1 : Int32))] below meth c s₁ [] 0 0 := Stand.of_body Bd
  have e0 : s₁.heap = h0 := by rw [← hh, Bd.state]; rfl
  have N0 := Fr.nil n0
  have pre0 : ∀ t, Steps p.tables e below (s₁.setTop (mkF m 0 #[.val (.ref r0), .val (.int (1 : Int32))] [])) t → Steps p.tables e below (s₁.setTop (entryFrame m #[(.ref r0), (.int (1 : Int32))] 2)) t := fun t k => castTop (ef_rmAch1_U4 m r0 (1 : Int32)) k
  have st1 : own_S p e below s₁ (mkF m 2 #[.val (.ref r0), .val (.int (1 : Int32))] [(.ref r0), (.int (1 : Int32))]) (mkF m 0 #[.val (.ref r0), .val (.int (1 : Int32))] []) := by
    intro target kt
    refine XS.iloadN X0.here hx rfl (hb hby d31_0) rfl ?_
    refine XS.aloadN X0.here hx rfl (hb hby d31_1) rfl rfl ?_
    exact kt
  obtain ⟨_, _, ⟨T2, L2, k2, n2⟩, -, X2, ⟨Lc2, hQ2, l2, y2, z2⟩, st2⟩ := Jvm.LawKit.callS X0 hx (y := (⟨"java/lang/StringUTF16", "checkIndex", "(I[B)V"⟩ : MethodName)) hown (mvT hZ (own_w hw 149 rfl)) (mvT hZ (own_w hw 150 rfl)) (mvT hZ (own_w hw 24 rfl)) (mvT hZ (own_w hw 151 rfl)) (by decide) (backOf (W := 0) (rmUci1_U4 l Z a0 hw [] r0 cs fm ky c0 c1 c2 c3 h0 n0 Z0 SB Od Vy) hZ (own_w hw 151 rfl) (own_w hw 24 rfl) (by decide) (by decide)) (g := (mkF m 2 #[.val (.ref r0), .val (.int (1 : Int32))] [(.ref r0), (.int (1 : Int32))])) rfl (by rw [hml]; rfl) (argsL := [(.int (1 : Int32)), (.ref r0)]) (rest := []) (lenOf pd_23 rfl) rfl (by show 2 * 0 + _ ≤ _; exact Nat.le_of_eq rfl) (hb hby d31_2) (fun _ _ => ⟨rfl, e0, (by decide : 0 + 0 ≤ _), (by decide : 0 + 0 ≤ _)⟩)
  dsimp only [Pt.U, Pt.locs, Pt.cells, Pt.slots] at X2 l2 y2 z2 st2 hQ2
  subst l2 y2 z2
  obtain ⟨rfl, Nq2, e2⟩ := hQ2
  have N2 := Fr.app N0 Nq2
  have st3 : own_S p e below T2 (mkF m 7 #[.val (.ref r0), .val (.int (1 : Int32))] [(.int (1 : Int32)), (.ref r0)]) (mkF m 5 #[.val (.ref r0), .val (.int (1 : Int32))] []) := by
    intro target kt
    refine XS.aloadN X2.here hx rfl (hb hby d31_5) rfl rfl ?_
    refine XS.iloadN X2.here hx rfl (hb hby d31_6) rfl ?_
    exact kt
  obtain ⟨_, _, ⟨T4, L4, k4, n4⟩, -, X4, ⟨Lc4, hQ4, l4, y4, z4⟩, st4⟩ := Jvm.LawKit.callS X2 hx (y := (⟨"java/lang/StringUTF16", "getChar", "([BI)C"⟩ : MethodName)) hown (mvT hZ (own_w hw 143 rfl)) (mvT hZ (own_w hw 144 rfl)) (mvT hZ (own_w hw 24 rfl)) (mvT hZ (own_w hw 145 rfl)) (by decide) (backOf (W := 0) (rmGC1_U4 l Z a0 hw [] r0 cs fm ky c0 c1 c2 c3 h0 n0 Z0 SB Od Vy hc1_) hZ (own_w hw 145 rfl) (own_w hw 24 rfl) (by decide) (by decide)) (g := (mkF m 7 #[.val (.ref r0), .val (.int (1 : Int32))] [(.int (1 : Int32)), (.ref r0)])) rfl (by rw [hml]; rfl) (argsL := [(.ref r0), (.int (1 : Int32))]) (rest := []) (lenOf pd_13 rfl) rfl (by show 2 * 0 + _ ≤ _; exact Nat.le_of_eq rfl) (hb hby d31_7) (fun _ _ => ⟨rfl, e2, (by decide : 0 + 0 ≤ _), (by decide : 0 + 0 ≤ _)⟩)
  dsimp only [Pt.U, Pt.locs, Pt.cells, Pt.slots] at X4 l4 y4 z4 st4 hQ4
  subst l4 y4 z4
  obtain ⟨rfl, Nq4, e4⟩ := hQ4
  have N4 := Fr.app N2 Nq4
  obtain ⟨fs, hr, hrun, hended, hW, hsame⟩ := X4.leave (v := some (.int (nar .char c1))) (fun h => by rw [Bd.returns] at h; cases h)
  refine ⟨_, _, pre0 _ (st1 _ (st2 _ (st3 _ (st4 _ ?_)))), hrun, hended, _, _, rfl, ?_, ⟨_, rfl⟩, hW, hsame.mono (by decide) (by decide)⟩
  · show Steps p.tables e below (T4.setTop (mkF m 10 #[.val (.ref r0), .val (.int (1 : Int32))] [(.int c1)])) _
    exact retN X4 hx (t := .char) Bd.returns (by simp) (hb hby d31_10) hr
  · show Q_rmAch1_U4 Z r0 cs fm ky c0 c1 c2 c3 h0 n0 _ T4.heap _
    rw [e4]
    exact ⟨congrArg (fun z => some (Value.int z)) (own_ncI hc1_), N4, rfl⟩
theorem ef_rmUci2_U4 (m : MethodId) (x0 : Int32) (x1 : Addr) : entryFrame m #[(.int x0), (.ref x1)] 2 = mkF m 0 #[.val (.int x0), .val (.ref x1)] [] := by first | (simp [entryFrame, mkF, argsToLocals, Value.category]; done) | rfl
def Q_rmUci2_U4 (Z : State) (r1 : Addr) (cs : Int32) (fm : Value) (ky : ClassId) (c0 : Int32) (c1 : Int32) (c2 : Int32) (c3 : Int32) (h0 : Heap) (n0 : Nat) (v : Option Value) (h : Heap) (L : List Loc) : Prop := v = none ∧ Fr n0 L ∧ h = h0
set_option maxRecDepth 65536 in
set_option maxHeartbeats 40000000 in
theorem rmUci2_U4 (l : Launch) (Z : State) (a0 : Array Value) (hw : ∀ d ∈ tables_1, d.before a0 Z = true) (ws : List Jvm.Cond) (r1 : Addr) (cs : Int32) (fm : Value) (ky : ClassId) (c0 : Int32) (c1 : Int32) (c2 : Int32) (c3 : Int32) (h0 : Heap) (n0 : Nat) (Z0 : n0 ≤ h0.size) (SB : own_St Z cs fm) (Od : Old Z n0 h0) (Vy : Arv Z h0 r1 ky .byte (8 : Int32) [(.int (own_lo c0)), (.int (own_hi c0)), (.int (own_lo c1)), (.int (own_hi c1)), (.int (own_lo c2)), (.int (own_hi c2)), (.int (own_lo c3)), (.int (own_hi c3))] (.int (0 : Int32))) :
    MetFree l (⟨"java/lang/StringUTF16", "checkIndex", "(I[B)V"⟩ : MethodName) (head1 (Jvm.Cond.code (⟨"java/lang/StringUTF16", "checkIndex", "(I[B)V"⟩ : MethodName) jdk_52_method_91_code 2 none :: ws) ({ frames := 2, cells := 0, slots := 0, locals := 27 } : Room)) (fun a U => a = #[(.int (2 : Int32)), (.ref r1)] ∧ Z.Warmed39 U.vm ∧ U.heap = h0) (fun _ _ _ _ _ => True) (fun _ U o U' => ∃ v L, o = .returned v ∧ Q_rmUci2_U4 Z r1 cs fm ky c0 c1 c2 c3 h0 n0 v U'.heap L ∧ FrameEnd U o U' L ({ frames := 2, cells := 0, slots := 0, locals := 27 } : Room).cells ({ frames := 2, cells := 0, slots := 0, locals := 27 } : Room).slots) := by
  refine MetFree.of_bodySF (plainFor_of_name pn_0) hisR ?_
  intro p e s m args below meth c s₁ Bd hml0 hP hK
  obtain ⟨rfl, hZ, hh⟩ := hP
  have hx := Bd.exec
  have hby := Bd.bytes
  have hml : c.maxLocals = 2 := hml0
  have hown : s.vm.findClass "java/lang/StringUTF16" = some m.cls := findClass_of_methodNamed Bd.named
  have hnm := (name_of_methodNamed Bd.named Bd.method).1
  have X0 : Stand p l e ({ frames := 2, cells := 0, slots := 0, locals := 27 } : Room) s m #[(.int (2 : Int32)), (.ref r1)] below meth c s₁ [] 0 0 := Stand.of_body Bd
  have e0 : s₁.heap = h0 := by rw [← hh, Bd.state]; rfl
  have N0 := Fr.nil n0
  have pre0 : ∀ t, Steps p.tables e below (s₁.setTop (mkF m 0 #[.val (.int (2 : Int32)), .val (.ref r1)] [])) t → Steps p.tables e below (s₁.setTop (entryFrame m #[(.int (2 : Int32)), (.ref r1)] 2)) t := fun t k => castTop (ef_rmUci2_U4 m (2 : Int32) r1) k
  have st1 : own_S p e below s₁ (mkF m 2 #[.val (.int (2 : Int32)), .val (.ref r1)] [(.ref r1), (.int (2 : Int32))]) (mkF m 0 #[.val (.int (2 : Int32)), .val (.ref r1)] []) := by
    intro target kt
    refine XS.iloadN X0.here hx rfl (hb hby d32_0) rfl ?_
    refine XS.aloadN X0.here hx rfl (hb hby d32_1) rfl rfl ?_
    exact kt
  obtain ⟨_, _, ⟨T2, L2, k2, n2⟩, -, X2, ⟨Lc2, hQ2, l2, y2, z2⟩, st2⟩ := Jvm.LawKit.callS X0 hx (y := (⟨"java/lang/StringUTF16", "length", "([B)I"⟩ : MethodName)) hown (mvT hZ (own_w hw 152 rfl)) (mvT hZ (own_w hw 153 rfl)) (mvT hZ (own_w hw 24 rfl)) (mvT hZ (own_w hw 154 rfl)) (by decide) (backOf (W := 1) (rmUlen_U4 l Z a0 hw [] r1 cs fm ky c0 c1 c2 c3 h0 n0 Z0 SB Od Vy) hZ (own_w hw 154 rfl) (own_w hw 24 rfl) (by decide) (by decide)) (g := (mkF m 2 #[.val (.int (2 : Int32)), .val (.ref r1)] [(.ref r1), (.int (2 : Int32))])) rfl (by rw [hml]; rfl) (argsL := [(.ref r1)]) (rest := [(.int (2 : Int32))]) (lenOf pd_24 rfl) rfl (by show 2 * 0 + _ ≤ _; exact Nat.le_of_eq rfl) (hb hby d32_2) (fun _ _ => ⟨rfl, e0, (by decide : 0 + 0 ≤ _), (by decide : 0 + 0 ≤ _)⟩)
  dsimp only [Pt.U, Pt.locs, Pt.cells, Pt.slots] at X2 l2 y2 z2 st2 hQ2
  subst l2 y2 z2
  obtain ⟨rfl, Nq2, e2⟩ := hQ2
  have N2 := Fr.app N0 Nq2
  obtain ⟨_, _, ⟨T3, L3, k3, n3⟩, -, X3, ⟨Lc3, hQ3, l3, y3, z3⟩, st3⟩ := Jvm.LawKit.callS X2 hx (y := (⟨"java/lang/String", "checkIndex", "(II)V"⟩ : MethodName)) hown (mvT hZ (own_w hw 155 rfl)) (mvT hZ (own_w hw 89 rfl)) (mvT hZ (own_w hw 10 rfl)) (mvT hZ (own_w hw 90 rfl)) (by decide) (backOf (W := 0) (rmSci l Z a0 hw [] (2 : Int32) (4 : Int32) cs fm h0 n0 Z0 SB Od (by decide) (by decide)) hZ (own_w hw 90 rfl) (own_w hw 10 rfl) (by decide) (by decide)) (g := (mkF m 5 #[.val (.int (2 : Int32)), .val (.ref r1)] [(.int (4 : Int32)), (.int (2 : Int32))])) rfl (by rw [hml]; rfl) (argsL := [(.int (2 : Int32)), (.int (4 : Int32))]) (rest := []) (lenOf pd_14 rfl) rfl (by show 2 * 0 + _ ≤ _; exact Nat.le_of_eq rfl) (hb hby d32_5) (fun _ _ => ⟨rfl, e2, (by decide : 0 + 0 ≤ _), (by decide : 0 + 0 ≤ _)⟩)
  dsimp only [Pt.U, Pt.locs, Pt.cells, Pt.slots] at X3 l3 y3 z3 st3 hQ3
  subst l3 y3 z3
  obtain ⟨rfl, Nq3, e3⟩ := hQ3
  have N3 := Fr.app N2 Nq3
  obtain ⟨fs, hr, hrun, hended, hW, hsame⟩ := X3.leave (v := none) (fun _ => rfl)
  refine ⟨_, _, pre0 _ (st1 _ (st2 _ (st3 _ ?_))), hrun, hended, _, _, rfl, ?_, ⟨_, rfl⟩, hW, hsame.mono (by decide) (by decide)⟩
  · show Steps p.tables e below (T3.setTop (mkF m 8 #[.val (.int (2 : Int32)), .val (.ref r1)] [])) _
    exact X3.returnOut hx Bd.returns (hb hby d32_8) hr
  · show Q_rmUci2_U4 Z r1 cs fm ky c0 c1 c2 c3 h0 n0 _ T3.heap _
    rw [e3]
    exact ⟨rfl, N3, rfl⟩
theorem ef_rmAch2_U4 (m : MethodId) (x0 : Addr) (x1 : Int32) : entryFrame m #[(.ref x0), (.int x1)] 2 = mkF m 0 #[.val (.ref x0), .val (.int x1)] [] := by first | (simp [entryFrame, mkF, argsToLocals, Value.category]; done) | rfl
def Q_rmAch2_U4 (Z : State) (r0 : Addr) (cs : Int32) (fm : Value) (ky : ClassId) (c0 : Int32) (c1 : Int32) (c2 : Int32) (c3 : Int32) (h0 : Heap) (n0 : Nat) (v : Option Value) (h : Heap) (L : List Loc) : Prop := v = some (.int c2) ∧ Fr n0 L ∧ h = h0
set_option maxRecDepth 65536 in
set_option maxHeartbeats 40000000 in
theorem rmAch2_U4 (l : Launch) (Z : State) (a0 : Array Value) (hw : ∀ d ∈ tables_1, d.before a0 Z = true) (ws : List Jvm.Cond) (r0 : Addr) (cs : Int32) (fm : Value) (ky : ClassId) (c0 : Int32) (c1 : Int32) (c2 : Int32) (c3 : Int32) (h0 : Heap) (n0 : Nat) (Z0 : n0 ≤ h0.size) (SB : own_St Z cs fm) (Od : Old Z n0 h0) (Vy : Arv Z h0 r0 ky .byte (8 : Int32) [(.int (own_lo c0)), (.int (own_hi c0)), (.int (own_lo c1)), (.int (own_hi c1)), (.int (own_lo c2)), (.int (own_hi c2)), (.int (own_lo c3)), (.int (own_hi c3))] (.int (0 : Int32))) (hc2_ : 0 ≤ c2.toInt ∧ c2.toInt < 65536) :
    MetFree l (⟨"java/lang/StringUTF16", "charAt", "([BI)C"⟩ : MethodName) (head1 (Jvm.Cond.code (⟨"java/lang/StringUTF16", "charAt", "([BI)C"⟩ : MethodName) jdk_52_method_83_code 2 (some .char) :: ws) ({ frames := 3, cells := 0, slots := 0, locals := 40 } : Room)) (fun a U => a = #[(.ref r0), (.int (2 : Int32))] ∧ Z.Warmed39 U.vm ∧ U.heap = h0) (fun _ _ _ _ _ => True) (fun _ U o U' => ∃ v L, o = .returned v ∧ Q_rmAch2_U4 Z r0 cs fm ky c0 c1 c2 c3 h0 n0 v U'.heap L ∧ FrameEnd U o U' L ({ frames := 3, cells := 0, slots := 0, locals := 40 } : Room).cells ({ frames := 3, cells := 0, slots := 0, locals := 40 } : Room).slots) := by
  refine MetFree.of_bodySF (plainFor_of_name pn_0) hisR ?_
  intro p e s m args below meth c s₁ Bd hml0 hP hK
  obtain ⟨rfl, hZ, hh⟩ := hP
  have hx := Bd.exec
  have hby := Bd.bytes
  have hml : c.maxLocals = 2 := hml0
  have hown : s.vm.findClass "java/lang/StringUTF16" = some m.cls := findClass_of_methodNamed Bd.named
  have hnm := (name_of_methodNamed Bd.named Bd.method).1
  have X0 : Stand p l e ({ frames := 3, cells := 0, slots := 0, locals := 40 } : Room) s m #[(.ref r0), (.int (2 : Int32))] below meth c s₁ [] 0 0 := Stand.of_body Bd
  have e0 : s₁.heap = h0 := by rw [← hh, Bd.state]; rfl
  have N0 := Fr.nil n0
  have pre0 : ∀ t, Steps p.tables e below (s₁.setTop (mkF m 0 #[.val (.ref r0), .val (.int (2 : Int32))] [])) t → Steps p.tables e below (s₁.setTop (entryFrame m #[(.ref r0), (.int (2 : Int32))] 2)) t := fun t k => castTop (ef_rmAch2_U4 m r0 (2 : Int32)) k
  have st1 : own_S p e below s₁ (mkF m 2 #[.val (.ref r0), .val (.int (2 : Int32))] [(.ref r0), (.int (2 : Int32))]) (mkF m 0 #[.val (.ref r0), .val (.int (2 : Int32))] []) := by
    intro target kt
    refine XS.iloadN X0.here hx rfl (hb hby d31_0) rfl ?_
    refine XS.aloadN X0.here hx rfl (hb hby d31_1) rfl rfl ?_
    exact kt
  obtain ⟨_, _, ⟨T2, L2, k2, n2⟩, -, X2, ⟨Lc2, hQ2, l2, y2, z2⟩, st2⟩ := Jvm.LawKit.callS X0 hx (y := (⟨"java/lang/StringUTF16", "checkIndex", "(I[B)V"⟩ : MethodName)) hown (mvT hZ (own_w hw 149 rfl)) (mvT hZ (own_w hw 150 rfl)) (mvT hZ (own_w hw 24 rfl)) (mvT hZ (own_w hw 151 rfl)) (by decide) (backOf (W := 0) (rmUci2_U4 l Z a0 hw [] r0 cs fm ky c0 c1 c2 c3 h0 n0 Z0 SB Od Vy) hZ (own_w hw 151 rfl) (own_w hw 24 rfl) (by decide) (by decide)) (g := (mkF m 2 #[.val (.ref r0), .val (.int (2 : Int32))] [(.ref r0), (.int (2 : Int32))])) rfl (by rw [hml]; rfl) (argsL := [(.int (2 : Int32)), (.ref r0)]) (rest := []) (lenOf pd_23 rfl) rfl (by show 2 * 0 + _ ≤ _; exact Nat.le_of_eq rfl) (hb hby d31_2) (fun _ _ => ⟨rfl, e0, (by decide : 0 + 0 ≤ _), (by decide : 0 + 0 ≤ _)⟩)
  dsimp only [Pt.U, Pt.locs, Pt.cells, Pt.slots] at X2 l2 y2 z2 st2 hQ2
  subst l2 y2 z2
  obtain ⟨rfl, Nq2, e2⟩ := hQ2
  have N2 := Fr.app N0 Nq2
  have st3 : own_S p e below T2 (mkF m 7 #[.val (.ref r0), .val (.int (2 : Int32))] [(.int (2 : Int32)), (.ref r0)]) (mkF m 5 #[.val (.ref r0), .val (.int (2 : Int32))] []) := by
    intro target kt
    refine XS.aloadN X2.here hx rfl (hb hby d31_5) rfl rfl ?_
    refine XS.iloadN X2.here hx rfl (hb hby d31_6) rfl ?_
    exact kt
  obtain ⟨_, _, ⟨T4, L4, k4, n4⟩, -, X4, ⟨Lc4, hQ4, l4, y4, z4⟩, st4⟩ := Jvm.LawKit.callS X2 hx (y := (⟨"java/lang/StringUTF16", "getChar", "([BI)C"⟩ : MethodName)) hown (mvT hZ (own_w hw 143 rfl)) (mvT hZ (own_w hw 144 rfl)) (mvT hZ (own_w hw 24 rfl)) (mvT hZ (own_w hw 145 rfl)) (by decide) (backOf (W := 0) (rmGC2_U4 l Z a0 hw [] r0 cs fm ky c0 c1 c2 c3 h0 n0 Z0 SB Od Vy hc2_) hZ (own_w hw 145 rfl) (own_w hw 24 rfl) (by decide) (by decide)) (g := (mkF m 7 #[.val (.ref r0), .val (.int (2 : Int32))] [(.int (2 : Int32)), (.ref r0)])) rfl (by rw [hml]; rfl) (argsL := [(.ref r0), (.int (2 : Int32))]) (rest := []) (lenOf pd_13 rfl) rfl (by show 2 * 0 + _ ≤ _; exact Nat.le_of_eq rfl) (hb hby d31_7) (fun _ _ => ⟨rfl, e2, (by decide : 0 + 0 ≤ _), (by decide : 0 + 0 ≤ _)⟩)
  dsimp only [Pt.U, Pt.locs, Pt.cells, Pt.slots] at X4 l4 y4 z4 st4 hQ4
  subst l4 y4 z4
  obtain ⟨rfl, Nq4, e4⟩ := hQ4
  have N4 := Fr.app N2 Nq4
  obtain ⟨fs, hr, hrun, hended, hW, hsame⟩ := X4.leave (v := some (.int (nar .char c2))) (fun h => by rw [Bd.returns] at h; cases h)
  refine ⟨_, _, pre0 _ (st1 _ (st2 _ (st3 _ (st4 _ ?_)))), hrun, hended, _, _, rfl, ?_, ⟨_, rfl⟩, hW, hsame.mono (by decide) (by decide)⟩
  · show Steps p.tables e below (T4.setTop (mkF m 10 #[.val (.ref r0), .val (.int (2 : Int32))] [(.int c2)])) _
    exact retN X4 hx (t := .char) Bd.returns (by simp) (hb hby d31_10) hr
  · show Q_rmAch2_U4 Z r0 cs fm ky c0 c1 c2 c3 h0 n0 _ T4.heap _
    rw [e4]
    exact ⟨congrArg (fun z => some (Value.int z)) (own_ncI hc2_), N4, rfl⟩
theorem ef_rmUci3_U4 (m : MethodId) (x0 : Int32) (x1 : Addr) : entryFrame m #[(.int x0), (.ref x1)] 2 = mkF m 0 #[.val (.int x0), .val (.ref x1)] [] := by first | (simp [entryFrame, mkF, argsToLocals, Value.category]; done) | rfl
def Q_rmUci3_U4 (Z : State) (r1 : Addr) (cs : Int32) (fm : Value) (ky : ClassId) (c0 : Int32) (c1 : Int32) (c2 : Int32) (c3 : Int32) (h0 : Heap) (n0 : Nat) (v : Option Value) (h : Heap) (L : List Loc) : Prop := v = none ∧ Fr n0 L ∧ h = h0
set_option maxRecDepth 65536 in
set_option maxHeartbeats 40000000 in
theorem rmUci3_U4 (l : Launch) (Z : State) (a0 : Array Value) (hw : ∀ d ∈ tables_1, d.before a0 Z = true) (ws : List Jvm.Cond) (r1 : Addr) (cs : Int32) (fm : Value) (ky : ClassId) (c0 : Int32) (c1 : Int32) (c2 : Int32) (c3 : Int32) (h0 : Heap) (n0 : Nat) (Z0 : n0 ≤ h0.size) (SB : own_St Z cs fm) (Od : Old Z n0 h0) (Vy : Arv Z h0 r1 ky .byte (8 : Int32) [(.int (own_lo c0)), (.int (own_hi c0)), (.int (own_lo c1)), (.int (own_hi c1)), (.int (own_lo c2)), (.int (own_hi c2)), (.int (own_lo c3)), (.int (own_hi c3))] (.int (0 : Int32))) :
    MetFree l (⟨"java/lang/StringUTF16", "checkIndex", "(I[B)V"⟩ : MethodName) (head1 (Jvm.Cond.code (⟨"java/lang/StringUTF16", "checkIndex", "(I[B)V"⟩ : MethodName) jdk_52_method_91_code 2 none :: ws) ({ frames := 2, cells := 0, slots := 0, locals := 27 } : Room)) (fun a U => a = #[(.int (3 : Int32)), (.ref r1)] ∧ Z.Warmed39 U.vm ∧ U.heap = h0) (fun _ _ _ _ _ => True) (fun _ U o U' => ∃ v L, o = .returned v ∧ Q_rmUci3_U4 Z r1 cs fm ky c0 c1 c2 c3 h0 n0 v U'.heap L ∧ FrameEnd U o U' L ({ frames := 2, cells := 0, slots := 0, locals := 27 } : Room).cells ({ frames := 2, cells := 0, slots := 0, locals := 27 } : Room).slots) := by
  refine MetFree.of_bodySF (plainFor_of_name pn_0) hisR ?_
  intro p e s m args below meth c s₁ Bd hml0 hP hK
  obtain ⟨rfl, hZ, hh⟩ := hP
  have hx := Bd.exec
  have hby := Bd.bytes
  have hml : c.maxLocals = 2 := hml0
  have hown : s.vm.findClass "java/lang/StringUTF16" = some m.cls := findClass_of_methodNamed Bd.named
  have hnm := (name_of_methodNamed Bd.named Bd.method).1
  have X0 : Stand p l e ({ frames := 2, cells := 0, slots := 0, locals := 27 } : Room) s m #[(.int (3 : Int32)), (.ref r1)] below meth c s₁ [] 0 0 := Stand.of_body Bd
  have e0 : s₁.heap = h0 := by rw [← hh, Bd.state]; rfl
  have N0 := Fr.nil n0
  have pre0 : ∀ t, Steps p.tables e below (s₁.setTop (mkF m 0 #[.val (.int (3 : Int32)), .val (.ref r1)] [])) t → Steps p.tables e below (s₁.setTop (entryFrame m #[(.int (3 : Int32)), (.ref r1)] 2)) t := fun t k => castTop (ef_rmUci3_U4 m (3 : Int32) r1) k
  have st1 : own_S p e below s₁ (mkF m 2 #[.val (.int (3 : Int32)), .val (.ref r1)] [(.ref r1), (.int (3 : Int32))]) (mkF m 0 #[.val (.int (3 : Int32)), .val (.ref r1)] []) := by
    intro target kt
    refine XS.iloadN X0.here hx rfl (hb hby d32_0) rfl ?_
    refine XS.aloadN X0.here hx rfl (hb hby d32_1) rfl rfl ?_
    exact kt
  obtain ⟨_, _, ⟨T2, L2, k2, n2⟩, -, X2, ⟨Lc2, hQ2, l2, y2, z2⟩, st2⟩ := Jvm.LawKit.callS X0 hx (y := (⟨"java/lang/StringUTF16", "length", "([B)I"⟩ : MethodName)) hown (mvT hZ (own_w hw 152 rfl)) (mvT hZ (own_w hw 153 rfl)) (mvT hZ (own_w hw 24 rfl)) (mvT hZ (own_w hw 154 rfl)) (by decide) (backOf (W := 1) (rmUlen_U4 l Z a0 hw [] r1 cs fm ky c0 c1 c2 c3 h0 n0 Z0 SB Od Vy) hZ (own_w hw 154 rfl) (own_w hw 24 rfl) (by decide) (by decide)) (g := (mkF m 2 #[.val (.int (3 : Int32)), .val (.ref r1)] [(.ref r1), (.int (3 : Int32))])) rfl (by rw [hml]; rfl) (argsL := [(.ref r1)]) (rest := [(.int (3 : Int32))]) (lenOf pd_24 rfl) rfl (by show 2 * 0 + _ ≤ _; exact Nat.le_of_eq rfl) (hb hby d32_2) (fun _ _ => ⟨rfl, e0, (by decide : 0 + 0 ≤ _), (by decide : 0 + 0 ≤ _)⟩)
  dsimp only [Pt.U, Pt.locs, Pt.cells, Pt.slots] at X2 l2 y2 z2 st2 hQ2
  subst l2 y2 z2
  obtain ⟨rfl, Nq2, e2⟩ := hQ2
  have N2 := Fr.app N0 Nq2
  obtain ⟨_, _, ⟨T3, L3, k3, n3⟩, -, X3, ⟨Lc3, hQ3, l3, y3, z3⟩, st3⟩ := Jvm.LawKit.callS X2 hx (y := (⟨"java/lang/String", "checkIndex", "(II)V"⟩ : MethodName)) hown (mvT hZ (own_w hw 155 rfl)) (mvT hZ (own_w hw 89 rfl)) (mvT hZ (own_w hw 10 rfl)) (mvT hZ (own_w hw 90 rfl)) (by decide) (backOf (W := 0) (rmSci l Z a0 hw [] (3 : Int32) (4 : Int32) cs fm h0 n0 Z0 SB Od (by decide) (by decide)) hZ (own_w hw 90 rfl) (own_w hw 10 rfl) (by decide) (by decide)) (g := (mkF m 5 #[.val (.int (3 : Int32)), .val (.ref r1)] [(.int (4 : Int32)), (.int (3 : Int32))])) rfl (by rw [hml]; rfl) (argsL := [(.int (3 : Int32)), (.int (4 : Int32))]) (rest := []) (lenOf pd_14 rfl) rfl (by show 2 * 0 + _ ≤ _; exact Nat.le_of_eq rfl) (hb hby d32_5) (fun _ _ => ⟨rfl, e2, (by decide : 0 + 0 ≤ _), (by decide : 0 + 0 ≤ _)⟩)
  dsimp only [Pt.U, Pt.locs, Pt.cells, Pt.slots] at X3 l3 y3 z3 st3 hQ3
  subst l3 y3 z3
  obtain ⟨rfl, Nq3, e3⟩ := hQ3
  have N3 := Fr.app N2 Nq3
  obtain ⟨fs, hr, hrun, hended, hW, hsame⟩ := X3.leave (v := none) (fun _ => rfl)
  refine ⟨_, _, pre0 _ (st1 _ (st2 _ (st3 _ ?_))), hrun, hended, _, _, rfl, ?_, ⟨_, rfl⟩, hW, hsame.mono (by decide) (by decide)⟩
  · show Steps p.tables e below (T3.setTop (mkF m 8 #[.val (.int (3 : Int32)), .val (.ref r1)] [])) _
    exact X3.returnOut hx Bd.returns (hb hby d32_8) hr
  · show Q_rmUci3_U4 Z r1 cs fm ky c0 c1 c2 c3 h0 n0 _ T3.heap _
    rw [e3]
    exact ⟨rfl, N3, rfl⟩
theorem ef_rmAch3_U4 (m : MethodId) (x0 : Addr) (x1 : Int32) : entryFrame m #[(.ref x0), (.int x1)] 2 = mkF m 0 #[.val (.ref x0), .val (.int x1)] [] := by first | (simp [entryFrame, mkF, argsToLocals, Value.category]; done) | rfl
def Q_rmAch3_U4 (Z : State) (r0 : Addr) (cs : Int32) (fm : Value) (ky : ClassId) (c0 : Int32) (c1 : Int32) (c2 : Int32) (c3 : Int32) (h0 : Heap) (n0 : Nat) (v : Option Value) (h : Heap) (L : List Loc) : Prop := v = some (.int c3) ∧ Fr n0 L ∧ h = h0
set_option maxRecDepth 65536 in
set_option maxHeartbeats 40000000 in
theorem rmAch3_U4 (l : Launch) (Z : State) (a0 : Array Value) (hw : ∀ d ∈ tables_1, d.before a0 Z = true) (ws : List Jvm.Cond) (r0 : Addr) (cs : Int32) (fm : Value) (ky : ClassId) (c0 : Int32) (c1 : Int32) (c2 : Int32) (c3 : Int32) (h0 : Heap) (n0 : Nat) (Z0 : n0 ≤ h0.size) (SB : own_St Z cs fm) (Od : Old Z n0 h0) (Vy : Arv Z h0 r0 ky .byte (8 : Int32) [(.int (own_lo c0)), (.int (own_hi c0)), (.int (own_lo c1)), (.int (own_hi c1)), (.int (own_lo c2)), (.int (own_hi c2)), (.int (own_lo c3)), (.int (own_hi c3))] (.int (0 : Int32))) (hc3_ : 0 ≤ c3.toInt ∧ c3.toInt < 65536) :
    MetFree l (⟨"java/lang/StringUTF16", "charAt", "([BI)C"⟩ : MethodName) (head1 (Jvm.Cond.code (⟨"java/lang/StringUTF16", "charAt", "([BI)C"⟩ : MethodName) jdk_52_method_83_code 2 (some .char) :: ws) ({ frames := 3, cells := 0, slots := 0, locals := 40 } : Room)) (fun a U => a = #[(.ref r0), (.int (3 : Int32))] ∧ Z.Warmed39 U.vm ∧ U.heap = h0) (fun _ _ _ _ _ => True) (fun _ U o U' => ∃ v L, o = .returned v ∧ Q_rmAch3_U4 Z r0 cs fm ky c0 c1 c2 c3 h0 n0 v U'.heap L ∧ FrameEnd U o U' L ({ frames := 3, cells := 0, slots := 0, locals := 40 } : Room).cells ({ frames := 3, cells := 0, slots := 0, locals := 40 } : Room).slots) := by
  refine MetFree.of_bodySF (plainFor_of_name pn_0) hisR ?_
  intro p e s m args below meth c s₁ Bd hml0 hP hK
  obtain ⟨rfl, hZ, hh⟩ := hP
  have hx := Bd.exec
  have hby := Bd.bytes
  have hml : c.maxLocals = 2 := hml0
  have hown : s.vm.findClass "java/lang/StringUTF16" = some m.cls := findClass_of_methodNamed Bd.named
  have hnm := (name_of_methodNamed Bd.named Bd.method).1
  have X0 : Stand p l e ({ frames := 3, cells := 0, slots := 0, locals := 40 } : Room) s m #[(.ref r0), (.int (3 : Int32))] below meth c s₁ [] 0 0 := Stand.of_body Bd
  have e0 : s₁.heap = h0 := by rw [← hh, Bd.state]; rfl
  have N0 := Fr.nil n0
  have pre0 : ∀ t, Steps p.tables e below (s₁.setTop (mkF m 0 #[.val (.ref r0), .val (.int (3 : Int32))] [])) t → Steps p.tables e below (s₁.setTop (entryFrame m #[(.ref r0), (.int (3 : Int32))] 2)) t := fun t k => castTop (ef_rmAch3_U4 m r0 (3 : Int32)) k
  have st1 : own_S p e below s₁ (mkF m 2 #[.val (.ref r0), .val (.int (3 : Int32))] [(.ref r0), (.int (3 : Int32))]) (mkF m 0 #[.val (.ref r0), .val (.int (3 : Int32))] []) := by
    intro target kt
    refine XS.iloadN X0.here hx rfl (hb hby d31_0) rfl ?_
    refine XS.aloadN X0.here hx rfl (hb hby d31_1) rfl rfl ?_
    exact kt
  obtain ⟨_, _, ⟨T2, L2, k2, n2⟩, -, X2, ⟨Lc2, hQ2, l2, y2, z2⟩, st2⟩ := Jvm.LawKit.callS X0 hx (y := (⟨"java/lang/StringUTF16", "checkIndex", "(I[B)V"⟩ : MethodName)) hown (mvT hZ (own_w hw 149 rfl)) (mvT hZ (own_w hw 150 rfl)) (mvT hZ (own_w hw 24 rfl)) (mvT hZ (own_w hw 151 rfl)) (by decide) (backOf (W := 0) (rmUci3_U4 l Z a0 hw [] r0 cs fm ky c0 c1 c2 c3 h0 n0 Z0 SB Od Vy) hZ (own_w hw 151 rfl) (own_w hw 24 rfl) (by decide) (by decide)) (g := (mkF m 2 #[.val (.ref r0), .val (.int (3 : Int32))] [(.ref r0), (.int (3 : Int32))])) rfl (by rw [hml]; rfl) (argsL := [(.int (3 : Int32)), (.ref r0)]) (rest := []) (lenOf pd_23 rfl) rfl (by show 2 * 0 + _ ≤ _; exact Nat.le_of_eq rfl) (hb hby d31_2) (fun _ _ => ⟨rfl, e0, (by decide : 0 + 0 ≤ _), (by decide : 0 + 0 ≤ _)⟩)
  dsimp only [Pt.U, Pt.locs, Pt.cells, Pt.slots] at X2 l2 y2 z2 st2 hQ2
  subst l2 y2 z2
  obtain ⟨rfl, Nq2, e2⟩ := hQ2
  have N2 := Fr.app N0 Nq2
  have st3 : own_S p e below T2 (mkF m 7 #[.val (.ref r0), .val (.int (3 : Int32))] [(.int (3 : Int32)), (.ref r0)]) (mkF m 5 #[.val (.ref r0), .val (.int (3 : Int32))] []) := by
    intro target kt
    refine XS.aloadN X2.here hx rfl (hb hby d31_5) rfl rfl ?_
    refine XS.iloadN X2.here hx rfl (hb hby d31_6) rfl ?_
    exact kt
  obtain ⟨_, _, ⟨T4, L4, k4, n4⟩, -, X4, ⟨Lc4, hQ4, l4, y4, z4⟩, st4⟩ := Jvm.LawKit.callS X2 hx (y := (⟨"java/lang/StringUTF16", "getChar", "([BI)C"⟩ : MethodName)) hown (mvT hZ (own_w hw 143 rfl)) (mvT hZ (own_w hw 144 rfl)) (mvT hZ (own_w hw 24 rfl)) (mvT hZ (own_w hw 145 rfl)) (by decide) (backOf (W := 0) (rmGC3_U4 l Z a0 hw [] r0 cs fm ky c0 c1 c2 c3 h0 n0 Z0 SB Od Vy hc3_) hZ (own_w hw 145 rfl) (own_w hw 24 rfl) (by decide) (by decide)) (g := (mkF m 7 #[.val (.ref r0), .val (.int (3 : Int32))] [(.int (3 : Int32)), (.ref r0)])) rfl (by rw [hml]; rfl) (argsL := [(.ref r0), (.int (3 : Int32))]) (rest := []) (lenOf pd_13 rfl) rfl (by show 2 * 0 + _ ≤ _; exact Nat.le_of_eq rfl) (hb hby d31_7) (fun _ _ => ⟨rfl, e2, (by decide : 0 + 0 ≤ _), (by decide : 0 + 0 ≤ _)⟩)
  dsimp only [Pt.U, Pt.locs, Pt.cells, Pt.slots] at X4 l4 y4 z4 st4 hQ4
  subst l4 y4 z4
  obtain ⟨rfl, Nq4, e4⟩ := hQ4
  have N4 := Fr.app N2 Nq4
  obtain ⟨fs, hr, hrun, hended, hW, hsame⟩ := X4.leave (v := some (.int (nar .char c3))) (fun h => by rw [Bd.returns] at h; cases h)
  refine ⟨_, _, pre0 _ (st1 _ (st2 _ (st3 _ (st4 _ ?_)))), hrun, hended, _, _, rfl, ?_, ⟨_, rfl⟩, hW, hsame.mono (by decide) (by decide)⟩
  · show Steps p.tables e below (T4.setTop (mkF m 10 #[.val (.ref r0), .val (.int (3 : Int32))] [(.int c3)])) _
    exact retN X4 hx (t := .char) Bd.returns (by simp) (hb hby d31_10) hr
  · show Q_rmAch3_U4 Z r0 cs fm ky c0 c1 c2 c3 h0 n0 _ T4.heap _
    rw [e4]
    exact ⟨congrArg (fun z => some (Value.int z)) (own_ncI hc3_), N4, rfl⟩
theorem d39_0 : decode jdk_52_method_48_code 0 = .ok (.iload_n 2, 1) := by decide +kernel
theorem d39_1 : decode jdk_52_method_48_code 1 = .ok (.istore 4, 2) := by decide +kernel
theorem d39_3 : decode jdk_52_method_48_code 3 = .ok (.iload 4, 2) := by decide +kernel
theorem d39_5 : decode jdk_52_method_48_code 5 = .ok (.iload_n 3, 1) := by decide +kernel
theorem d39_6 : decode jdk_52_method_48_code 6 = .ok (.if_icmp .ge 22, 3) := by decide +kernel
theorem d39_9 : decode jdk_52_method_48_code 9 = .ok (.aload_n 0, 1) := by decide +kernel
theorem d39_10 : decode jdk_52_method_48_code 10 = .ok (.iload 4, 2) := by decide +kernel
theorem d39_12 : decode jdk_52_method_48_code 12 = .ok (.invokestatic 71, 3) := by decide +kernel
theorem d39_15 : decode jdk_52_method_48_code 15 = .ok (.iload_n 1, 1) := by decide +kernel
theorem d39_16 : decode jdk_52_method_48_code 16 = .ok (.if_icmp .ne 6, 3) := by decide +kernel
theorem d39_19 : decode jdk_52_method_48_code 19 = .ok (.iload 4, 2) := by decide +kernel
theorem d39_21 : decode jdk_52_method_48_code 21 = .ok (.ireturn, 1) := by decide +kernel
theorem d39_22 : decode jdk_52_method_48_code 22 = .ok (.iinc 4 1, 3) := by decide +kernel
theorem d39_25 : decode jdk_52_method_48_code 25 = .ok (.goto (-22), 3) := by decide +kernel
theorem d39_28 : decode jdk_52_method_48_code 28 = .ok (.iconst (-1), 1) := by decide +kernel
theorem d39_29 : decode jdk_52_method_48_code 29 = .ok (.ireturn, 1) := by decide +kernel
theorem ef_rmIx1_U4 (m : MethodId) (x0 : Addr) (x1 : Int32) (x2 : Int32) (x3 : Int32) : entryFrame m #[(.ref x0), (.int x1), (.int x2), (.int x3)] 5 = mkF m 0 #[.val (.ref x0), .val (.int x1), .val (.int x2), .val (.int x3), .unset] [] := by first | (simp [entryFrame, mkF, argsToLocals, Value.category]; done) | rfl
def Q_rmIx1_U4 (Z : State) (r0 : Addr) (cs : Int32) (fm : Value) (ky : ClassId) (c0 : Int32) (c1 : Int32) (c2 : Int32) (c3 : Int32) (h0 : Heap) (n0 : Nat) (v : Option Value) (h : Heap) (L : List Loc) : Prop := ∃ z : Int32, (z < 0 ↔ ¬ (c1 = 44 ∨ c2 = 44 ∨ c3 = 44 ∨ False)) ∧ v = some (.int z) ∧ Fr n0 L ∧ h = h0
set_option maxRecDepth 65536 in
set_option maxHeartbeats 40000000 in
theorem rmIx1_U4 (l : Launch) (Z : State) (a0 : Array Value) (hw : ∀ d ∈ tables_1, d.before a0 Z = true) (ws : List Jvm.Cond) (r0 : Addr) (cs : Int32) (fm : Value) (ky : ClassId) (c0 : Int32) (c1 : Int32) (c2 : Int32) (c3 : Int32) (h0 : Heap) (n0 : Nat) (Z0 : n0 ≤ h0.size) (SB : own_St Z cs fm) (Od : Old Z n0 h0) (Vy : Arv Z h0 r0 ky .byte (8 : Int32) [(.int (own_lo c0)), (.int (own_hi c0)), (.int (own_lo c1)), (.int (own_hi c1)), (.int (own_lo c2)), (.int (own_hi c2)), (.int (own_lo c3)), (.int (own_hi c3))] (.int (0 : Int32))) (hc1_ : 0 ≤ c1.toInt ∧ c1.toInt < 65536) (hc2_ : 0 ≤ c2.toInt ∧ c2.toInt < 65536) (hc3_ : 0 ≤ c3.toInt ∧ c3.toInt < 65536) :
    MetFree l (⟨"java/lang/StringUTF16", "indexOfCharUnsafe", "([BIII)I"⟩ : MethodName) (head1 (Jvm.Cond.code (⟨"java/lang/StringUTF16", "indexOfCharUnsafe", "([BIII)I"⟩ : MethodName) jdk_52_method_48_code 5 (some .int) :: ws) ({ frames := 1, cells := 0, slots := 0, locals := 13 } : Room)) (fun a U => a = #[(.ref r0), (.int (44 : Int32)), (.int (1 : Int32)), (.int (4 : Int32))] ∧ Z.Warmed39 U.vm ∧ U.heap = h0) (fun _ _ _ _ _ => True) (fun _ U o U' => ∃ v L, o = .returned v ∧ Q_rmIx1_U4 Z r0 cs fm ky c0 c1 c2 c3 h0 n0 v U'.heap L ∧ FrameEnd U o U' L ({ frames := 1, cells := 0, slots := 0, locals := 13 } : Room).cells ({ frames := 1, cells := 0, slots := 0, locals := 13 } : Room).slots) := by
  refine MetFree.of_bodySF (plainFor_of_name pn_0) hisR ?_
  intro p e s m args below meth c s₁ Bd hml0 hP hK
  obtain ⟨rfl, hZ, hh⟩ := hP
  have hx := Bd.exec
  have hby := Bd.bytes
  have hml : c.maxLocals = 5 := hml0
  have hown : s.vm.findClass "java/lang/StringUTF16" = some m.cls := findClass_of_methodNamed Bd.named
  have hnm := (name_of_methodNamed Bd.named Bd.method).1
  have X0 : Stand p l e ({ frames := 1, cells := 0, slots := 0, locals := 13 } : Room) s m #[(.ref r0), (.int (44 : Int32)), (.int (1 : Int32)), (.int (4 : Int32))] below meth c s₁ [] 0 0 := Stand.of_body Bd
  have e0 : s₁.heap = h0 := by rw [← hh, Bd.state]; rfl
  have N0 := Fr.nil n0
  have pre0 : ∀ t, Steps p.tables e below (s₁.setTop (mkF m 0 #[.val (.ref r0), .val (.int (44 : Int32)), .val (.int (1 : Int32)), .val (.int (4 : Int32)), .unset] [])) t → Steps p.tables e below (s₁.setTop (entryFrame m #[(.ref r0), (.int (44 : Int32)), (.int (1 : Int32)), (.int (4 : Int32))] 5)) t := fun t k => castTop (ef_rmIx1_U4 m r0 (44 : Int32) (1 : Int32) (4 : Int32)) k
  have st1 : own_S p e below s₁ (mkF m 12 #[.val (.ref r0), .val (.int (44 : Int32)), .val (.int (1 : Int32)), .val (.int (4 : Int32)), .val (.int (1 : Int32))] [(.int (1 : Int32)), (.ref r0)]) (mkF m 0 #[.val (.ref r0), .val (.int (44 : Int32)), .val (.int (1 : Int32)), .val (.int (4 : Int32)), .unset] []) := by
    intro target kt
    refine XS.iloadN X0.here hx rfl (hb hby d39_0) rfl ?_
    refine XS.istore X0.here hx rfl (hb hby d39_1) rfl (l' := #[.val (.ref r0), .val (.int (44 : Int32)), .val (.int (1 : Int32)), .val (.int (4 : Int32)), .val (.int (1 : Int32))]) rfl ?_
    refine XS.iload X0.here hx rfl (hb hby d39_3) rfl ?_
    refine XS.iloadN X0.here hx rfl (hb hby d39_5) rfl ?_
    refine XS.icmpNo X0.here hx rfl (hb hby d39_6) rfl (tlt (by decide : ((1 : Int32) < (4 : Int32)))).2.1 ?_
    refine XS.aloadN X0.here hx rfl (hb hby d39_9) rfl rfl ?_
    refine XS.iload X0.here hx rfl (hb hby d39_10) rfl ?_
    exact kt
  obtain ⟨_, _, ⟨T2, L2, k2, n2⟩, -, X2, ⟨Lc2, hQ2, l2, y2, z2⟩, st2⟩ := Jvm.LawKit.callS X0 hx (y := (⟨"java/lang/StringUTF16", "getChar", "([BI)C"⟩ : MethodName)) hown (mvT hZ (own_w hw 143 rfl)) (mvT hZ (own_w hw 144 rfl)) (mvT hZ (own_w hw 24 rfl)) (mvT hZ (own_w hw 145 rfl)) (by decide) (backOf (W := 0) (rmGC1_U4 l Z a0 hw [] r0 cs fm ky c0 c1 c2 c3 h0 n0 Z0 SB Od Vy hc1_) hZ (own_w hw 145 rfl) (own_w hw 24 rfl) (by decide) (by decide)) (g := (mkF m 12 #[.val (.ref r0), .val (.int (44 : Int32)), .val (.int (1 : Int32)), .val (.int (4 : Int32)), .val (.int (1 : Int32))] [(.int (1 : Int32)), (.ref r0)])) rfl (by rw [hml]; rfl) (argsL := [(.ref r0), (.int (1 : Int32))]) (rest := []) (lenOf pd_13 rfl) rfl (by show 2 * 0 + _ ≤ _; exact Nat.le_of_eq rfl) (hb hby d39_12) (fun _ _ => ⟨rfl, e0, (by decide : 0 + 0 ≤ _), (by decide : 0 + 0 ≤ _)⟩)
  dsimp only [Pt.U, Pt.locs, Pt.cells, Pt.slots] at X2 l2 y2 z2 st2 hQ2
  subst l2 y2 z2
  obtain ⟨rfl, Nq2, e2⟩ := hQ2
  have N2 := Fr.app N0 Nq2
  have st3 : own_S p e below T2 (mkF m 16 #[.val (.ref r0), .val (.int (44 : Int32)), .val (.int (1 : Int32)), .val (.int (4 : Int32)), .val (.int (1 : Int32))] [(.int (44 : Int32)), (.int c1)]) (mkF m 15 #[.val (.ref r0), .val (.int (44 : Int32)), .val (.int (1 : Int32)), .val (.int (4 : Int32)), .val (.int (1 : Int32))] [(.int c1)]) := by
    intro target kt
    refine XS.iloadN X2.here hx rfl (hb hby d39_15) rfl ?_
    exact kt
  by_cases m1 : c1 = (44 : Int32)
  · have st4 : own_S p e below T2 (mkF m 19 #[.val (.ref r0), .val (.int (44 : Int32)), .val (.int (1 : Int32)), .val (.int (4 : Int32)), .val (.int (1 : Int32))] []) (mkF m 16 #[.val (.ref r0), .val (.int (44 : Int32)), .val (.int (1 : Int32)), .val (.int (4 : Int32)), .val (.int (1 : Int32))] [(.int (44 : Int32)), (.int c1)]) := by
      intro target kt
      refine XS.icmpNo X2.here hx rfl (hb hby d39_16) rfl (teq m1).2 ?_
      exact kt
    obtain ⟨fs, hr, hrun, hended, hW, hsame⟩ := X2.leave (v := some (.int (1 : Int32))) (fun h => by rw [Bd.returns] at h; cases h)
    refine ⟨_, _, pre0 _ (st1 _ (st2 _ (st3 _ (st4 _ ?_)))), hrun, hended, _, _, rfl, ?_, ⟨_, rfl⟩, hW, hsame.mono (by decide) (by decide)⟩
    · refine XS.iload X2.here hx rfl (hb hby d39_19) rfl ?_
      show Steps p.tables e below (T2.setTop (mkF m 21 #[.val (.ref r0), .val (.int (44 : Int32)), .val (.int (1 : Int32)), .val (.int (4 : Int32)), .val (.int (1 : Int32))] [(.int (1 : Int32))])) _
      exact retI X2 hx Bd.returns (hb hby d39_21) hr
    · show Q_rmIx1_U4 Z r0 cs fm ky c0 c1 c2 c3 h0 n0 _ T2.heap _
      rw [e2]
      exact ⟨_, iff_of_false (by decide) (by simp [m1]), rfl, N2, rfl⟩
  · have st5 : own_S p e below T2 (mkF m 22 #[.val (.ref r0), .val (.int (44 : Int32)), .val (.int (1 : Int32)), .val (.int (4 : Int32)), .val (.int (1 : Int32))] []) (mkF m 16 #[.val (.ref r0), .val (.int (44 : Int32)), .val (.int (1 : Int32)), .val (.int (4 : Int32)), .val (.int (1 : Int32))] [(.int (44 : Int32)), (.int c1)]) := by
      intro target kt
      refine XS.icmpYes X2.here hx rfl (pc0 := 16) (pc' := 22) rfl (hb hby d39_16) rfl (feq m1).2 (by decide) (by decide) ?_
      exact kt
    have st6 : own_S p e below T2 (mkF m 12 #[.val (.ref r0), .val (.int (44 : Int32)), .val (.int (1 : Int32)), .val (.int (4 : Int32)), .val (.int (2 : Int32))] [(.int (2 : Int32)), (.ref r0)]) (mkF m 22 #[.val (.ref r0), .val (.int (44 : Int32)), .val (.int (1 : Int32)), .val (.int (4 : Int32)), .val (.int (1 : Int32))] []) := by
      intro target kt
      refine XS.iinc X2.here hx rfl (hb hby d39_22) rfl (l' := #[.val (.ref r0), .val (.int (44 : Int32)), .val (.int (1 : Int32)), .val (.int (4 : Int32)), .val (.int (2 : Int32))]) rfl ?_
      refine XS.goto X2.here hx rfl (pc0 := 25) (pc' := 3) rfl (hb hby d39_25) (by decide) (by decide) ?_
      refine XS.iload X2.here hx rfl (hb hby d39_3) rfl ?_
      refine XS.iloadN X2.here hx rfl (hb hby d39_5) rfl ?_
      refine XS.icmpNo X2.here hx rfl (hb hby d39_6) rfl (tlt (by decide : ((2 : Int32) < (4 : Int32)))).2.1 ?_
      refine XS.aloadN X2.here hx rfl (hb hby d39_9) rfl rfl ?_
      refine XS.iload X2.here hx rfl (hb hby d39_10) rfl ?_
      exact kt
    obtain ⟨_, _, ⟨T7, L7, k7, n7⟩, -, X7, ⟨Lc7, hQ7, l7, y7, z7⟩, st7⟩ := Jvm.LawKit.callS X2 hx (y := (⟨"java/lang/StringUTF16", "getChar", "([BI)C"⟩ : MethodName)) hown (mvT hZ (own_w hw 143 rfl)) (mvT hZ (own_w hw 144 rfl)) (mvT hZ (own_w hw 24 rfl)) (mvT hZ (own_w hw 145 rfl)) (by decide) (backOf (W := 0) (rmGC2_U4 l Z a0 hw [] r0 cs fm ky c0 c1 c2 c3 h0 n0 Z0 SB Od Vy hc2_) hZ (own_w hw 145 rfl) (own_w hw 24 rfl) (by decide) (by decide)) (g := (mkF m 12 #[.val (.ref r0), .val (.int (44 : Int32)), .val (.int (1 : Int32)), .val (.int (4 : Int32)), .val (.int (2 : Int32))] [(.int (2 : Int32)), (.ref r0)])) rfl (by rw [hml]; rfl) (argsL := [(.ref r0), (.int (2 : Int32))]) (rest := []) (lenOf pd_13 rfl) rfl (by show 2 * 0 + _ ≤ _; exact Nat.le_of_eq rfl) (hb hby d39_12) (fun _ _ => ⟨rfl, e2, (by decide : 0 + 0 ≤ _), (by decide : 0 + 0 ≤ _)⟩)
    dsimp only [Pt.U, Pt.locs, Pt.cells, Pt.slots] at X7 l7 y7 z7 st7 hQ7
    subst l7 y7 z7
    obtain ⟨rfl, Nq7, e7⟩ := hQ7
    have N7 := Fr.app N2 Nq7
    have st8 : own_S p e below T7 (mkF m 16 #[.val (.ref r0), .val (.int (44 : Int32)), .val (.int (1 : Int32)), .val (.int (4 : Int32)), .val (.int (2 : Int32))] [(.int (44 : Int32)), (.int c2)]) (mkF m 15 #[.val (.ref r0), .val (.int (44 : Int32)), .val (.int (1 : Int32)), .val (.int (4 : Int32)), .val (.int (2 : Int32))] [(.int c2)]) := by
      intro target kt
      refine XS.iloadN X7.here hx rfl (hb hby d39_15) rfl ?_
      exact kt
    by_cases m2 : c2 = (44 : Int32)
    · have st9 : own_S p e below T7 (mkF m 19 #[.val (.ref r0), .val (.int (44 : Int32)), .val (.int (1 : Int32)), .val (.int (4 : Int32)), .val (.int (2 : Int32))] []) (mkF m 16 #[.val (.ref r0), .val (.int (44 : Int32)), .val (.int (1 : Int32)), .val (.int (4 : Int32)), .val (.int (2 : Int32))] [(.int (44 : Int32)), (.int c2)]) := by
        intro target kt
        refine XS.icmpNo X7.here hx rfl (hb hby d39_16) rfl (teq m2).2 ?_
        exact kt
      obtain ⟨fs, hr, hrun, hended, hW, hsame⟩ := X7.leave (v := some (.int (2 : Int32))) (fun h => by rw [Bd.returns] at h; cases h)
      refine ⟨_, _, pre0 _ (st1 _ (st2 _ (st3 _ (st5 _ (st6 _ (st7 _ (st8 _ (st9 _ ?_)))))))), hrun, hended, _, _, rfl, ?_, ⟨_, rfl⟩, hW, hsame.mono (by decide) (by decide)⟩
      · refine XS.iload X7.here hx rfl (hb hby d39_19) rfl ?_
        show Steps p.tables e below (T7.setTop (mkF m 21 #[.val (.ref r0), .val (.int (44 : Int32)), .val (.int (1 : Int32)), .val (.int (4 : Int32)), .val (.int (2 : Int32))] [(.int (2 : Int32))])) _
        exact retI X7 hx Bd.returns (hb hby d39_21) hr
      · show Q_rmIx1_U4 Z r0 cs fm ky c0 c1 c2 c3 h0 n0 _ T7.heap _
        rw [e7]
        exact ⟨_, iff_of_false (by decide) (by simp [m2]), rfl, N7, rfl⟩
    · have st10 : own_S p e below T7 (mkF m 22 #[.val (.ref r0), .val (.int (44 : Int32)), .val (.int (1 : Int32)), .val (.int (4 : Int32)), .val (.int (2 : Int32))] []) (mkF m 16 #[.val (.ref r0), .val (.int (44 : Int32)), .val (.int (1 : Int32)), .val (.int (4 : Int32)), .val (.int (2 : Int32))] [(.int (44 : Int32)), (.int c2)]) := by
        intro target kt
        refine XS.icmpYes X7.here hx rfl (pc0 := 16) (pc' := 22) rfl (hb hby d39_16) rfl (feq m2).2 (by decide) (by decide) ?_
        exact kt
      have st11 : own_S p e below T7 (mkF m 12 #[.val (.ref r0), .val (.int (44 : Int32)), .val (.int (1 : Int32)), .val (.int (4 : Int32)), .val (.int (3 : Int32))] [(.int (3 : Int32)), (.ref r0)]) (mkF m 22 #[.val (.ref r0), .val (.int (44 : Int32)), .val (.int (1 : Int32)), .val (.int (4 : Int32)), .val (.int (2 : Int32))] []) := by
        intro target kt
        refine XS.iinc X7.here hx rfl (hb hby d39_22) rfl (l' := #[.val (.ref r0), .val (.int (44 : Int32)), .val (.int (1 : Int32)), .val (.int (4 : Int32)), .val (.int (3 : Int32))]) rfl ?_
        refine XS.goto X7.here hx rfl (pc0 := 25) (pc' := 3) rfl (hb hby d39_25) (by decide) (by decide) ?_
        refine XS.iload X7.here hx rfl (hb hby d39_3) rfl ?_
        refine XS.iloadN X7.here hx rfl (hb hby d39_5) rfl ?_
        refine XS.icmpNo X7.here hx rfl (hb hby d39_6) rfl (tlt (by decide : ((3 : Int32) < (4 : Int32)))).2.1 ?_
        refine XS.aloadN X7.here hx rfl (hb hby d39_9) rfl rfl ?_
        refine XS.iload X7.here hx rfl (hb hby d39_10) rfl ?_
        exact kt
      obtain ⟨_, _, ⟨T12, L12, k12, n12⟩, -, X12, ⟨Lc12, hQ12, l12, y12, z12⟩, st12⟩ := Jvm.LawKit.callS X7 hx (y := (⟨"java/lang/StringUTF16", "getChar", "([BI)C"⟩ : MethodName)) hown (mvT hZ (own_w hw 143 rfl)) (mvT hZ (own_w hw 144 rfl)) (mvT hZ (own_w hw 24 rfl)) (mvT hZ (own_w hw 145 rfl)) (by decide) (backOf (W := 0) (rmGC3_U4 l Z a0 hw [] r0 cs fm ky c0 c1 c2 c3 h0 n0 Z0 SB Od Vy hc3_) hZ (own_w hw 145 rfl) (own_w hw 24 rfl) (by decide) (by decide)) (g := (mkF m 12 #[.val (.ref r0), .val (.int (44 : Int32)), .val (.int (1 : Int32)), .val (.int (4 : Int32)), .val (.int (3 : Int32))] [(.int (3 : Int32)), (.ref r0)])) rfl (by rw [hml]; rfl) (argsL := [(.ref r0), (.int (3 : Int32))]) (rest := []) (lenOf pd_13 rfl) rfl (by show 2 * 0 + _ ≤ _; exact Nat.le_of_eq rfl) (hb hby d39_12) (fun _ _ => ⟨rfl, e7, (by decide : 0 + 0 ≤ _), (by decide : 0 + 0 ≤ _)⟩)
      dsimp only [Pt.U, Pt.locs, Pt.cells, Pt.slots] at X12 l12 y12 z12 st12 hQ12
      subst l12 y12 z12
      obtain ⟨rfl, Nq12, e12⟩ := hQ12
      have N12 := Fr.app N7 Nq12
      have st13 : own_S p e below T12 (mkF m 16 #[.val (.ref r0), .val (.int (44 : Int32)), .val (.int (1 : Int32)), .val (.int (4 : Int32)), .val (.int (3 : Int32))] [(.int (44 : Int32)), (.int c3)]) (mkF m 15 #[.val (.ref r0), .val (.int (44 : Int32)), .val (.int (1 : Int32)), .val (.int (4 : Int32)), .val (.int (3 : Int32))] [(.int c3)]) := by
        intro target kt
        refine XS.iloadN X12.here hx rfl (hb hby d39_15) rfl ?_
        exact kt
      by_cases m3 : c3 = (44 : Int32)
      · have st14 : own_S p e below T12 (mkF m 19 #[.val (.ref r0), .val (.int (44 : Int32)), .val (.int (1 : Int32)), .val (.int (4 : Int32)), .val (.int (3 : Int32))] []) (mkF m 16 #[.val (.ref r0), .val (.int (44 : Int32)), .val (.int (1 : Int32)), .val (.int (4 : Int32)), .val (.int (3 : Int32))] [(.int (44 : Int32)), (.int c3)]) := by
          intro target kt
          refine XS.icmpNo X12.here hx rfl (hb hby d39_16) rfl (teq m3).2 ?_
          exact kt
        obtain ⟨fs, hr, hrun, hended, hW, hsame⟩ := X12.leave (v := some (.int (3 : Int32))) (fun h => by rw [Bd.returns] at h; cases h)
        refine ⟨_, _, pre0 _ (st1 _ (st2 _ (st3 _ (st5 _ (st6 _ (st7 _ (st8 _ (st10 _ (st11 _ (st12 _ (st13 _ (st14 _ ?_)))))))))))), hrun, hended, _, _, rfl, ?_, ⟨_, rfl⟩, hW, hsame.mono (by decide) (by decide)⟩
        · refine XS.iload X12.here hx rfl (hb hby d39_19) rfl ?_
          show Steps p.tables e below (T12.setTop (mkF m 21 #[.val (.ref r0), .val (.int (44 : Int32)), .val (.int (1 : Int32)), .val (.int (4 : Int32)), .val (.int (3 : Int32))] [(.int (3 : Int32))])) _
          exact retI X12 hx Bd.returns (hb hby d39_21) hr
        · show Q_rmIx1_U4 Z r0 cs fm ky c0 c1 c2 c3 h0 n0 _ T12.heap _
          rw [e12]
          exact ⟨_, iff_of_false (by decide) (by simp [m3]), rfl, N12, rfl⟩
      · have st15 : own_S p e below T12 (mkF m 22 #[.val (.ref r0), .val (.int (44 : Int32)), .val (.int (1 : Int32)), .val (.int (4 : Int32)), .val (.int (3 : Int32))] []) (mkF m 16 #[.val (.ref r0), .val (.int (44 : Int32)), .val (.int (1 : Int32)), .val (.int (4 : Int32)), .val (.int (3 : Int32))] [(.int (44 : Int32)), (.int c3)]) := by
          intro target kt
          refine XS.icmpYes X12.here hx rfl (pc0 := 16) (pc' := 22) rfl (hb hby d39_16) rfl (feq m3).2 (by decide) (by decide) ?_
          exact kt
        have st16 : own_S p e below T12 (mkF m 29 #[.val (.ref r0), .val (.int (44 : Int32)), .val (.int (1 : Int32)), .val (.int (4 : Int32)), .val (.int (4 : Int32))] [(.int (-1 : Int32))]) (mkF m 22 #[.val (.ref r0), .val (.int (44 : Int32)), .val (.int (1 : Int32)), .val (.int (4 : Int32)), .val (.int (3 : Int32))] []) := by
          intro target kt
          refine XS.iinc X12.here hx rfl (hb hby d39_22) rfl (l' := #[.val (.ref r0), .val (.int (44 : Int32)), .val (.int (1 : Int32)), .val (.int (4 : Int32)), .val (.int (4 : Int32))]) rfl ?_
          refine XS.goto X12.here hx rfl (pc0 := 25) (pc' := 3) rfl (hb hby d39_25) (by decide) (by decide) ?_
          refine XS.iload X12.here hx rfl (hb hby d39_3) rfl ?_
          refine XS.iloadN X12.here hx rfl (hb hby d39_5) rfl ?_
          refine XS.icmpYes X12.here hx rfl (pc0 := 6) (pc' := 28) rfl (hb hby d39_6) rfl (flt (by decide : ¬ ((4 : Int32) < (4 : Int32)))).2.1 (by decide) (by decide) ?_
          refine XS.iconst X12.here hx rfl (hb hby d39_28) ?_
          exact kt
        obtain ⟨fs, hr, hrun, hended, hW, hsame⟩ := X12.leave (v := some (.int (-1 : Int32))) (fun h => by rw [Bd.returns] at h; cases h)
        refine ⟨_, _, pre0 _ (st1 _ (st2 _ (st3 _ (st5 _ (st6 _ (st7 _ (st8 _ (st10 _ (st11 _ (st12 _ (st13 _ (st15 _ (st16 _ ?_))))))))))))), hrun, hended, _, _, rfl, ?_, ⟨_, rfl⟩, hW, hsame.mono (by decide) (by decide)⟩
        · show Steps p.tables e below (T12.setTop (mkF m 29 #[.val (.ref r0), .val (.int (44 : Int32)), .val (.int (1 : Int32)), .val (.int (4 : Int32)), .val (.int (4 : Int32))] [(.int (-1 : Int32))])) _
          exact retI X12 hx Bd.returns (hb hby d39_29) hr
        · show Q_rmIx1_U4 Z r0 cs fm ky c0 c1 c2 c3 h0 n0 _ T12.heap _
          rw [e12]
          exact ⟨_, iff_of_true (by decide) (by simp [m1, m2, m3]), rfl, N12, rfl⟩
theorem d38_0 : decode jdk_41_method_12_code 0 = .ok (.iload_n 0, 1) := by decide +kernel
theorem d38_1 : decode jdk_41_method_12_code 1 = .ok (.ifCond .lt 13, 3) := by decide +kernel
theorem d38_4 : decode jdk_41_method_12_code 4 = .ok (.iload_n 0, 1) := by decide +kernel
theorem d38_5 : decode jdk_41_method_12_code 5 = .ok (.iload_n 1, 1) := by decide +kernel
theorem d38_6 : decode jdk_41_method_12_code 6 = .ok (.if_icmp .gt 8, 3) := by decide +kernel
theorem d38_9 : decode jdk_41_method_12_code 9 = .ok (.iload_n 1, 1) := by decide +kernel
theorem d38_10 : decode jdk_41_method_12_code 10 = .ok (.iload_n 2, 1) := by decide +kernel
theorem d38_11 : decode jdk_41_method_12_code 11 = .ok (.if_icmp .le 11, 3) := by decide +kernel
theorem d38_22 : decode jdk_41_method_12_code 22 = .ok (.iload_n 0, 1) := by decide +kernel
theorem d38_23 : decode jdk_41_method_12_code 23 = .ok (.ireturn, 1) := by decide +kernel
theorem ef_rmPft (m : MethodId) (x0 : Int32) (x1 : Int32) (x2 : Int32) (x3 : Value) (hx3 : x3.isRef = true) : entryFrame m #[(.int x0), (.int x1), (.int x2), x3] 4 = mkF m 0 #[.val (.int x0), .val (.int x1), .val (.int x2), .val x3] [] := by rcases ref_cases hx3 with rfl | ⟨_, rfl⟩ <;> first | (simp [entryFrame, mkF, argsToLocals, Value.category]; done) | rfl
def Q_rmPft (Z : State) (p0 : Int32) (p1 : Int32) (p2 : Int32) (fm : Value) (h0 : Heap) (n0 : Nat) (v : Option Value) (h : Heap) (L : List Loc) : Prop := v = some (.int p0) ∧ Fr n0 L ∧ h = h0
set_option maxRecDepth 65536 in
set_option maxHeartbeats 40000000 in
theorem rmPft (l : Launch) (Z : State) (a0 : Array Value) (hw : ∀ d ∈ tables_1, d.before a0 Z = true) (ws : List Jvm.Cond) (p0 : Int32) (p1 : Int32) (p2 : Int32) (fm : Value) (h0 : Heap) (n0 : Nat) (Z0 : n0 ≤ h0.size) (hfm : fm.isRef = true) (u1 : ¬ p0 < 0) (u2 : ¬ p1 < p0) (u3 : ¬ p2 < p1) :
    MetFree l (⟨"jdk/internal/util/Preconditions", "checkFromToIndex", "(IIILjava/util/function/BiFunction;)I"⟩ : MethodName) (head1 (Jvm.Cond.code (⟨"jdk/internal/util/Preconditions", "checkFromToIndex", "(IIILjava/util/function/BiFunction;)I"⟩ : MethodName) jdk_41_method_12_code 4 (some .int) :: ws) ({ frames := 0, cells := 0, slots := 0, locals := 0 } : Room)) (fun a U => a = #[(.int p0), (.int p1), (.int p2), fm] ∧ Z.Warmed39 U.vm ∧ U.heap = h0) (fun _ _ _ _ _ => True) (fun _ U o U' => ∃ v L, o = .returned v ∧ Q_rmPft Z p0 p1 p2 fm h0 n0 v U'.heap L ∧ FrameEnd U o U' L ({ frames := 0, cells := 0, slots := 0, locals := 0 } : Room).cells ({ frames := 0, cells := 0, slots := 0, locals := 0 } : Room).slots) := by
  refine MetFree.of_bodySF (plainFor_of_name pn_2) hisR ?_
  intro p e s m args below meth c s₁ Bd hml0 hP hK
  obtain ⟨rfl, hZ, hh⟩ := hP
  have hx := Bd.exec
  have hby := Bd.bytes
  have hml : c.maxLocals = 4 := hml0
  have hown : s.vm.findClass "jdk/internal/util/Preconditions" = some m.cls := findClass_of_methodNamed Bd.named
  have hnm := (name_of_methodNamed Bd.named Bd.method).1
  have X0 : Stand p l e ({ frames := 0, cells := 0, slots := 0, locals := 0 } : Room) s m #[(.int p0), (.int p1), (.int p2), fm] below meth c s₁ [] 0 0 := Stand.of_body Bd
  have e0 : s₁.heap = h0 := by rw [← hh, Bd.state]; rfl
  have N0 := Fr.nil n0
  have pre0 : ∀ t, Steps p.tables e below (s₁.setTop (mkF m 0 #[.val (.int p0), .val (.int p1), .val (.int p2), .val fm] [])) t → Steps p.tables e below (s₁.setTop (entryFrame m #[(.int p0), (.int p1), (.int p2), fm] 4)) t := fun t k => castTop (ef_rmPft m p0 p1 p2 fm hfm) k
  obtain ⟨fs, hr, hrun, hended, hW, hsame⟩ := X0.leave (v := some (.int p0)) (fun h => by rw [Bd.returns] at h; cases h)
  refine ⟨_, _, pre0 _ ?_, hrun, hended, _, _, rfl, ?_, ⟨_, rfl⟩, hW, hsame.mono (by decide) (by decide)⟩
  · refine XS.iloadN X0.here hx rfl (hb hby d38_0) rfl ?_
    refine XS.ifNo X0.here hx rfl (hb hby d38_1) rfl ((if0 _ _).trans (flt u1).1) ?_
    refine XS.iloadN X0.here hx rfl (hb hby d38_4) rfl ?_
    refine XS.iloadN X0.here hx rfl (hb hby d38_5) rfl ?_
    refine XS.icmpNo X0.here hx rfl (hb hby d38_6) rfl (flt u2).2.2.1 ?_
    refine XS.iloadN X0.here hx rfl (hb hby d38_9) rfl ?_
    refine XS.iloadN X0.here hx rfl (hb hby d38_10) rfl ?_
    refine XS.icmpYes X0.here hx rfl (pc0 := 11) (pc' := 22) rfl (hb hby d38_11) rfl (flt u3).2.2.2 (by decide) (by decide) ?_
    refine XS.iloadN X0.here hx rfl (hb hby d38_22) rfl ?_
    show Steps p.tables e below (s₁.setTop (mkF m 23 #[.val (.int p0), .val (.int p1), .val (.int p2), .val fm] [(.int p0)])) _
    exact retI X0 hx Bd.returns (hb hby d38_23) hr
  · show Q_rmPft Z p0 p1 p2 fm h0 n0 _ s₁.heap _
    rw [e0]
    exact ⟨rfl, N0, rfl⟩
theorem d37_0 : decode jdk_42_method_158_code 0 = .ok (.iload_n 0, 1) := by decide +kernel
theorem d37_1 : decode jdk_42_method_158_code 1 = .ok (.iload_n 1, 1) := by decide +kernel
theorem d37_2 : decode jdk_42_method_158_code 2 = .ok (.iload_n 2, 1) := by decide +kernel
theorem d37_3 : decode jdk_42_method_158_code 3 = .ok (.getstatic 1053, 3) := by decide +kernel
theorem d37_6 : decode jdk_42_method_158_code 6 = .ok (.invokestatic 1062, 3) := by decide +kernel
theorem d37_9 : decode jdk_42_method_158_code 9 = .ok (.pop, 1) := by decide +kernel
theorem d37_10 : decode jdk_42_method_158_code 10 = .ok (.return_, 1) := by decide +kernel
theorem ef_rmScb (m : MethodId) (x0 : Int32) (x1 : Int32) (x2 : Int32) : entryFrame m #[(.int x0), (.int x1), (.int x2)] 3 = mkF m 0 #[.val (.int x0), .val (.int x1), .val (.int x2)] [] := by first | (simp [entryFrame, mkF, argsToLocals, Value.category]; done) | rfl
def Q_rmScb (Z : State) (p0 : Int32) (p1 : Int32) (p2 : Int32) (cs : Int32) (fm : Value) (h0 : Heap) (n0 : Nat) (v : Option Value) (h : Heap) (L : List Loc) : Prop := v = none ∧ Fr n0 L ∧ h = h0
set_option maxRecDepth 65536 in
set_option maxHeartbeats 40000000 in
theorem rmScb (l : Launch) (Z : State) (a0 : Array Value) (hw : ∀ d ∈ tables_1, d.before a0 Z = true) (ws : List Jvm.Cond) (p0 : Int32) (p1 : Int32) (p2 : Int32) (cs : Int32) (fm : Value) (h0 : Heap) (n0 : Nat) (Z0 : n0 ≤ h0.size) (SB : own_St Z cs fm) (Od : Old Z n0 h0) (u1 : ¬ p0 < 0) (u2 : ¬ p1 < p0) (u3 : ¬ p2 < p1) :
    MetFree l (⟨"java/lang/String", "checkBoundsBeginEnd", "(III)V"⟩ : MethodName) (head1 (Jvm.Cond.code (⟨"java/lang/String", "checkBoundsBeginEnd", "(III)V"⟩ : MethodName) jdk_42_method_158_code 3 none :: ws) ({ frames := 1, cells := 0, slots := 0, locals := 15 } : Room)) (fun a U => a = #[(.int p0), (.int p1), (.int p2)] ∧ Z.Warmed39 U.vm ∧ U.heap = h0) (fun _ _ _ _ _ => True) (fun _ U o U' => ∃ v L, o = .returned v ∧ Q_rmScb Z p0 p1 p2 cs fm h0 n0 v U'.heap L ∧ FrameEnd U o U' L ({ frames := 1, cells := 0, slots := 0, locals := 15 } : Room).cells ({ frames := 1, cells := 0, slots := 0, locals := 15 } : Room).slots) := by
  refine MetFree.of_bodySF (plainFor_of_name pn_1) hisR ?_
  intro p e s m args below meth c s₁ Bd hml0 hP hK
  obtain ⟨rfl, hZ, hh⟩ := hP
  have hx := Bd.exec
  have hby := Bd.bytes
  have hml : c.maxLocals = 3 := hml0
  have hown : s.vm.findClass "java/lang/String" = some m.cls := findClass_of_methodNamed Bd.named
  have hnm := (name_of_methodNamed Bd.named Bd.method).1
  have X0 : Stand p l e ({ frames := 1, cells := 0, slots := 0, locals := 15 } : Room) s m #[(.int p0), (.int p1), (.int p2)] below meth c s₁ [] 0 0 := Stand.of_body Bd
  have e0 : s₁.heap = h0 := by rw [← hh, Bd.state]; rfl
  have N0 := Fr.nil n0
  have pre0 : ∀ t, Steps p.tables e below (s₁.setTop (mkF m 0 #[.val (.int p0), .val (.int p1), .val (.int p2)] [])) t → Steps p.tables e below (s₁.setTop (entryFrame m #[(.int p0), (.int p1), (.int p2)] 3)) t := fun t k => castTop (ef_rmScb m p0 p1 p2) k
  have st1 : own_S p e below s₁ (mkF m 3 #[.val (.int p0), .val (.int p1), .val (.int p2)] [(.int p2), (.int p1), (.int p0)]) (mkF m 0 #[.val (.int p0), .val (.int p1), .val (.int p2)] []) := by
    intro target kt
    refine XS.iloadN X0.here hx rfl (hb hby d37_0) rfl ?_
    refine XS.iloadN X0.here hx rfl (hb hby d37_1) rfl ?_
    refine XS.iloadN X0.here hx rfl (hb hby d37_2) rfl ?_
    exact kt
  obtain ⟨T2, X2, e2, st2⟩ := getS2 X0 hx hZ hown (host := "") (Or.inl (own_w hw 91 rfl)) Via.refl e0 (SB.2.2.1.ext Od.2) (g := (mkF m 3 #[.val (.int p0), .val (.int p1), .val (.int p2)] [(.int p2), (.int p1), (.int p0)])) rfl (hb hby d37_3)
  obtain ⟨_, _, ⟨T3, L3, k3, n3⟩, -, X3, ⟨Lc3, hQ3, l3, y3, z3⟩, st3⟩ := Jvm.LawKit.callS X2 hx (y := (⟨"jdk/internal/util/Preconditions", "checkFromToIndex", "(IIILjava/util/function/BiFunction;)I"⟩ : MethodName)) hown (mvT hZ (own_w hw 171 rfl)) (mvT hZ (own_w hw 172 rfl)) (mvT hZ (own_w hw 92 rfl)) (mvT hZ (own_w hw 173 rfl)) (by decide) (backOf (W := 0) (rmPft l Z a0 hw [] p0 p1 p2 fm  h0 n0 Z0 SB.2.2.2.1 u1 u2 u3) hZ (own_w hw 173 rfl) (own_w hw 92 rfl) (by decide) (by decide)) (g := (mkF m 6 #[.val (.int p0), .val (.int p1), .val (.int p2)] [fm, (.int p2), (.int p1), (.int p0)])) rfl (by rw [hml]; rfl) (argsL := [(.int p0), (.int p1), (.int p2), fm]) (rest := []) (lenOf pd_27 rfl) rfl (by show 2 * 0 + _ ≤ _; exact Nat.le_of_eq rfl) (hb hby d37_6) (fun _ _ => ⟨rfl, e2, (by decide : 0 + 0 ≤ _), (by decide : 0 + 0 ≤ _)⟩)
  dsimp only [Pt.U, Pt.locs, Pt.cells, Pt.slots] at X3 l3 y3 z3 st3 hQ3
  subst l3 y3 z3
  obtain ⟨rfl, Nq3, e3⟩ := hQ3
  have N3 := Fr.app N0 Nq3
  obtain ⟨fs, hr, hrun, hended, hW, hsame⟩ := X3.leave (v := none) (fun _ => rfl)
  refine ⟨_, _, pre0 _ (st1 _ (st2 _ (st3 _ ?_))), hrun, hended, _, _, rfl, ?_, ⟨_, rfl⟩, hW, hsame.mono (by decide) (by decide)⟩
  · refine XS.pop X3.here hx rfl (hb hby d37_9) rfl rfl ?_
    show Steps p.tables e below (T3.setTop (mkF m 10 #[.val (.int p0), .val (.int p1), .val (.int p2)] [])) _
    exact X3.returnOut hx Bd.returns (hb hby d37_10) hr
  · show Q_rmScb Z p0 p1 p2 cs fm h0 n0 _ T3.heap _
    rw [e3]
    exact ⟨rfl, N3, rfl⟩
theorem d36_0 : decode jdk_52_method_93_code 0 = .ok (.iload_n 0, 1) := by decide +kernel
theorem d36_1 : decode jdk_52_method_93_code 1 = .ok (.iload_n 1, 1) := by decide +kernel
theorem d36_2 : decode jdk_52_method_93_code 2 = .ok (.aload_n 2, 1) := by decide +kernel
theorem d36_3 : decode jdk_52_method_93_code 3 = .ok (.invokestatic 48, 3) := by decide +kernel
theorem d36_6 : decode jdk_52_method_93_code 6 = .ok (.invokestatic 241, 3) := by decide +kernel
theorem d36_9 : decode jdk_52_method_93_code 9 = .ok (.return_, 1) := by decide +kernel
theorem ef_rmUcb1_U4 (m : MethodId) (x0 : Int32) (x1 : Int32) (x2 : Addr) : entryFrame m #[(.int x0), (.int x1), (.ref x2)] 3 = mkF m 0 #[.val (.int x0), .val (.int x1), .val (.ref x2)] [] := by first | (simp [entryFrame, mkF, argsToLocals, Value.category]; done) | rfl
def Q_rmUcb1_U4 (Z : State) (r2 : Addr) (cs : Int32) (fm : Value) (ky : ClassId) (c0 : Int32) (c1 : Int32) (c2 : Int32) (c3 : Int32) (h0 : Heap) (n0 : Nat) (v : Option Value) (h : Heap) (L : List Loc) : Prop := v = none ∧ Fr n0 L ∧ h = h0
set_option maxRecDepth 65536 in
set_option maxHeartbeats 40000000 in
theorem rmUcb1_U4 (l : Launch) (Z : State) (a0 : Array Value) (hw : ∀ d ∈ tables_1, d.before a0 Z = true) (ws : List Jvm.Cond) (r2 : Addr) (cs : Int32) (fm : Value) (ky : ClassId) (c0 : Int32) (c1 : Int32) (c2 : Int32) (c3 : Int32) (h0 : Heap) (n0 : Nat) (Z0 : n0 ≤ h0.size) (SB : own_St Z cs fm) (Od : Old Z n0 h0) (Vy : Arv Z h0 r2 ky .byte (8 : Int32) [(.int (own_lo c0)), (.int (own_hi c0)), (.int (own_lo c1)), (.int (own_hi c1)), (.int (own_lo c2)), (.int (own_hi c2)), (.int (own_lo c3)), (.int (own_hi c3))] (.int (0 : Int32))) :
    MetFree l (⟨"java/lang/StringUTF16", "checkBoundsBeginEnd", "(II[B)V"⟩ : MethodName) (head1 (Jvm.Cond.code (⟨"java/lang/StringUTF16", "checkBoundsBeginEnd", "(II[B)V"⟩ : MethodName) jdk_52_method_93_code 3 none :: ws) ({ frames := 2, cells := 0, slots := 0, locals := 29 } : Room)) (fun a U => a = #[(.int (1 : Int32)), (.int (4 : Int32)), (.ref r2)] ∧ Z.Warmed39 U.vm ∧ U.heap = h0) (fun _ _ _ _ _ => True) (fun _ U o U' => ∃ v L, o = .returned v ∧ Q_rmUcb1_U4 Z r2 cs fm ky c0 c1 c2 c3 h0 n0 v U'.heap L ∧ FrameEnd U o U' L ({ frames := 2, cells := 0, slots := 0, locals := 29 } : Room).cells ({ frames := 2, cells := 0, slots := 0, locals := 29 } : Room).slots) := by
  refine MetFree.of_bodySF (plainFor_of_name pn_0) hisR ?_
  intro p e s m args below meth c s₁ Bd hml0 hP hK
  obtain ⟨rfl, hZ, hh⟩ := hP
  have hx := Bd.exec
  have hby := Bd.bytes
  have hml : c.maxLocals = 3 := hml0
  have hown : s.vm.findClass "java/lang/StringUTF16" = some m.cls := findClass_of_methodNamed Bd.named
  have hnm := (name_of_methodNamed Bd.named Bd.method).1
  have X0 : Stand p l e ({ frames := 2, cells := 0, slots := 0, locals := 29 } : Room) s m #[(.int (1 : Int32)), (.int (4 : Int32)), (.ref r2)] below meth c s₁ [] 0 0 := Stand.of_body Bd
  have e0 : s₁.heap = h0 := by rw [← hh, Bd.state]; rfl
  have N0 := Fr.nil n0
  have pre0 : ∀ t, Steps p.tables e below (s₁.setTop (mkF m 0 #[.val (.int (1 : Int32)), .val (.int (4 : Int32)), .val (.ref r2)] [])) t → Steps p.tables e below (s₁.setTop (entryFrame m #[(.int (1 : Int32)), (.int (4 : Int32)), (.ref r2)] 3)) t := fun t k => castTop (ef_rmUcb1_U4 m (1 : Int32) (4 : Int32) r2) k
  have st1 : own_S p e below s₁ (mkF m 3 #[.val (.int (1 : Int32)), .val (.int (4 : Int32)), .val (.ref r2)] [(.ref r2), (.int (4 : Int32)), (.int (1 : Int32))]) (mkF m 0 #[.val (.int (1 : Int32)), .val (.int (4 : Int32)), .val (.ref r2)] []) := by
    intro target kt
    refine XS.iloadN X0.here hx rfl (hb hby d36_0) rfl ?_
    refine XS.iloadN X0.here hx rfl (hb hby d36_1) rfl ?_
    refine XS.aloadN X0.here hx rfl (hb hby d36_2) rfl rfl ?_
    exact kt
  obtain ⟨_, _, ⟨T2, L2, k2, n2⟩, -, X2, ⟨Lc2, hQ2, l2, y2, z2⟩, st2⟩ := Jvm.LawKit.callS X0 hx (y := (⟨"java/lang/StringUTF16", "length", "([B)I"⟩ : MethodName)) hown (mvT hZ (own_w hw 152 rfl)) (mvT hZ (own_w hw 153 rfl)) (mvT hZ (own_w hw 24 rfl)) (mvT hZ (own_w hw 154 rfl)) (by decide) (backOf (W := 2) (rmUlen_U4 l Z a0 hw [] r2 cs fm ky c0 c1 c2 c3 h0 n0 Z0 SB Od Vy) hZ (own_w hw 154 rfl) (own_w hw 24 rfl) (by decide) (by decide)) (g := (mkF m 3 #[.val (.int (1 : Int32)), .val (.int (4 : Int32)), .val (.ref r2)] [(.ref r2), (.int (4 : Int32)), (.int (1 : Int32))])) rfl (by rw [hml]; rfl) (argsL := [(.ref r2)]) (rest := [(.int (4 : Int32)), (.int (1 : Int32))]) (lenOf pd_24 rfl) rfl (by show 2 * 0 + _ ≤ _; exact Nat.le_of_eq rfl) (hb hby d36_3) (fun _ _ => ⟨rfl, e0, (by decide : 0 + 0 ≤ _), (by decide : 0 + 0 ≤ _)⟩)
  dsimp only [Pt.U, Pt.locs, Pt.cells, Pt.slots] at X2 l2 y2 z2 st2 hQ2
  subst l2 y2 z2
  obtain ⟨rfl, Nq2, e2⟩ := hQ2
  have N2 := Fr.app N0 Nq2
  obtain ⟨_, _, ⟨T3, L3, k3, n3⟩, -, X3, ⟨Lc3, hQ3, l3, y3, z3⟩, st3⟩ := Jvm.LawKit.callS X2 hx (y := (⟨"java/lang/String", "checkBoundsBeginEnd", "(III)V"⟩ : MethodName)) hown (mvT hZ (own_w hw 168 rfl)) (mvT hZ (own_w hw 169 rfl)) (mvT hZ (own_w hw 10 rfl)) (mvT hZ (own_w hw 170 rfl)) (by decide) (backOf (W := 0) (rmScb l Z a0 hw [] (1 : Int32) (4 : Int32) (4 : Int32) cs fm h0 n0 Z0 SB Od (by decide) (by decide) (by decide)) hZ (own_w hw 170 rfl) (own_w hw 10 rfl) (by decide) (by decide)) (g := (mkF m 6 #[.val (.int (1 : Int32)), .val (.int (4 : Int32)), .val (.ref r2)] [(.int (4 : Int32)), (.int (4 : Int32)), (.int (1 : Int32))])) rfl (by rw [hml]; rfl) (argsL := [(.int (1 : Int32)), (.int (4 : Int32)), (.int (4 : Int32))]) (rest := []) (lenOf pd_26 rfl) rfl (by show 2 * 0 + _ ≤ _; exact Nat.le_of_eq rfl) (hb hby d36_6) (fun _ _ => ⟨rfl, e2, (by decide : 0 + 0 ≤ _), (by decide : 0 + 0 ≤ _)⟩)
  dsimp only [Pt.U, Pt.locs, Pt.cells, Pt.slots] at X3 l3 y3 z3 st3 hQ3
  subst l3 y3 z3
  obtain ⟨rfl, Nq3, e3⟩ := hQ3
  have N3 := Fr.app N2 Nq3
  obtain ⟨fs, hr, hrun, hended, hW, hsame⟩ := X3.leave (v := none) (fun _ => rfl)
  refine ⟨_, _, pre0 _ (st1 _ (st2 _ (st3 _ ?_))), hrun, hended, _, _, rfl, ?_, ⟨_, rfl⟩, hW, hsame.mono (by decide) (by decide)⟩
  · show Steps p.tables e below (T3.setTop (mkF m 9 #[.val (.int (1 : Int32)), .val (.int (4 : Int32)), .val (.ref r2)] [])) _
    exact X3.returnOut hx Bd.returns (hb hby d36_9) hr
  · show Q_rmUcb1_U4 Z r2 cs fm ky c0 c1 c2 c3 h0 n0 _ T3.heap _
    rw [e3]
    exact ⟨rfl, N3, rfl⟩
theorem d35_0 : decode jdk_52_method_47_code 0 = .ok (.iload_n 2, 1) := by decide +kernel
theorem d35_1 : decode jdk_52_method_47_code 1 = .ok (.iload_n 3, 1) := by decide +kernel
theorem d35_2 : decode jdk_52_method_47_code 2 = .ok (.aload_n 0, 1) := by decide +kernel
theorem d35_3 : decode jdk_52_method_47_code 3 = .ok (.invokestatic 96, 3) := by decide +kernel
theorem d35_6 : decode jdk_52_method_47_code 6 = .ok (.aload_n 0, 1) := by decide +kernel
theorem d35_7 : decode jdk_52_method_47_code 7 = .ok (.iload_n 1, 1) := by decide +kernel
theorem d35_8 : decode jdk_52_method_47_code 8 = .ok (.iload_n 2, 1) := by decide +kernel
theorem d35_9 : decode jdk_52_method_47_code 9 = .ok (.iload_n 3, 1) := by decide +kernel
theorem d35_10 : decode jdk_52_method_47_code 10 = .ok (.invokestatic 244, 3) := by decide +kernel
theorem d35_13 : decode jdk_52_method_47_code 13 = .ok (.ireturn, 1) := by decide +kernel
theorem ef_rmUix1_U4 (m : MethodId) (x0 : Addr) (x1 : Int32) (x2 : Int32) (x3 : Int32) : entryFrame m #[(.ref x0), (.int x1), (.int x2), (.int x3)] 4 = mkF m 0 #[.val (.ref x0), .val (.int x1), .val (.int x2), .val (.int x3)] [] := by first | (simp [entryFrame, mkF, argsToLocals, Value.category]; done) | rfl
def Q_rmUix1_U4 (Z : State) (r0 : Addr) (cs : Int32) (fm : Value) (ky : ClassId) (c0 : Int32) (c1 : Int32) (c2 : Int32) (c3 : Int32) (h0 : Heap) (n0 : Nat) (v : Option Value) (h : Heap) (L : List Loc) : Prop := ∃ z : Int32, (z < 0 ↔ ¬ (c1 = 44 ∨ c2 = 44 ∨ c3 = 44 ∨ False)) ∧ v = some (.int z) ∧ Fr n0 L ∧ h = h0
set_option maxRecDepth 65536 in
set_option maxHeartbeats 40000000 in
theorem rmUix1_U4 (l : Launch) (Z : State) (a0 : Array Value) (hw : ∀ d ∈ tables_1, d.before a0 Z = true) (ws : List Jvm.Cond) (r0 : Addr) (cs : Int32) (fm : Value) (ky : ClassId) (c0 : Int32) (c1 : Int32) (c2 : Int32) (c3 : Int32) (h0 : Heap) (n0 : Nat) (Z0 : n0 ≤ h0.size) (SB : own_St Z cs fm) (Od : Old Z n0 h0) (Vy : Arv Z h0 r0 ky .byte (8 : Int32) [(.int (own_lo c0)), (.int (own_hi c0)), (.int (own_lo c1)), (.int (own_hi c1)), (.int (own_lo c2)), (.int (own_hi c2)), (.int (own_lo c3)), (.int (own_hi c3))] (.int (0 : Int32))) (hc1_ : 0 ≤ c1.toInt ∧ c1.toInt < 65536) (hc2_ : 0 ≤ c2.toInt ∧ c2.toInt < 65536) (hc3_ : 0 ≤ c3.toInt ∧ c3.toInt < 65536) :
    MetFree l (⟨"java/lang/StringUTF16", "indexOfChar", "([BIII)I"⟩ : MethodName) (head1 (Jvm.Cond.code (⟨"java/lang/StringUTF16", "indexOfChar", "([BIII)I"⟩ : MethodName) jdk_52_method_47_code 4 (some .int) :: ws) ({ frames := 3, cells := 0, slots := 0, locals := 43 } : Room)) (fun a U => a = #[(.ref r0), (.int (44 : Int32)), (.int (1 : Int32)), (.int (4 : Int32))] ∧ Z.Warmed39 U.vm ∧ U.heap = h0) (fun _ _ _ _ _ => True) (fun _ U o U' => ∃ v L, o = .returned v ∧ Q_rmUix1_U4 Z r0 cs fm ky c0 c1 c2 c3 h0 n0 v U'.heap L ∧ FrameEnd U o U' L ({ frames := 3, cells := 0, slots := 0, locals := 43 } : Room).cells ({ frames := 3, cells := 0, slots := 0, locals := 43 } : Room).slots) := by
  refine MetFree.of_bodySF (plainFor_of_name pn_0) hisR ?_
  intro p e s m args below meth c s₁ Bd hml0 hP hK
  obtain ⟨rfl, hZ, hh⟩ := hP
  have hx := Bd.exec
  have hby := Bd.bytes
  have hml : c.maxLocals = 4 := hml0
  have hown : s.vm.findClass "java/lang/StringUTF16" = some m.cls := findClass_of_methodNamed Bd.named
  have hnm := (name_of_methodNamed Bd.named Bd.method).1
  have X0 : Stand p l e ({ frames := 3, cells := 0, slots := 0, locals := 43 } : Room) s m #[(.ref r0), (.int (44 : Int32)), (.int (1 : Int32)), (.int (4 : Int32))] below meth c s₁ [] 0 0 := Stand.of_body Bd
  have e0 : s₁.heap = h0 := by rw [← hh, Bd.state]; rfl
  have N0 := Fr.nil n0
  have pre0 : ∀ t, Steps p.tables e below (s₁.setTop (mkF m 0 #[.val (.ref r0), .val (.int (44 : Int32)), .val (.int (1 : Int32)), .val (.int (4 : Int32))] [])) t → Steps p.tables e below (s₁.setTop (entryFrame m #[(.ref r0), (.int (44 : Int32)), (.int (1 : Int32)), (.int (4 : Int32))] 4)) t := fun t k => castTop (ef_rmUix1_U4 m r0 (44 : Int32) (1 : Int32) (4 : Int32)) k
  have st1 : own_S p e below s₁ (mkF m 3 #[.val (.ref r0), .val (.int (44 : Int32)), .val (.int (1 : Int32)), .val (.int (4 : Int32))] [(.ref r0), (.int (4 : Int32)), (.int (1 : Int32))]) (mkF m 0 #[.val (.ref r0), .val (.int (44 : Int32)), .val (.int (1 : Int32)), .val (.int (4 : Int32))] []) := by
    intro target kt
    refine XS.iloadN X0.here hx rfl (hb hby d35_0) rfl ?_
    refine XS.iloadN X0.here hx rfl (hb hby d35_1) rfl ?_
    refine XS.aloadN X0.here hx rfl (hb hby d35_2) rfl rfl ?_
    exact kt
  obtain ⟨_, _, ⟨T2, L2, k2, n2⟩, -, X2, ⟨Lc2, hQ2, l2, y2, z2⟩, st2⟩ := Jvm.LawKit.callS X0 hx (y := (⟨"java/lang/StringUTF16", "checkBoundsBeginEnd", "(II[B)V"⟩ : MethodName)) hown (mvT hZ (own_w hw 165 rfl)) (mvT hZ (own_w hw 166 rfl)) (mvT hZ (own_w hw 24 rfl)) (mvT hZ (own_w hw 167 rfl)) (by decide) (backOf (W := 0) (rmUcb1_U4 l Z a0 hw [] r0 cs fm ky c0 c1 c2 c3 h0 n0 Z0 SB Od Vy) hZ (own_w hw 167 rfl) (own_w hw 24 rfl) (by decide) (by decide)) (g := (mkF m 3 #[.val (.ref r0), .val (.int (44 : Int32)), .val (.int (1 : Int32)), .val (.int (4 : Int32))] [(.ref r0), (.int (4 : Int32)), (.int (1 : Int32))])) rfl (by rw [hml]; rfl) (argsL := [(.int (1 : Int32)), (.int (4 : Int32)), (.ref r0)]) (rest := []) (lenOf pd_25 rfl) rfl (by show 2 * 0 + _ ≤ _; exact Nat.le_of_eq rfl) (hb hby d35_3) (fun _ _ => ⟨rfl, e0, (by decide : 0 + 0 ≤ _), (by decide : 0 + 0 ≤ _)⟩)
  dsimp only [Pt.U, Pt.locs, Pt.cells, Pt.slots] at X2 l2 y2 z2 st2 hQ2
  subst l2 y2 z2
  obtain ⟨rfl, Nq2, e2⟩ := hQ2
  have N2 := Fr.app N0 Nq2
  have st3 : own_S p e below T2 (mkF m 10 #[.val (.ref r0), .val (.int (44 : Int32)), .val (.int (1 : Int32)), .val (.int (4 : Int32))] [(.int (4 : Int32)), (.int (1 : Int32)), (.int (44 : Int32)), (.ref r0)]) (mkF m 6 #[.val (.ref r0), .val (.int (44 : Int32)), .val (.int (1 : Int32)), .val (.int (4 : Int32))] []) := by
    intro target kt
    refine XS.aloadN X2.here hx rfl (hb hby d35_6) rfl rfl ?_
    refine XS.iloadN X2.here hx rfl (hb hby d35_7) rfl ?_
    refine XS.iloadN X2.here hx rfl (hb hby d35_8) rfl ?_
    refine XS.iloadN X2.here hx rfl (hb hby d35_9) rfl ?_
    exact kt
  obtain ⟨_, _, ⟨T4, L4, k4, n4⟩, -, X4, ⟨Lc4, hQ4, l4, y4, z4⟩, st4⟩ := Jvm.LawKit.callS X2 hx (y := (⟨"java/lang/StringUTF16", "indexOfCharUnsafe", "([BIII)I"⟩ : MethodName)) hown (mvT hZ (own_w hw 174 rfl)) (mvT hZ (own_w hw 175 rfl)) (mvT hZ (own_w hw 24 rfl)) (mvT hZ (own_w hw 176 rfl)) (by decide) (backOf (W := 0) (rmIx1_U4 l Z a0 hw [] r0 cs fm ky c0 c1 c2 c3 h0 n0 Z0 SB Od Vy hc1_ hc2_ hc3_) hZ (own_w hw 176 rfl) (own_w hw 24 rfl) (by decide) (by decide)) (g := (mkF m 10 #[.val (.ref r0), .val (.int (44 : Int32)), .val (.int (1 : Int32)), .val (.int (4 : Int32))] [(.int (4 : Int32)), (.int (1 : Int32)), (.int (44 : Int32)), (.ref r0)])) rfl (by rw [hml]; rfl) (argsL := [(.ref r0), (.int (44 : Int32)), (.int (1 : Int32)), (.int (4 : Int32))]) (rest := []) (lenOf pd_18 rfl) rfl (by show 2 * 0 + _ ≤ _; exact Nat.le_of_eq rfl) (hb hby d35_10) (fun _ _ => ⟨rfl, e2, (by decide : 0 + 0 ≤ _), (by decide : 0 + 0 ≤ _)⟩)
  dsimp only [Pt.U, Pt.locs, Pt.cells, Pt.slots] at X4 l4 y4 z4 st4 hQ4
  subst l4 y4 z4
  obtain ⟨z4, hz4, rfl, Nq4, e4⟩ := hQ4
  have N4 := Fr.app N2 Nq4
  obtain ⟨fs, hr, hrun, hended, hW, hsame⟩ := X4.leave (v := some (.int z4)) (fun h => by rw [Bd.returns] at h; cases h)
  refine ⟨_, _, pre0 _ (st1 _ (st2 _ (st3 _ (st4 _ ?_)))), hrun, hended, _, _, rfl, ?_, ⟨_, rfl⟩, hW, hsame.mono (by decide) (by decide)⟩
  · show Steps p.tables e below (T4.setTop (mkF m 13 #[.val (.ref r0), .val (.int (44 : Int32)), .val (.int (1 : Int32)), .val (.int (4 : Int32))] [(.int z4)])) _
    exact retI X4 hx Bd.returns (hb hby d35_13) hr
  · show Q_rmUix1_U4 Z r0 cs fm ky c0 c1 c2 c3 h0 n0 _ T4.heap _
    rw [e4]
    exact ⟨_, hz4, rfl, N4, rfl⟩
theorem d34_0 : decode jdk_52_method_40_code 0 = .ok (.iload_n 2, 1) := by decide +kernel
theorem d34_1 : decode jdk_52_method_40_code 1 = .ok (.iconst 0, 1) := by decide +kernel
theorem d34_2 : decode jdk_52_method_40_code 2 = .ok (.invokestatic 224, 3) := by decide +kernel
theorem d34_5 : decode jdk_52_method_40_code 5 = .ok (.istore_n 2, 1) := by decide +kernel
theorem d34_6 : decode jdk_52_method_40_code 6 = .ok (.iload_n 3, 1) := by decide +kernel
theorem d34_7 : decode jdk_52_method_40_code 7 = .ok (.aload_n 0, 1) := by decide +kernel
theorem d34_8 : decode jdk_52_method_40_code 8 = .ok (.arraylength, 1) := by decide +kernel
theorem d34_9 : decode jdk_52_method_40_code 9 = .ok (.iconst 1, 1) := by decide +kernel
theorem d34_10 : decode jdk_52_method_40_code 10 = .ok (.ishr, 1) := by decide +kernel
theorem d34_11 : decode jdk_52_method_40_code 11 = .ok (.invokestatic 183, 3) := by decide +kernel
theorem d34_14 : decode jdk_52_method_40_code 14 = .ok (.istore_n 3, 1) := by decide +kernel
theorem d34_15 : decode jdk_52_method_40_code 15 = .ok (.iload_n 2, 1) := by decide +kernel
theorem d34_16 : decode jdk_52_method_40_code 16 = .ok (.iload_n 3, 1) := by decide +kernel
theorem d34_17 : decode jdk_52_method_40_code 17 = .ok (.if_icmp .lt 5, 3) := by decide +kernel
theorem d34_20 : decode jdk_52_method_40_code 20 = .ok (.iconst (-1), 1) := by decide +kernel
theorem d34_21 : decode jdk_52_method_40_code 21 = .ok (.ireturn, 1) := by decide +kernel
theorem d34_22 : decode jdk_52_method_40_code 22 = .ok (.iload_n 1, 1) := by decide +kernel
theorem d34_23 : decode jdk_52_method_40_code 23 = .ok (.ldc 227, 2) := by decide +kernel
theorem d34_25 : decode jdk_52_method_40_code 25 = .ok (.if_icmp .ge 11, 3) := by decide +kernel
theorem d34_28 : decode jdk_52_method_40_code 28 = .ok (.aload_n 0, 1) := by decide +kernel
theorem d34_29 : decode jdk_52_method_40_code 29 = .ok (.iload_n 1, 1) := by decide +kernel
theorem d34_30 : decode jdk_52_method_40_code 30 = .ok (.iload_n 2, 1) := by decide +kernel
theorem d34_31 : decode jdk_52_method_40_code 31 = .ok (.iload_n 3, 1) := by decide +kernel
theorem d34_32 : decode jdk_52_method_40_code 32 = .ok (.invokestatic 228, 3) := by decide +kernel
theorem d34_35 : decode jdk_52_method_40_code 35 = .ok (.ireturn, 1) := by decide +kernel
theorem ef_rmAio1_U4 (m : MethodId) (x0 : Addr) (x1 : Int32) (x2 : Int32) (x3 : Int32) : entryFrame m #[(.ref x0), (.int x1), (.int x2), (.int x3)] 4 = mkF m 0 #[.val (.ref x0), .val (.int x1), .val (.int x2), .val (.int x3)] [] := by first | (simp [entryFrame, mkF, argsToLocals, Value.category]; done) | rfl
def Q_rmAio1_U4 (Z : State) (r0 : Addr) (cs : Int32) (fm : Value) (ky : ClassId) (c0 : Int32) (c1 : Int32) (c2 : Int32) (c3 : Int32) (h0 : Heap) (n0 : Nat) (v : Option Value) (h : Heap) (L : List Loc) : Prop := ∃ z : Int32, (z < 0 ↔ ¬ (c1 = 44 ∨ c2 = 44 ∨ c3 = 44 ∨ False)) ∧ v = some (.int z) ∧ Fr n0 L ∧ h = h0
set_option maxRecDepth 65536 in
set_option maxHeartbeats 40000000 in
theorem rmAio1_U4 (l : Launch) (Z : State) (a0 : Array Value) (hw : ∀ d ∈ tables_1, d.before a0 Z = true) (ws : List Jvm.Cond) (r0 : Addr) (cs : Int32) (fm : Value) (ky : ClassId) (c0 : Int32) (c1 : Int32) (c2 : Int32) (c3 : Int32) (h0 : Heap) (n0 : Nat) (Z0 : n0 ≤ h0.size) (SB : own_St Z cs fm) (Od : Old Z n0 h0) (Vy : Arv Z h0 r0 ky .byte (8 : Int32) [(.int (own_lo c0)), (.int (own_hi c0)), (.int (own_lo c1)), (.int (own_hi c1)), (.int (own_lo c2)), (.int (own_hi c2)), (.int (own_lo c3)), (.int (own_hi c3))] (.int (0 : Int32))) (hc1_ : 0 ≤ c1.toInt ∧ c1.toInt < 65536) (hc2_ : 0 ≤ c2.toInt ∧ c2.toInt < 65536) (hc3_ : 0 ≤ c3.toInt ∧ c3.toInt < 65536) :
    MetFree l (⟨"java/lang/StringUTF16", "indexOf", "([BIII)I"⟩ : MethodName) (head1 (Jvm.Cond.code (⟨"java/lang/StringUTF16", "indexOf", "([BIII)I"⟩ : MethodName) jdk_52_method_40_code 4 (some .int) :: ws) ({ frames := 4, cells := 0, slots := 0, locals := 58 } : Room)) (fun a U => a = #[(.ref r0), (.int (44 : Int32)), (.int (1 : Int32)), (.int (4 : Int32))] ∧ Z.Warmed39 U.vm ∧ U.heap = h0) (fun _ _ _ _ _ => True) (fun _ U o U' => ∃ v L, o = .returned v ∧ Q_rmAio1_U4 Z r0 cs fm ky c0 c1 c2 c3 h0 n0 v U'.heap L ∧ FrameEnd U o U' L ({ frames := 4, cells := 0, slots := 0, locals := 58 } : Room).cells ({ frames := 4, cells := 0, slots := 0, locals := 58 } : Room).slots) := by
  refine MetFree.of_bodySF (plainFor_of_name pn_0) hisR ?_
  intro p e s m args below meth c s₁ Bd hml0 hP hK
  obtain ⟨rfl, hZ, hh⟩ := hP
  have hx := Bd.exec
  have hby := Bd.bytes
  have hml : c.maxLocals = 4 := hml0
  have hown : s.vm.findClass "java/lang/StringUTF16" = some m.cls := findClass_of_methodNamed Bd.named
  have hnm := (name_of_methodNamed Bd.named Bd.method).1
  have X0 : Stand p l e ({ frames := 4, cells := 0, slots := 0, locals := 58 } : Room) s m #[(.ref r0), (.int (44 : Int32)), (.int (1 : Int32)), (.int (4 : Int32))] below meth c s₁ [] 0 0 := Stand.of_body Bd
  have e0 : s₁.heap = h0 := by rw [← hh, Bd.state]; rfl
  have N0 := Fr.nil n0
  have pre0 : ∀ t, Steps p.tables e below (s₁.setTop (mkF m 0 #[.val (.ref r0), .val (.int (44 : Int32)), .val (.int (1 : Int32)), .val (.int (4 : Int32))] [])) t → Steps p.tables e below (s₁.setTop (entryFrame m #[(.ref r0), (.int (44 : Int32)), (.int (1 : Int32)), (.int (4 : Int32))] 4)) t := fun t k => castTop (ef_rmAio1_U4 m r0 (44 : Int32) (1 : Int32) (4 : Int32)) k
  have st1 : own_S p e below s₁ (mkF m 2 #[.val (.ref r0), .val (.int (44 : Int32)), .val (.int (1 : Int32)), .val (.int (4 : Int32))] [(.int (0 : Int32)), (.int (1 : Int32))]) (mkF m 0 #[.val (.ref r0), .val (.int (44 : Int32)), .val (.int (1 : Int32)), .val (.int (4 : Int32))] []) := by
    intro target kt
    refine XS.iloadN X0.here hx rfl (hb hby d34_0) rfl ?_
    refine XS.iconst X0.here hx rfl (hb hby d34_1) ?_
    exact kt
  obtain ⟨_, _, ⟨T2, L2, k2, n2⟩, -, X2, ⟨Lc2, hQ2, l2, y2, z2⟩, st2⟩ := Jvm.LawKit.callS X0 hx (y := (⟨"java/lang/Math", "max", "(II)I"⟩ : MethodName)) hown (mvT hZ (own_w hw 159 rfl)) (mvT hZ (own_w hw 118 rfl)) (mvT hZ (own_w hw 119 rfl)) (mvT hZ (own_w hw 120 rfl)) (by decide) (backOf (W := 0) (rm23 l Z a0 hw [] (1 : Int32) (0 : Int32)  h0 n0 Z0 ) hZ (own_w hw 120 rfl) (own_w hw 119 rfl) (by decide) (by decide)) (g := (mkF m 2 #[.val (.ref r0), .val (.int (44 : Int32)), .val (.int (1 : Int32)), .val (.int (4 : Int32))] [(.int (0 : Int32)), (.int (1 : Int32))])) rfl (by rw [hml]; rfl) (argsL := [(.int (1 : Int32)), (.int (0 : Int32))]) (rest := []) (lenOf pd_17 rfl) rfl (by show 2 * 0 + _ ≤ _; exact Nat.le_of_eq rfl) (hb hby d34_2) (fun _ _ => ⟨rfl, e0, (by decide : 0 + 0 ≤ _), (by decide : 0 + 0 ≤ _)⟩)
  dsimp only [Pt.U, Pt.locs, Pt.cells, Pt.slots] at X2 l2 y2 z2 st2 hQ2
  subst l2 y2 z2
  obtain ⟨rfl, Nq2, e2⟩ := hQ2
  have N2 := Fr.app N0 Nq2
  rw [if_neg (by decide)] at st2
  have st3 : own_S p e below T2 (mkF m 8 #[.val (.ref r0), .val (.int (44 : Int32)), .val (.int (1 : Int32)), .val (.int (4 : Int32))] [(.ref r0), (.int (4 : Int32))]) (mkF m 5 #[.val (.ref r0), .val (.int (44 : Int32)), .val (.int (1 : Int32)), .val (.int (4 : Int32))] [(.int (1 : Int32))]) := by
    intro target kt
    refine XS.istoreN X2.here hx rfl (hb hby d34_5) rfl (l' := #[.val (.ref r0), .val (.int (44 : Int32)), .val (.int (1 : Int32)), .val (.int (4 : Int32))]) rfl ?_
    refine XS.iloadN X2.here hx rfl (hb hby d34_6) rfl ?_
    refine XS.aloadN X2.here hx rfl (hb hby d34_7) rfl rfl ?_
    exact kt
  obtain ⟨cl4, Ar4, qc4, Sz4, Mn4, Hs4, Gs4⟩ := id Vy
  have st4 : own_S p e below T2 (mkF m 9 #[.val (.ref r0), .val (.int (44 : Int32)), .val (.int (1 : Int32)), .val (.int (4 : Int32))] [(.int (8 : Int32)), (.int (4 : Int32))]) (mkF m 8 #[.val (.ref r0), .val (.int (44 : Int32)), .val (.int (1 : Int32)), .val (.int (4 : Int32))] [(.ref r0), (.int (4 : Int32))]) := fun target kt => X2.arraylength hx (cell := cl4) (by rw [e2]; exact Ar4.1) (State.isArrayOf_alike hZ.alike Ar4.2.1) (g := (mkF m 8 #[.val (.ref r0), .val (.int (44 : Int32)), .val (.int (1 : Int32)), .val (.int (4 : Int32))] [(.ref r0), (.int (4 : Int32))])) rfl rfl (hb hby d34_8) _ (by rw [len_of Sz4 Mn4]; exact kt)
  have st5 : own_S p e below T2 (mkF m 11 #[.val (.ref r0), .val (.int (44 : Int32)), .val (.int (1 : Int32)), .val (.int (4 : Int32))] [(.int (4 : Int32)), (.int (4 : Int32))]) (mkF m 9 #[.val (.ref r0), .val (.int (44 : Int32)), .val (.int (1 : Int32)), .val (.int (4 : Int32))] [(.int (8 : Int32)), (.int (4 : Int32))]) := by
    intro target kt
    refine XS.iconst X2.here hx rfl (hb hby d34_9) ?_
    refine XS.ishr X2.here hx rfl (hb hby d34_10) rfl ?_
    exact kt
  obtain ⟨_, _, ⟨T6, L6, k6, n6⟩, -, X6, ⟨Lc6, hQ6, l6, y6, z6⟩, st6⟩ := Jvm.LawKit.callS X2 hx (y := (⟨"java/lang/Math", "min", "(II)I"⟩ : MethodName)) hown (mvT hZ (own_w hw 160 rfl)) (mvT hZ (own_w hw 122 rfl)) (mvT hZ (own_w hw 119 rfl)) (mvT hZ (own_w hw 123 rfl)) (by decide) (backOf (W := 0) (rm24 l Z a0 hw [] (4 : Int32) (4 : Int32)  h0 n0 Z0 ) hZ (own_w hw 123 rfl) (own_w hw 119 rfl) (by decide) (by decide)) (g := (mkF m 11 #[.val (.ref r0), .val (.int (44 : Int32)), .val (.int (1 : Int32)), .val (.int (4 : Int32))] [(.int (4 : Int32)), (.int (4 : Int32))])) rfl (by rw [hml]; rfl) (argsL := [(.int (4 : Int32)), (.int (4 : Int32))]) (rest := []) (lenOf pd_17 rfl) rfl (by show 2 * 0 + _ ≤ _; exact Nat.le_of_eq rfl) (hb hby d34_11) (fun _ _ => ⟨rfl, e2, (by decide : 0 + 0 ≤ _), (by decide : 0 + 0 ≤ _)⟩)
  dsimp only [Pt.U, Pt.locs, Pt.cells, Pt.slots] at X6 l6 y6 z6 st6 hQ6
  subst l6 y6 z6
  obtain ⟨rfl, Nq6, e6⟩ := hQ6
  have N6 := Fr.app N2 Nq6
  rw [if_neg (by decide)] at st6
  have st7 : own_S p e below T6 (mkF m 32 #[.val (.ref r0), .val (.int (44 : Int32)), .val (.int (1 : Int32)), .val (.int (4 : Int32))] [(.int (4 : Int32)), (.int (1 : Int32)), (.int (44 : Int32)), (.ref r0)]) (mkF m 14 #[.val (.ref r0), .val (.int (44 : Int32)), .val (.int (1 : Int32)), .val (.int (4 : Int32))] [(.int (4 : Int32))]) := by
    intro target kt
    refine XS.istoreN X6.here hx rfl (hb hby d34_14) rfl (l' := #[.val (.ref r0), .val (.int (44 : Int32)), .val (.int (1 : Int32)), .val (.int (4 : Int32))]) rfl ?_
    refine XS.iloadN X6.here hx rfl (hb hby d34_15) rfl ?_
    refine XS.iloadN X6.here hx rfl (hb hby d34_16) rfl ?_
    refine XS.icmpYes X6.here hx rfl (pc0 := 17) (pc' := 22) rfl (hb hby d34_17) rfl (tlt (by decide : ((1 : Int32) < (4 : Int32)))).1 (by decide) (by decide) ?_
    refine XS.iloadN X6.here hx rfl (hb hby d34_22) rfl ?_
    refine X6.ldcInt hx hown (mvT hZ (own_w hw 161 rfl)) (g := (mkF m 23 #[.val (.ref r0), .val (.int (44 : Int32)), .val (.int (1 : Int32)), .val (.int (4 : Int32))] [(.int (44 : Int32))])) rfl (hb hby d34_23) _ ?_
    refine XS.icmpNo X6.here hx rfl (hb hby d34_25) rfl (tlt (by decide : ((44 : Int32) < (65536 : Int32)))).2.1 ?_
    refine XS.aloadN X6.here hx rfl (hb hby d34_28) rfl rfl ?_
    refine XS.iloadN X6.here hx rfl (hb hby d34_29) rfl ?_
    refine XS.iloadN X6.here hx rfl (hb hby d34_30) rfl ?_
    refine XS.iloadN X6.here hx rfl (hb hby d34_31) rfl ?_
    exact kt
  obtain ⟨_, _, ⟨T8, L8, k8, n8⟩, -, X8, ⟨Lc8, hQ8, l8, y8, z8⟩, st8⟩ := Jvm.LawKit.callS X6 hx (y := (⟨"java/lang/StringUTF16", "indexOfChar", "([BIII)I"⟩ : MethodName)) hown (mvT hZ (own_w hw 162 rfl)) (mvT hZ (own_w hw 163 rfl)) (mvT hZ (own_w hw 24 rfl)) (mvT hZ (own_w hw 164 rfl)) (by decide) (backOf (W := 0) (rmUix1_U4 l Z a0 hw [] r0 cs fm ky c0 c1 c2 c3 h0 n0 Z0 SB Od Vy hc1_ hc2_ hc3_) hZ (own_w hw 164 rfl) (own_w hw 24 rfl) (by decide) (by decide)) (g := (mkF m 32 #[.val (.ref r0), .val (.int (44 : Int32)), .val (.int (1 : Int32)), .val (.int (4 : Int32))] [(.int (4 : Int32)), (.int (1 : Int32)), (.int (44 : Int32)), (.ref r0)])) rfl (by rw [hml]; rfl) (argsL := [(.ref r0), (.int (44 : Int32)), (.int (1 : Int32)), (.int (4 : Int32))]) (rest := []) (lenOf pd_18 rfl) rfl (by show 2 * 0 + _ ≤ _; exact Nat.le_of_eq rfl) (hb hby d34_32) (fun _ _ => ⟨rfl, e6, (by decide : 0 + 0 ≤ _), (by decide : 0 + 0 ≤ _)⟩)
  dsimp only [Pt.U, Pt.locs, Pt.cells, Pt.slots] at X8 l8 y8 z8 st8 hQ8
  subst l8 y8 z8
  obtain ⟨z8, hz8, rfl, Nq8, e8⟩ := hQ8
  have N8 := Fr.app N6 Nq8
  obtain ⟨fs, hr, hrun, hended, hW, hsame⟩ := X8.leave (v := some (.int z8)) (fun h => by rw [Bd.returns] at h; cases h)
  refine ⟨_, _, pre0 _ (st1 _ (st2 _ (st3 _ (st4 _ (st5 _ (st6 _ (st7 _ (st8 _ ?_)))))))), hrun, hended, _, _, rfl, ?_, ⟨_, rfl⟩, hW, hsame.mono (by decide) (by decide)⟩
  · show Steps p.tables e below (T8.setTop (mkF m 35 #[.val (.ref r0), .val (.int (44 : Int32)), .val (.int (1 : Int32)), .val (.int (4 : Int32))] [(.int z8)])) _
    exact retI X8 hx Bd.returns (hb hby d34_35) hr
  · show Q_rmAio1_U4 Z r0 cs fm ky c0 c1 c2 c3 h0 n0 _ T8.heap _
    rw [e8]
    exact ⟨_, hz8, rfl, N8, rfl⟩
theorem ef_rmIx2_U4 (m : MethodId) (x0 : Addr) (x1 : Int32) (x2 : Int32) (x3 : Int32) : entryFrame m #[(.ref x0), (.int x1), (.int x2), (.int x3)] 5 = mkF m 0 #[.val (.ref x0), .val (.int x1), .val (.int x2), .val (.int x3), .unset] [] := by first | (simp [entryFrame, mkF, argsToLocals, Value.category]; done) | rfl
def Q_rmIx2_U4 (Z : State) (r0 : Addr) (cs : Int32) (fm : Value) (ky : ClassId) (c0 : Int32) (c1 : Int32) (c2 : Int32) (c3 : Int32) (h0 : Heap) (n0 : Nat) (v : Option Value) (h : Heap) (L : List Loc) : Prop := ∃ z : Int32, (z < 0 ↔ ¬ (c2 = 44 ∨ c3 = 44 ∨ False)) ∧ v = some (.int z) ∧ Fr n0 L ∧ h = h0
set_option maxRecDepth 65536 in
set_option maxHeartbeats 40000000 in
theorem rmIx2_U4 (l : Launch) (Z : State) (a0 : Array Value) (hw : ∀ d ∈ tables_1, d.before a0 Z = true) (ws : List Jvm.Cond) (r0 : Addr) (cs : Int32) (fm : Value) (ky : ClassId) (c0 : Int32) (c1 : Int32) (c2 : Int32) (c3 : Int32) (h0 : Heap) (n0 : Nat) (Z0 : n0 ≤ h0.size) (SB : own_St Z cs fm) (Od : Old Z n0 h0) (Vy : Arv Z h0 r0 ky .byte (8 : Int32) [(.int (own_lo c0)), (.int (own_hi c0)), (.int (own_lo c1)), (.int (own_hi c1)), (.int (own_lo c2)), (.int (own_hi c2)), (.int (own_lo c3)), (.int (own_hi c3))] (.int (0 : Int32))) (hc2_ : 0 ≤ c2.toInt ∧ c2.toInt < 65536) (hc3_ : 0 ≤ c3.toInt ∧ c3.toInt < 65536) :
    MetFree l (⟨"java/lang/StringUTF16", "indexOfCharUnsafe", "([BIII)I"⟩ : MethodName) (head1 (Jvm.Cond.code (⟨"java/lang/StringUTF16", "indexOfCharUnsafe", "([BIII)I"⟩ : MethodName) jdk_52_method_48_code 5 (some .int) :: ws) ({ frames := 1, cells := 0, slots := 0, locals := 13 } : Room)) (fun a U => a = #[(.ref r0), (.int (44 : Int32)), (.int (2 : Int32)), (.int (4 : Int32))] ∧ Z.Warmed39 U.vm ∧ U.heap = h0) (fun _ _ _ _ _ => True) (fun _ U o U' => ∃ v L, o = .returned v ∧ Q_rmIx2_U4 Z r0 cs fm ky c0 c1 c2 c3 h0 n0 v U'.heap L ∧ FrameEnd U o U' L ({ frames := 1, cells := 0, slots := 0, locals := 13 } : Room).cells ({ frames := 1, cells := 0, slots := 0, locals := 13 } : Room).slots) := by
  refine MetFree.of_bodySF (plainFor_of_name pn_0) hisR ?_
  intro p e s m args below meth c s₁ Bd hml0 hP hK
  obtain ⟨rfl, hZ, hh⟩ := hP
  have hx := Bd.exec
  have hby := Bd.bytes
  have hml : c.maxLocals = 5 := hml0
  have hown : s.vm.findClass "java/lang/StringUTF16" = some m.cls := findClass_of_methodNamed Bd.named
  have hnm := (name_of_methodNamed Bd.named Bd.method).1
  have X0 : Stand p l e ({ frames := 1, cells := 0, slots := 0, locals := 13 } : Room) s m #[(.ref r0), (.int (44 : Int32)), (.int (2 : Int32)), (.int (4 : Int32))] below meth c s₁ [] 0 0 := Stand.of_body Bd
  have e0 : s₁.heap = h0 := by rw [← hh, Bd.state]; rfl
  have N0 := Fr.nil n0
  have pre0 : ∀ t, Steps p.tables e below (s₁.setTop (mkF m 0 #[.val (.ref r0), .val (.int (44 : Int32)), .val (.int (2 : Int32)), .val (.int (4 : Int32)), .unset] [])) t → Steps p.tables e below (s₁.setTop (entryFrame m #[(.ref r0), (.int (44 : Int32)), (.int (2 : Int32)), (.int (4 : Int32))] 5)) t := fun t k => castTop (ef_rmIx2_U4 m r0 (44 : Int32) (2 : Int32) (4 : Int32)) k
  have st1 : own_S p e below s₁ (mkF m 12 #[.val (.ref r0), .val (.int (44 : Int32)), .val (.int (2 : Int32)), .val (.int (4 : Int32)), .val (.int (2 : Int32))] [(.int (2 : Int32)), (.ref r0)]) (mkF m 0 #[.val (.ref r0), .val (.int (44 : Int32)), .val (.int (2 : Int32)), .val (.int (4 : Int32)), .unset] []) := by
    intro target kt
    refine XS.iloadN X0.here hx rfl (hb hby d39_0) rfl ?_
    refine XS.istore X0.here hx rfl (hb hby d39_1) rfl (l' := #[.val (.ref r0), .val (.int (44 : Int32)), .val (.int (2 : Int32)), .val (.int (4 : Int32)), .val (.int (2 : Int32))]) rfl ?_
    refine XS.iload X0.here hx rfl (hb hby d39_3) rfl ?_
    refine XS.iloadN X0.here hx rfl (hb hby d39_5) rfl ?_
    refine XS.icmpNo X0.here hx rfl (hb hby d39_6) rfl (tlt (by decide : ((2 : Int32) < (4 : Int32)))).2.1 ?_
    refine XS.aloadN X0.here hx rfl (hb hby d39_9) rfl rfl ?_
    refine XS.iload X0.here hx rfl (hb hby d39_10) rfl ?_
    exact kt
  obtain ⟨_, _, ⟨T2, L2, k2, n2⟩, -, X2, ⟨Lc2, hQ2, l2, y2, z2⟩, st2⟩ := Jvm.LawKit.callS X0 hx (y := (⟨"java/lang/StringUTF16", "getChar", "([BI)C"⟩ : MethodName)) hown (mvT hZ (own_w hw 143 rfl)) (mvT hZ (own_w hw 144 rfl)) (mvT hZ (own_w hw 24 rfl)) (mvT hZ (own_w hw 145 rfl)) (by decide) (backOf (W := 0) (rmGC2_U4 l Z a0 hw [] r0 cs fm ky c0 c1 c2 c3 h0 n0 Z0 SB Od Vy hc2_) hZ (own_w hw 145 rfl) (own_w hw 24 rfl) (by decide) (by decide)) (g := (mkF m 12 #[.val (.ref r0), .val (.int (44 : Int32)), .val (.int (2 : Int32)), .val (.int (4 : Int32)), .val (.int (2 : Int32))] [(.int (2 : Int32)), (.ref r0)])) rfl (by rw [hml]; rfl) (argsL := [(.ref r0), (.int (2 : Int32))]) (rest := []) (lenOf pd_13 rfl) rfl (by show 2 * 0 + _ ≤ _; exact Nat.le_of_eq rfl) (hb hby d39_12) (fun _ _ => ⟨rfl, e0, (by decide : 0 + 0 ≤ _), (by decide : 0 + 0 ≤ _)⟩)
  dsimp only [Pt.U, Pt.locs, Pt.cells, Pt.slots] at X2 l2 y2 z2 st2 hQ2
  subst l2 y2 z2
  obtain ⟨rfl, Nq2, e2⟩ := hQ2
  have N2 := Fr.app N0 Nq2
  have st3 : own_S p e below T2 (mkF m 16 #[.val (.ref r0), .val (.int (44 : Int32)), .val (.int (2 : Int32)), .val (.int (4 : Int32)), .val (.int (2 : Int32))] [(.int (44 : Int32)), (.int c2)]) (mkF m 15 #[.val (.ref r0), .val (.int (44 : Int32)), .val (.int (2 : Int32)), .val (.int (4 : Int32)), .val (.int (2 : Int32))] [(.int c2)]) := by
    intro target kt
    refine XS.iloadN X2.here hx rfl (hb hby d39_15) rfl ?_
    exact kt
  by_cases m2 : c2 = (44 : Int32)
  · have st4 : own_S p e below T2 (mkF m 19 #[.val (.ref r0), .val (.int (44 : Int32)), .val (.int (2 : Int32)), .val (.int (4 : Int32)), .val (.int (2 : Int32))] []) (mkF m 16 #[.val (.ref r0), .val (.int (44 : Int32)), .val (.int (2 : Int32)), .val (.int (4 : Int32)), .val (.int (2 : Int32))] [(.int (44 : Int32)), (.int c2)]) := by
      intro target kt
      refine XS.icmpNo X2.here hx rfl (hb hby d39_16) rfl (teq m2).2 ?_
      exact kt
    obtain ⟨fs, hr, hrun, hended, hW, hsame⟩ := X2.leave (v := some (.int (2 : Int32))) (fun h => by rw [Bd.returns] at h; cases h)
    refine ⟨_, _, pre0 _ (st1 _ (st2 _ (st3 _ (st4 _ ?_)))), hrun, hended, _, _, rfl, ?_, ⟨_, rfl⟩, hW, hsame.mono (by decide) (by decide)⟩
    · refine XS.iload X2.here hx rfl (hb hby d39_19) rfl ?_
      show Steps p.tables e below (T2.setTop (mkF m 21 #[.val (.ref r0), .val (.int (44 : Int32)), .val (.int (2 : Int32)), .val (.int (4 : Int32)), .val (.int (2 : Int32))] [(.int (2 : Int32))])) _
      exact retI X2 hx Bd.returns (hb hby d39_21) hr
    · show Q_rmIx2_U4 Z r0 cs fm ky c0 c1 c2 c3 h0 n0 _ T2.heap _
      rw [e2]
      exact ⟨_, iff_of_false (by decide) (by simp [m2]), rfl, N2, rfl⟩
  · have st5 : own_S p e below T2 (mkF m 22 #[.val (.ref r0), .val (.int (44 : Int32)), .val (.int (2 : Int32)), .val (.int (4 : Int32)), .val (.int (2 : Int32))] []) (mkF m 16 #[.val (.ref r0), .val (.int (44 : Int32)), .val (.int (2 : Int32)), .val (.int (4 : Int32)), .val (.int (2 : Int32))] [(.int (44 : Int32)), (.int c2)]) := by
      intro target kt
      refine XS.icmpYes X2.here hx rfl (pc0 := 16) (pc' := 22) rfl (hb hby d39_16) rfl (feq m2).2 (by decide) (by decide) ?_
      exact kt
    have st6 : own_S p e below T2 (mkF m 12 #[.val (.ref r0), .val (.int (44 : Int32)), .val (.int (2 : Int32)), .val (.int (4 : Int32)), .val (.int (3 : Int32))] [(.int (3 : Int32)), (.ref r0)]) (mkF m 22 #[.val (.ref r0), .val (.int (44 : Int32)), .val (.int (2 : Int32)), .val (.int (4 : Int32)), .val (.int (2 : Int32))] []) := by
      intro target kt
      refine XS.iinc X2.here hx rfl (hb hby d39_22) rfl (l' := #[.val (.ref r0), .val (.int (44 : Int32)), .val (.int (2 : Int32)), .val (.int (4 : Int32)), .val (.int (3 : Int32))]) rfl ?_
      refine XS.goto X2.here hx rfl (pc0 := 25) (pc' := 3) rfl (hb hby d39_25) (by decide) (by decide) ?_
      refine XS.iload X2.here hx rfl (hb hby d39_3) rfl ?_
      refine XS.iloadN X2.here hx rfl (hb hby d39_5) rfl ?_
      refine XS.icmpNo X2.here hx rfl (hb hby d39_6) rfl (tlt (by decide : ((3 : Int32) < (4 : Int32)))).2.1 ?_
      refine XS.aloadN X2.here hx rfl (hb hby d39_9) rfl rfl ?_
      refine XS.iload X2.here hx rfl (hb hby d39_10) rfl ?_
      exact kt
    obtain ⟨_, _, ⟨T7, L7, k7, n7⟩, -, X7, ⟨Lc7, hQ7, l7, y7, z7⟩, st7⟩ := Jvm.LawKit.callS X2 hx (y := (⟨"java/lang/StringUTF16", "getChar", "([BI)C"⟩ : MethodName)) hown (mvT hZ (own_w hw 143 rfl)) (mvT hZ (own_w hw 144 rfl)) (mvT hZ (own_w hw 24 rfl)) (mvT hZ (own_w hw 145 rfl)) (by decide) (backOf (W := 0) (rmGC3_U4 l Z a0 hw [] r0 cs fm ky c0 c1 c2 c3 h0 n0 Z0 SB Od Vy hc3_) hZ (own_w hw 145 rfl) (own_w hw 24 rfl) (by decide) (by decide)) (g := (mkF m 12 #[.val (.ref r0), .val (.int (44 : Int32)), .val (.int (2 : Int32)), .val (.int (4 : Int32)), .val (.int (3 : Int32))] [(.int (3 : Int32)), (.ref r0)])) rfl (by rw [hml]; rfl) (argsL := [(.ref r0), (.int (3 : Int32))]) (rest := []) (lenOf pd_13 rfl) rfl (by show 2 * 0 + _ ≤ _; exact Nat.le_of_eq rfl) (hb hby d39_12) (fun _ _ => ⟨rfl, e2, (by decide : 0 + 0 ≤ _), (by decide : 0 + 0 ≤ _)⟩)
    dsimp only [Pt.U, Pt.locs, Pt.cells, Pt.slots] at X7 l7 y7 z7 st7 hQ7
    subst l7 y7 z7
    obtain ⟨rfl, Nq7, e7⟩ := hQ7
    have N7 := Fr.app N2 Nq7
    have st8 : own_S p e below T7 (mkF m 16 #[.val (.ref r0), .val (.int (44 : Int32)), .val (.int (2 : Int32)), .val (.int (4 : Int32)), .val (.int (3 : Int32))] [(.int (44 : Int32)), (.int c3)]) (mkF m 15 #[.val (.ref r0), .val (.int (44 : Int32)), .val (.int (2 : Int32)), .val (.int (4 : Int32)), .val (.int (3 : Int32))] [(.int c3)]) := by
      intro target kt
      refine XS.iloadN X7.here hx rfl (hb hby d39_15) rfl ?_
      exact kt
    by_cases m3 : c3 = (44 : Int32)
    · have st9 : own_S p e below T7 (mkF m 19 #[.val (.ref r0), .val (.int (44 : Int32)), .val (.int (2 : Int32)), .val (.int (4 : Int32)), .val (.int (3 : Int32))] []) (mkF m 16 #[.val (.ref r0), .val (.int (44 : Int32)), .val (.int (2 : Int32)), .val (.int (4 : Int32)), .val (.int (3 : Int32))] [(.int (44 : Int32)), (.int c3)]) := by
        intro target kt
        refine XS.icmpNo X7.here hx rfl (hb hby d39_16) rfl (teq m3).2 ?_
        exact kt
      obtain ⟨fs, hr, hrun, hended, hW, hsame⟩ := X7.leave (v := some (.int (3 : Int32))) (fun h => by rw [Bd.returns] at h; cases h)
      refine ⟨_, _, pre0 _ (st1 _ (st2 _ (st3 _ (st5 _ (st6 _ (st7 _ (st8 _ (st9 _ ?_)))))))), hrun, hended, _, _, rfl, ?_, ⟨_, rfl⟩, hW, hsame.mono (by decide) (by decide)⟩
      · refine XS.iload X7.here hx rfl (hb hby d39_19) rfl ?_
        show Steps p.tables e below (T7.setTop (mkF m 21 #[.val (.ref r0), .val (.int (44 : Int32)), .val (.int (2 : Int32)), .val (.int (4 : Int32)), .val (.int (3 : Int32))] [(.int (3 : Int32))])) _
        exact retI X7 hx Bd.returns (hb hby d39_21) hr
      · show Q_rmIx2_U4 Z r0 cs fm ky c0 c1 c2 c3 h0 n0 _ T7.heap _
        rw [e7]
        exact ⟨_, iff_of_false (by decide) (by simp [m3]), rfl, N7, rfl⟩
    · have st10 : own_S p e below T7 (mkF m 22 #[.val (.ref r0), .val (.int (44 : Int32)), .val (.int (2 : Int32)), .val (.int (4 : Int32)), .val (.int (3 : Int32))] []) (mkF m 16 #[.val (.ref r0), .val (.int (44 : Int32)), .val (.int (2 : Int32)), .val (.int (4 : Int32)), .val (.int (3 : Int32))] [(.int (44 : Int32)), (.int c3)]) := by
        intro target kt
        refine XS.icmpYes X7.here hx rfl (pc0 := 16) (pc' := 22) rfl (hb hby d39_16) rfl (feq m3).2 (by decide) (by decide) ?_
        exact kt
      have st11 : own_S p e below T7 (mkF m 29 #[.val (.ref r0), .val (.int (44 : Int32)), .val (.int (2 : Int32)), .val (.int (4 : Int32)), .val (.int (4 : Int32))] [(.int (-1 : Int32))]) (mkF m 22 #[.val (.ref r0), .val (.int (44 : Int32)), .val (.int (2 : Int32)), .val (.int (4 : Int32)), .val (.int (3 : Int32))] []) := by
        intro target kt
        refine XS.iinc X7.here hx rfl (hb hby d39_22) rfl (l' := #[.val (.ref r0), .val (.int (44 : Int32)), .val (.int (2 : Int32)), .val (.int (4 : Int32)), .val (.int (4 : Int32))]) rfl ?_
        refine XS.goto X7.here hx rfl (pc0 := 25) (pc' := 3) rfl (hb hby d39_25) (by decide) (by decide) ?_
        refine XS.iload X7.here hx rfl (hb hby d39_3) rfl ?_
        refine XS.iloadN X7.here hx rfl (hb hby d39_5) rfl ?_
        refine XS.icmpYes X7.here hx rfl (pc0 := 6) (pc' := 28) rfl (hb hby d39_6) rfl (flt (by decide : ¬ ((4 : Int32) < (4 : Int32)))).2.1 (by decide) (by decide) ?_
        refine XS.iconst X7.here hx rfl (hb hby d39_28) ?_
        exact kt
      obtain ⟨fs, hr, hrun, hended, hW, hsame⟩ := X7.leave (v := some (.int (-1 : Int32))) (fun h => by rw [Bd.returns] at h; cases h)
      refine ⟨_, _, pre0 _ (st1 _ (st2 _ (st3 _ (st5 _ (st6 _ (st7 _ (st8 _ (st10 _ (st11 _ ?_))))))))), hrun, hended, _, _, rfl, ?_, ⟨_, rfl⟩, hW, hsame.mono (by decide) (by decide)⟩
      · show Steps p.tables e below (T7.setTop (mkF m 29 #[.val (.ref r0), .val (.int (44 : Int32)), .val (.int (2 : Int32)), .val (.int (4 : Int32)), .val (.int (4 : Int32))] [(.int (-1 : Int32))])) _
        exact retI X7 hx Bd.returns (hb hby d39_29) hr
      · show Q_rmIx2_U4 Z r0 cs fm ky c0 c1 c2 c3 h0 n0 _ T7.heap _
        rw [e7]
        exact ⟨_, iff_of_true (by decide) (by simp [m2, m3]), rfl, N7, rfl⟩
theorem ef_rmUcb2_U4 (m : MethodId) (x0 : Int32) (x1 : Int32) (x2 : Addr) : entryFrame m #[(.int x0), (.int x1), (.ref x2)] 3 = mkF m 0 #[.val (.int x0), .val (.int x1), .val (.ref x2)] [] := by first | (simp [entryFrame, mkF, argsToLocals, Value.category]; done) | rfl
def Q_rmUcb2_U4 (Z : State) (r2 : Addr) (cs : Int32) (fm : Value) (ky : ClassId) (c0 : Int32) (c1 : Int32) (c2 : Int32) (c3 : Int32) (h0 : Heap) (n0 : Nat) (v : Option Value) (h : Heap) (L : List Loc) : Prop := v = none ∧ Fr n0 L ∧ h = h0
set_option maxRecDepth 65536 in
set_option maxHeartbeats 40000000 in
theorem rmUcb2_U4 (l : Launch) (Z : State) (a0 : Array Value) (hw : ∀ d ∈ tables_1, d.before a0 Z = true) (ws : List Jvm.Cond) (r2 : Addr) (cs : Int32) (fm : Value) (ky : ClassId) (c0 : Int32) (c1 : Int32) (c2 : Int32) (c3 : Int32) (h0 : Heap) (n0 : Nat) (Z0 : n0 ≤ h0.size) (SB : own_St Z cs fm) (Od : Old Z n0 h0) (Vy : Arv Z h0 r2 ky .byte (8 : Int32) [(.int (own_lo c0)), (.int (own_hi c0)), (.int (own_lo c1)), (.int (own_hi c1)), (.int (own_lo c2)), (.int (own_hi c2)), (.int (own_lo c3)), (.int (own_hi c3))] (.int (0 : Int32))) :
    MetFree l (⟨"java/lang/StringUTF16", "checkBoundsBeginEnd", "(II[B)V"⟩ : MethodName) (head1 (Jvm.Cond.code (⟨"java/lang/StringUTF16", "checkBoundsBeginEnd", "(II[B)V"⟩ : MethodName) jdk_52_method_93_code 3 none :: ws) ({ frames := 2, cells := 0, slots := 0, locals := 29 } : Room)) (fun a U => a = #[(.int (2 : Int32)), (.int (4 : Int32)), (.ref r2)] ∧ Z.Warmed39 U.vm ∧ U.heap = h0) (fun _ _ _ _ _ => True) (fun _ U o U' => ∃ v L, o = .returned v ∧ Q_rmUcb2_U4 Z r2 cs fm ky c0 c1 c2 c3 h0 n0 v U'.heap L ∧ FrameEnd U o U' L ({ frames := 2, cells := 0, slots := 0, locals := 29 } : Room).cells ({ frames := 2, cells := 0, slots := 0, locals := 29 } : Room).slots) := by
  refine MetFree.of_bodySF (plainFor_of_name pn_0) hisR ?_
  intro p e s m args below meth c s₁ Bd hml0 hP hK
  obtain ⟨rfl, hZ, hh⟩ := hP
  have hx := Bd.exec
  have hby := Bd.bytes
  have hml : c.maxLocals = 3 := hml0
  have hown : s.vm.findClass "java/lang/StringUTF16" = some m.cls := findClass_of_methodNamed Bd.named
  have hnm := (name_of_methodNamed Bd.named Bd.method).1
  have X0 : Stand p l e ({ frames := 2, cells := 0, slots := 0, locals := 29 } : Room) s m #[(.int (2 : Int32)), (.int (4 : Int32)), (.ref r2)] below meth c s₁ [] 0 0 := Stand.of_body Bd
  have e0 : s₁.heap = h0 := by rw [← hh, Bd.state]; rfl
  have N0 := Fr.nil n0
  have pre0 : ∀ t, Steps p.tables e below (s₁.setTop (mkF m 0 #[.val (.int (2 : Int32)), .val (.int (4 : Int32)), .val (.ref r2)] [])) t → Steps p.tables e below (s₁.setTop (entryFrame m #[(.int (2 : Int32)), (.int (4 : Int32)), (.ref r2)] 3)) t := fun t k => castTop (ef_rmUcb2_U4 m (2 : Int32) (4 : Int32) r2) k
  have st1 : own_S p e below s₁ (mkF m 3 #[.val (.int (2 : Int32)), .val (.int (4 : Int32)), .val (.ref r2)] [(.ref r2), (.int (4 : Int32)), (.int (2 : Int32))]) (mkF m 0 #[.val (.int (2 : Int32)), .val (.int (4 : Int32)), .val (.ref r2)] []) := by
    intro target kt
    refine XS.iloadN X0.here hx rfl (hb hby d36_0) rfl ?_
    refine XS.iloadN X0.here hx rfl (hb hby d36_1) rfl ?_
    refine XS.aloadN X0.here hx rfl (hb hby d36_2) rfl rfl ?_
    exact kt
  obtain ⟨_, _, ⟨T2, L2, k2, n2⟩, -, X2, ⟨Lc2, hQ2, l2, y2, z2⟩, st2⟩ := Jvm.LawKit.callS X0 hx (y := (⟨"java/lang/StringUTF16", "length", "([B)I"⟩ : MethodName)) hown (mvT hZ (own_w hw 152 rfl)) (mvT hZ (own_w hw 153 rfl)) (mvT hZ (own_w hw 24 rfl)) (mvT hZ (own_w hw 154 rfl)) (by decide) (backOf (W := 2) (rmUlen_U4 l Z a0 hw [] r2 cs fm ky c0 c1 c2 c3 h0 n0 Z0 SB Od Vy) hZ (own_w hw 154 rfl) (own_w hw 24 rfl) (by decide) (by decide)) (g := (mkF m 3 #[.val (.int (2 : Int32)), .val (.int (4 : Int32)), .val (.ref r2)] [(.ref r2), (.int (4 : Int32)), (.int (2 : Int32))])) rfl (by rw [hml]; rfl) (argsL := [(.ref r2)]) (rest := [(.int (4 : Int32)), (.int (2 : Int32))]) (lenOf pd_24 rfl) rfl (by show 2 * 0 + _ ≤ _; exact Nat.le_of_eq rfl) (hb hby d36_3) (fun _ _ => ⟨rfl, e0, (by decide : 0 + 0 ≤ _), (by decide : 0 + 0 ≤ _)⟩)
  dsimp only [Pt.U, Pt.locs, Pt.cells, Pt.slots] at X2 l2 y2 z2 st2 hQ2
  subst l2 y2 z2
  obtain ⟨rfl, Nq2, e2⟩ := hQ2
  have N2 := Fr.app N0 Nq2
  obtain ⟨_, _, ⟨T3, L3, k3, n3⟩, -, X3, ⟨Lc3, hQ3, l3, y3, z3⟩, st3⟩ := Jvm.LawKit.callS X2 hx (y := (⟨"java/lang/String", "checkBoundsBeginEnd", "(III)V"⟩ : MethodName)) hown (mvT hZ (own_w hw 168 rfl)) (mvT hZ (own_w hw 169 rfl)) (mvT hZ (own_w hw 10 rfl)) (mvT hZ (own_w hw 170 rfl)) (by decide) (backOf (W := 0) (rmScb l Z a0 hw [] (2 : Int32) (4 : Int32) (4 : Int32) cs fm h0 n0 Z0 SB Od (by decide) (by decide) (by decide)) hZ (own_w hw 170 rfl) (own_w hw 10 rfl) (by decide) (by decide)) (g := (mkF m 6 #[.val (.int (2 : Int32)), .val (.int (4 : Int32)), .val (.ref r2)] [(.int (4 : Int32)), (.int (4 : Int32)), (.int (2 : Int32))])) rfl (by rw [hml]; rfl) (argsL := [(.int (2 : Int32)), (.int (4 : Int32)), (.int (4 : Int32))]) (rest := []) (lenOf pd_26 rfl) rfl (by show 2 * 0 + _ ≤ _; exact Nat.le_of_eq rfl) (hb hby d36_6) (fun _ _ => ⟨rfl, e2, (by decide : 0 + 0 ≤ _), (by decide : 0 + 0 ≤ _)⟩)
  dsimp only [Pt.U, Pt.locs, Pt.cells, Pt.slots] at X3 l3 y3 z3 st3 hQ3
  subst l3 y3 z3
  obtain ⟨rfl, Nq3, e3⟩ := hQ3
  have N3 := Fr.app N2 Nq3
  obtain ⟨fs, hr, hrun, hended, hW, hsame⟩ := X3.leave (v := none) (fun _ => rfl)
  refine ⟨_, _, pre0 _ (st1 _ (st2 _ (st3 _ ?_))), hrun, hended, _, _, rfl, ?_, ⟨_, rfl⟩, hW, hsame.mono (by decide) (by decide)⟩
  · show Steps p.tables e below (T3.setTop (mkF m 9 #[.val (.int (2 : Int32)), .val (.int (4 : Int32)), .val (.ref r2)] [])) _
    exact X3.returnOut hx Bd.returns (hb hby d36_9) hr
  · show Q_rmUcb2_U4 Z r2 cs fm ky c0 c1 c2 c3 h0 n0 _ T3.heap _
    rw [e3]
    exact ⟨rfl, N3, rfl⟩
theorem ef_rmUix2_U4 (m : MethodId) (x0 : Addr) (x1 : Int32) (x2 : Int32) (x3 : Int32) : entryFrame m #[(.ref x0), (.int x1), (.int x2), (.int x3)] 4 = mkF m 0 #[.val (.ref x0), .val (.int x1), .val (.int x2), .val (.int x3)] [] := by first | (simp [entryFrame, mkF, argsToLocals, Value.category]; done) | rfl
def Q_rmUix2_U4 (Z : State) (r0 : Addr) (cs : Int32) (fm : Value) (ky : ClassId) (c0 : Int32) (c1 : Int32) (c2 : Int32) (c3 : Int32) (h0 : Heap) (n0 : Nat) (v : Option Value) (h : Heap) (L : List Loc) : Prop := ∃ z : Int32, (z < 0 ↔ ¬ (c2 = 44 ∨ c3 = 44 ∨ False)) ∧ v = some (.int z) ∧ Fr n0 L ∧ h = h0
set_option maxRecDepth 65536 in
set_option maxHeartbeats 40000000 in
theorem rmUix2_U4 (l : Launch) (Z : State) (a0 : Array Value) (hw : ∀ d ∈ tables_1, d.before a0 Z = true) (ws : List Jvm.Cond) (r0 : Addr) (cs : Int32) (fm : Value) (ky : ClassId) (c0 : Int32) (c1 : Int32) (c2 : Int32) (c3 : Int32) (h0 : Heap) (n0 : Nat) (Z0 : n0 ≤ h0.size) (SB : own_St Z cs fm) (Od : Old Z n0 h0) (Vy : Arv Z h0 r0 ky .byte (8 : Int32) [(.int (own_lo c0)), (.int (own_hi c0)), (.int (own_lo c1)), (.int (own_hi c1)), (.int (own_lo c2)), (.int (own_hi c2)), (.int (own_lo c3)), (.int (own_hi c3))] (.int (0 : Int32))) (hc2_ : 0 ≤ c2.toInt ∧ c2.toInt < 65536) (hc3_ : 0 ≤ c3.toInt ∧ c3.toInt < 65536) :
    MetFree l (⟨"java/lang/StringUTF16", "indexOfChar", "([BIII)I"⟩ : MethodName) (head1 (Jvm.Cond.code (⟨"java/lang/StringUTF16", "indexOfChar", "([BIII)I"⟩ : MethodName) jdk_52_method_47_code 4 (some .int) :: ws) ({ frames := 3, cells := 0, slots := 0, locals := 43 } : Room)) (fun a U => a = #[(.ref r0), (.int (44 : Int32)), (.int (2 : Int32)), (.int (4 : Int32))] ∧ Z.Warmed39 U.vm ∧ U.heap = h0) (fun _ _ _ _ _ => True) (fun _ U o U' => ∃ v L, o = .returned v ∧ Q_rmUix2_U4 Z r0 cs fm ky c0 c1 c2 c3 h0 n0 v U'.heap L ∧ FrameEnd U o U' L ({ frames := 3, cells := 0, slots := 0, locals := 43 } : Room).cells ({ frames := 3, cells := 0, slots := 0, locals := 43 } : Room).slots) := by
  refine MetFree.of_bodySF (plainFor_of_name pn_0) hisR ?_
  intro p e s m args below meth c s₁ Bd hml0 hP hK
  obtain ⟨rfl, hZ, hh⟩ := hP
  have hx := Bd.exec
  have hby := Bd.bytes
  have hml : c.maxLocals = 4 := hml0
  have hown : s.vm.findClass "java/lang/StringUTF16" = some m.cls := findClass_of_methodNamed Bd.named
  have hnm := (name_of_methodNamed Bd.named Bd.method).1
  have X0 : Stand p l e ({ frames := 3, cells := 0, slots := 0, locals := 43 } : Room) s m #[(.ref r0), (.int (44 : Int32)), (.int (2 : Int32)), (.int (4 : Int32))] below meth c s₁ [] 0 0 := Stand.of_body Bd
  have e0 : s₁.heap = h0 := by rw [← hh, Bd.state]; rfl
  have N0 := Fr.nil n0
  have pre0 : ∀ t, Steps p.tables e below (s₁.setTop (mkF m 0 #[.val (.ref r0), .val (.int (44 : Int32)), .val (.int (2 : Int32)), .val (.int (4 : Int32))] [])) t → Steps p.tables e below (s₁.setTop (entryFrame m #[(.ref r0), (.int (44 : Int32)), (.int (2 : Int32)), (.int (4 : Int32))] 4)) t := fun t k => castTop (ef_rmUix2_U4 m r0 (44 : Int32) (2 : Int32) (4 : Int32)) k
  have st1 : own_S p e below s₁ (mkF m 3 #[.val (.ref r0), .val (.int (44 : Int32)), .val (.int (2 : Int32)), .val (.int (4 : Int32))] [(.ref r0), (.int (4 : Int32)), (.int (2 : Int32))]) (mkF m 0 #[.val (.ref r0), .val (.int (44 : Int32)), .val (.int (2 : Int32)), .val (.int (4 : Int32))] []) := by
    intro target kt
    refine XS.iloadN X0.here hx rfl (hb hby d35_0) rfl ?_
    refine XS.iloadN X0.here hx rfl (hb hby d35_1) rfl ?_
    refine XS.aloadN X0.here hx rfl (hb hby d35_2) rfl rfl ?_
    exact kt
  obtain ⟨_, _, ⟨T2, L2, k2, n2⟩, -, X2, ⟨Lc2, hQ2, l2, y2, z2⟩, st2⟩ := Jvm.LawKit.callS X0 hx (y := (⟨"java/lang/StringUTF16", "checkBoundsBeginEnd", "(II[B)V"⟩ : MethodName)) hown (mvT hZ (own_w hw 165 rfl)) (mvT hZ (own_w hw 166 rfl)) (mvT hZ (own_w hw 24 rfl)) (mvT hZ (own_w hw 167 rfl)) (by decide) (backOf (W := 0) (rmUcb2_U4 l Z a0 hw [] r0 cs fm ky c0 c1 c2 c3 h0 n0 Z0 SB Od Vy) hZ (own_w hw 167 rfl) (own_w hw 24 rfl) (by decide) (by decide)) (g := (mkF m 3 #[.val (.ref r0), .val (.int (44 : Int32)), .val (.int (2 : Int32)), .val (.int (4 : Int32))] [(.ref r0), (.int (4 : Int32)), (.int (2 : Int32))])) rfl (by rw [hml]; rfl) (argsL := [(.int (2 : Int32)), (.int (4 : Int32)), (.ref r0)]) (rest := []) (lenOf pd_25 rfl) rfl (by show 2 * 0 + _ ≤ _; exact Nat.le_of_eq rfl) (hb hby d35_3) (fun _ _ => ⟨rfl, e0, (by decide : 0 + 0 ≤ _), (by decide : 0 + 0 ≤ _)⟩)
  dsimp only [Pt.U, Pt.locs, Pt.cells, Pt.slots] at X2 l2 y2 z2 st2 hQ2
  subst l2 y2 z2
  obtain ⟨rfl, Nq2, e2⟩ := hQ2
  have N2 := Fr.app N0 Nq2
  have st3 : own_S p e below T2 (mkF m 10 #[.val (.ref r0), .val (.int (44 : Int32)), .val (.int (2 : Int32)), .val (.int (4 : Int32))] [(.int (4 : Int32)), (.int (2 : Int32)), (.int (44 : Int32)), (.ref r0)]) (mkF m 6 #[.val (.ref r0), .val (.int (44 : Int32)), .val (.int (2 : Int32)), .val (.int (4 : Int32))] []) := by
    intro target kt
    refine XS.aloadN X2.here hx rfl (hb hby d35_6) rfl rfl ?_
    refine XS.iloadN X2.here hx rfl (hb hby d35_7) rfl ?_
    refine XS.iloadN X2.here hx rfl (hb hby d35_8) rfl ?_
    refine XS.iloadN X2.here hx rfl (hb hby d35_9) rfl ?_
    exact kt
  obtain ⟨_, _, ⟨T4, L4, k4, n4⟩, -, X4, ⟨Lc4, hQ4, l4, y4, z4⟩, st4⟩ := Jvm.LawKit.callS X2 hx (y := (⟨"java/lang/StringUTF16", "indexOfCharUnsafe", "([BIII)I"⟩ : MethodName)) hown (mvT hZ (own_w hw 174 rfl)) (mvT hZ (own_w hw 175 rfl)) (mvT hZ (own_w hw 24 rfl)) (mvT hZ (own_w hw 176 rfl)) (by decide) (backOf (W := 0) (rmIx2_U4 l Z a0 hw [] r0 cs fm ky c0 c1 c2 c3 h0 n0 Z0 SB Od Vy hc2_ hc3_) hZ (own_w hw 176 rfl) (own_w hw 24 rfl) (by decide) (by decide)) (g := (mkF m 10 #[.val (.ref r0), .val (.int (44 : Int32)), .val (.int (2 : Int32)), .val (.int (4 : Int32))] [(.int (4 : Int32)), (.int (2 : Int32)), (.int (44 : Int32)), (.ref r0)])) rfl (by rw [hml]; rfl) (argsL := [(.ref r0), (.int (44 : Int32)), (.int (2 : Int32)), (.int (4 : Int32))]) (rest := []) (lenOf pd_18 rfl) rfl (by show 2 * 0 + _ ≤ _; exact Nat.le_of_eq rfl) (hb hby d35_10) (fun _ _ => ⟨rfl, e2, (by decide : 0 + 0 ≤ _), (by decide : 0 + 0 ≤ _)⟩)
  dsimp only [Pt.U, Pt.locs, Pt.cells, Pt.slots] at X4 l4 y4 z4 st4 hQ4
  subst l4 y4 z4
  obtain ⟨z4, hz4, rfl, Nq4, e4⟩ := hQ4
  have N4 := Fr.app N2 Nq4
  obtain ⟨fs, hr, hrun, hended, hW, hsame⟩ := X4.leave (v := some (.int z4)) (fun h => by rw [Bd.returns] at h; cases h)
  refine ⟨_, _, pre0 _ (st1 _ (st2 _ (st3 _ (st4 _ ?_)))), hrun, hended, _, _, rfl, ?_, ⟨_, rfl⟩, hW, hsame.mono (by decide) (by decide)⟩
  · show Steps p.tables e below (T4.setTop (mkF m 13 #[.val (.ref r0), .val (.int (44 : Int32)), .val (.int (2 : Int32)), .val (.int (4 : Int32))] [(.int z4)])) _
    exact retI X4 hx Bd.returns (hb hby d35_13) hr
  · show Q_rmUix2_U4 Z r0 cs fm ky c0 c1 c2 c3 h0 n0 _ T4.heap _
    rw [e4]
    exact ⟨_, hz4, rfl, N4, rfl⟩
theorem ef_rmAio2_U4 (m : MethodId) (x0 : Addr) (x1 : Int32) (x2 : Int32) (x3 : Int32) : entryFrame m #[(.ref x0), (.int x1), (.int x2), (.int x3)] 4 = mkF m 0 #[.val (.ref x0), .val (.int x1), .val (.int x2), .val (.int x3)] [] := by first | (simp [entryFrame, mkF, argsToLocals, Value.category]; done) | rfl
def Q_rmAio2_U4 (Z : State) (r0 : Addr) (cs : Int32) (fm : Value) (ky : ClassId) (c0 : Int32) (c1 : Int32) (c2 : Int32) (c3 : Int32) (h0 : Heap) (n0 : Nat) (v : Option Value) (h : Heap) (L : List Loc) : Prop := ∃ z : Int32, (z < 0 ↔ ¬ (c2 = 44 ∨ c3 = 44 ∨ False)) ∧ v = some (.int z) ∧ Fr n0 L ∧ h = h0
set_option maxRecDepth 65536 in
set_option maxHeartbeats 40000000 in
theorem rmAio2_U4 (l : Launch) (Z : State) (a0 : Array Value) (hw : ∀ d ∈ tables_1, d.before a0 Z = true) (ws : List Jvm.Cond) (r0 : Addr) (cs : Int32) (fm : Value) (ky : ClassId) (c0 : Int32) (c1 : Int32) (c2 : Int32) (c3 : Int32) (h0 : Heap) (n0 : Nat) (Z0 : n0 ≤ h0.size) (SB : own_St Z cs fm) (Od : Old Z n0 h0) (Vy : Arv Z h0 r0 ky .byte (8 : Int32) [(.int (own_lo c0)), (.int (own_hi c0)), (.int (own_lo c1)), (.int (own_hi c1)), (.int (own_lo c2)), (.int (own_hi c2)), (.int (own_lo c3)), (.int (own_hi c3))] (.int (0 : Int32))) (hc2_ : 0 ≤ c2.toInt ∧ c2.toInt < 65536) (hc3_ : 0 ≤ c3.toInt ∧ c3.toInt < 65536) :
    MetFree l (⟨"java/lang/StringUTF16", "indexOf", "([BIII)I"⟩ : MethodName) (head1 (Jvm.Cond.code (⟨"java/lang/StringUTF16", "indexOf", "([BIII)I"⟩ : MethodName) jdk_52_method_40_code 4 (some .int) :: ws) ({ frames := 4, cells := 0, slots := 0, locals := 58 } : Room)) (fun a U => a = #[(.ref r0), (.int (44 : Int32)), (.int (2 : Int32)), (.int (4 : Int32))] ∧ Z.Warmed39 U.vm ∧ U.heap = h0) (fun _ _ _ _ _ => True) (fun _ U o U' => ∃ v L, o = .returned v ∧ Q_rmAio2_U4 Z r0 cs fm ky c0 c1 c2 c3 h0 n0 v U'.heap L ∧ FrameEnd U o U' L ({ frames := 4, cells := 0, slots := 0, locals := 58 } : Room).cells ({ frames := 4, cells := 0, slots := 0, locals := 58 } : Room).slots) := by
  refine MetFree.of_bodySF (plainFor_of_name pn_0) hisR ?_
  intro p e s m args below meth c s₁ Bd hml0 hP hK
  obtain ⟨rfl, hZ, hh⟩ := hP
  have hx := Bd.exec
  have hby := Bd.bytes
  have hml : c.maxLocals = 4 := hml0
  have hown : s.vm.findClass "java/lang/StringUTF16" = some m.cls := findClass_of_methodNamed Bd.named
  have hnm := (name_of_methodNamed Bd.named Bd.method).1
  have X0 : Stand p l e ({ frames := 4, cells := 0, slots := 0, locals := 58 } : Room) s m #[(.ref r0), (.int (44 : Int32)), (.int (2 : Int32)), (.int (4 : Int32))] below meth c s₁ [] 0 0 := Stand.of_body Bd
  have e0 : s₁.heap = h0 := by rw [← hh, Bd.state]; rfl
  have N0 := Fr.nil n0
  have pre0 : ∀ t, Steps p.tables e below (s₁.setTop (mkF m 0 #[.val (.ref r0), .val (.int (44 : Int32)), .val (.int (2 : Int32)), .val (.int (4 : Int32))] [])) t → Steps p.tables e below (s₁.setTop (entryFrame m #[(.ref r0), (.int (44 : Int32)), (.int (2 : Int32)), (.int (4 : Int32))] 4)) t := fun t k => castTop (ef_rmAio2_U4 m r0 (44 : Int32) (2 : Int32) (4 : Int32)) k
  have st1 : own_S p e below s₁ (mkF m 2 #[.val (.ref r0), .val (.int (44 : Int32)), .val (.int (2 : Int32)), .val (.int (4 : Int32))] [(.int (0 : Int32)), (.int (2 : Int32))]) (mkF m 0 #[.val (.ref r0), .val (.int (44 : Int32)), .val (.int (2 : Int32)), .val (.int (4 : Int32))] []) := by
    intro target kt
    refine XS.iloadN X0.here hx rfl (hb hby d34_0) rfl ?_
    refine XS.iconst X0.here hx rfl (hb hby d34_1) ?_
    exact kt
  obtain ⟨_, _, ⟨T2, L2, k2, n2⟩, -, X2, ⟨Lc2, hQ2, l2, y2, z2⟩, st2⟩ := Jvm.LawKit.callS X0 hx (y := (⟨"java/lang/Math", "max", "(II)I"⟩ : MethodName)) hown (mvT hZ (own_w hw 159 rfl)) (mvT hZ (own_w hw 118 rfl)) (mvT hZ (own_w hw 119 rfl)) (mvT hZ (own_w hw 120 rfl)) (by decide) (backOf (W := 0) (rm23 l Z a0 hw [] (2 : Int32) (0 : Int32)  h0 n0 Z0 ) hZ (own_w hw 120 rfl) (own_w hw 119 rfl) (by decide) (by decide)) (g := (mkF m 2 #[.val (.ref r0), .val (.int (44 : Int32)), .val (.int (2 : Int32)), .val (.int (4 : Int32))] [(.int (0 : Int32)), (.int (2 : Int32))])) rfl (by rw [hml]; rfl) (argsL := [(.int (2 : Int32)), (.int (0 : Int32))]) (rest := []) (lenOf pd_17 rfl) rfl (by show 2 * 0 + _ ≤ _; exact Nat.le_of_eq rfl) (hb hby d34_2) (fun _ _ => ⟨rfl, e0, (by decide : 0 + 0 ≤ _), (by decide : 0 + 0 ≤ _)⟩)
  dsimp only [Pt.U, Pt.locs, Pt.cells, Pt.slots] at X2 l2 y2 z2 st2 hQ2
  subst l2 y2 z2
  obtain ⟨rfl, Nq2, e2⟩ := hQ2
  have N2 := Fr.app N0 Nq2
  rw [if_neg (by decide)] at st2
  have st3 : own_S p e below T2 (mkF m 8 #[.val (.ref r0), .val (.int (44 : Int32)), .val (.int (2 : Int32)), .val (.int (4 : Int32))] [(.ref r0), (.int (4 : Int32))]) (mkF m 5 #[.val (.ref r0), .val (.int (44 : Int32)), .val (.int (2 : Int32)), .val (.int (4 : Int32))] [(.int (2 : Int32))]) := by
    intro target kt
    refine XS.istoreN X2.here hx rfl (hb hby d34_5) rfl (l' := #[.val (.ref r0), .val (.int (44 : Int32)), .val (.int (2 : Int32)), .val (.int (4 : Int32))]) rfl ?_
    refine XS.iloadN X2.here hx rfl (hb hby d34_6) rfl ?_
    refine XS.aloadN X2.here hx rfl (hb hby d34_7) rfl rfl ?_
    exact kt
  obtain ⟨cl4, Ar4, qc4, Sz4, Mn4, Hs4, Gs4⟩ := id Vy
  have st4 : own_S p e below T2 (mkF m 9 #[.val (.ref r0), .val (.int (44 : Int32)), .val (.int (2 : Int32)), .val (.int (4 : Int32))] [(.int (8 : Int32)), (.int (4 : Int32))]) (mkF m 8 #[.val (.ref r0), .val (.int (44 : Int32)), .val (.int (2 : Int32)), .val (.int (4 : Int32))] [(.ref r0), (.int (4 : Int32))]) := fun target kt => X2.arraylength hx (cell := cl4) (by rw [e2]; exact Ar4.1) (State.isArrayOf_alike hZ.alike Ar4.2.1) (g := (mkF m 8 #[.val (.ref r0), .val (.int (44 : Int32)), .val (.int (2 : Int32)), .val (.int (4 : Int32))] [(.ref r0), (.int (4 : Int32))])) rfl rfl (hb hby d34_8) _ (by rw [len_of Sz4 Mn4]; exact kt)
  have st5 : own_S p e below T2 (mkF m 11 #[.val (.ref r0), .val (.int (44 : Int32)), .val (.int (2 : Int32)), .val (.int (4 : Int32))] [(.int (4 : Int32)), (.int (4 : Int32))]) (mkF m 9 #[.val (.ref r0), .val (.int (44 : Int32)), .val (.int (2 : Int32)), .val (.int (4 : Int32))] [(.int (8 : Int32)), (.int (4 : Int32))]) := by
    intro target kt
    refine XS.iconst X2.here hx rfl (hb hby d34_9) ?_
    refine XS.ishr X2.here hx rfl (hb hby d34_10) rfl ?_
    exact kt
  obtain ⟨_, _, ⟨T6, L6, k6, n6⟩, -, X6, ⟨Lc6, hQ6, l6, y6, z6⟩, st6⟩ := Jvm.LawKit.callS X2 hx (y := (⟨"java/lang/Math", "min", "(II)I"⟩ : MethodName)) hown (mvT hZ (own_w hw 160 rfl)) (mvT hZ (own_w hw 122 rfl)) (mvT hZ (own_w hw 119 rfl)) (mvT hZ (own_w hw 123 rfl)) (by decide) (backOf (W := 0) (rm24 l Z a0 hw [] (4 : Int32) (4 : Int32)  h0 n0 Z0 ) hZ (own_w hw 123 rfl) (own_w hw 119 rfl) (by decide) (by decide)) (g := (mkF m 11 #[.val (.ref r0), .val (.int (44 : Int32)), .val (.int (2 : Int32)), .val (.int (4 : Int32))] [(.int (4 : Int32)), (.int (4 : Int32))])) rfl (by rw [hml]; rfl) (argsL := [(.int (4 : Int32)), (.int (4 : Int32))]) (rest := []) (lenOf pd_17 rfl) rfl (by show 2 * 0 + _ ≤ _; exact Nat.le_of_eq rfl) (hb hby d34_11) (fun _ _ => ⟨rfl, e2, (by decide : 0 + 0 ≤ _), (by decide : 0 + 0 ≤ _)⟩)
  dsimp only [Pt.U, Pt.locs, Pt.cells, Pt.slots] at X6 l6 y6 z6 st6 hQ6
  subst l6 y6 z6
  obtain ⟨rfl, Nq6, e6⟩ := hQ6
  have N6 := Fr.app N2 Nq6
  rw [if_neg (by decide)] at st6
  have st7 : own_S p e below T6 (mkF m 32 #[.val (.ref r0), .val (.int (44 : Int32)), .val (.int (2 : Int32)), .val (.int (4 : Int32))] [(.int (4 : Int32)), (.int (2 : Int32)), (.int (44 : Int32)), (.ref r0)]) (mkF m 14 #[.val (.ref r0), .val (.int (44 : Int32)), .val (.int (2 : Int32)), .val (.int (4 : Int32))] [(.int (4 : Int32))]) := by
    intro target kt
    refine XS.istoreN X6.here hx rfl (hb hby d34_14) rfl (l' := #[.val (.ref r0), .val (.int (44 : Int32)), .val (.int (2 : Int32)), .val (.int (4 : Int32))]) rfl ?_
    refine XS.iloadN X6.here hx rfl (hb hby d34_15) rfl ?_
    refine XS.iloadN X6.here hx rfl (hb hby d34_16) rfl ?_
    refine XS.icmpYes X6.here hx rfl (pc0 := 17) (pc' := 22) rfl (hb hby d34_17) rfl (tlt (by decide : ((2 : Int32) < (4 : Int32)))).1 (by decide) (by decide) ?_
    refine XS.iloadN X6.here hx rfl (hb hby d34_22) rfl ?_
    refine X6.ldcInt hx hown (mvT hZ (own_w hw 161 rfl)) (g := (mkF m 23 #[.val (.ref r0), .val (.int (44 : Int32)), .val (.int (2 : Int32)), .val (.int (4 : Int32))] [(.int (44 : Int32))])) rfl (hb hby d34_23) _ ?_
    refine XS.icmpNo X6.here hx rfl (hb hby d34_25) rfl (tlt (by decide : ((44 : Int32) < (65536 : Int32)))).2.1 ?_
    refine XS.aloadN X6.here hx rfl (hb hby d34_28) rfl rfl ?_
    refine XS.iloadN X6.here hx rfl (hb hby d34_29) rfl ?_
    refine XS.iloadN X6.here hx rfl (hb hby d34_30) rfl ?_
    refine XS.iloadN X6.here hx rfl (hb hby d34_31) rfl ?_
    exact kt
  obtain ⟨_, _, ⟨T8, L8, k8, n8⟩, -, X8, ⟨Lc8, hQ8, l8, y8, z8⟩, st8⟩ := Jvm.LawKit.callS X6 hx (y := (⟨"java/lang/StringUTF16", "indexOfChar", "([BIII)I"⟩ : MethodName)) hown (mvT hZ (own_w hw 162 rfl)) (mvT hZ (own_w hw 163 rfl)) (mvT hZ (own_w hw 24 rfl)) (mvT hZ (own_w hw 164 rfl)) (by decide) (backOf (W := 0) (rmUix2_U4 l Z a0 hw [] r0 cs fm ky c0 c1 c2 c3 h0 n0 Z0 SB Od Vy hc2_ hc3_) hZ (own_w hw 164 rfl) (own_w hw 24 rfl) (by decide) (by decide)) (g := (mkF m 32 #[.val (.ref r0), .val (.int (44 : Int32)), .val (.int (2 : Int32)), .val (.int (4 : Int32))] [(.int (4 : Int32)), (.int (2 : Int32)), (.int (44 : Int32)), (.ref r0)])) rfl (by rw [hml]; rfl) (argsL := [(.ref r0), (.int (44 : Int32)), (.int (2 : Int32)), (.int (4 : Int32))]) (rest := []) (lenOf pd_18 rfl) rfl (by show 2 * 0 + _ ≤ _; exact Nat.le_of_eq rfl) (hb hby d34_32) (fun _ _ => ⟨rfl, e6, (by decide : 0 + 0 ≤ _), (by decide : 0 + 0 ≤ _)⟩)
  dsimp only [Pt.U, Pt.locs, Pt.cells, Pt.slots] at X8 l8 y8 z8 st8 hQ8
  subst l8 y8 z8
  obtain ⟨z8, hz8, rfl, Nq8, e8⟩ := hQ8
  have N8 := Fr.app N6 Nq8
  obtain ⟨fs, hr, hrun, hended, hW, hsame⟩ := X8.leave (v := some (.int z8)) (fun h => by rw [Bd.returns] at h; cases h)
  refine ⟨_, _, pre0 _ (st1 _ (st2 _ (st3 _ (st4 _ (st5 _ (st6 _ (st7 _ (st8 _ ?_)))))))), hrun, hended, _, _, rfl, ?_, ⟨_, rfl⟩, hW, hsame.mono (by decide) (by decide)⟩
  · show Steps p.tables e below (T8.setTop (mkF m 35 #[.val (.ref r0), .val (.int (44 : Int32)), .val (.int (2 : Int32)), .val (.int (4 : Int32))] [(.int z8)])) _
    exact retI X8 hx Bd.returns (hb hby d34_35) hr
  · show Q_rmAio2_U4 Z r0 cs fm ky c0 c1 c2 c3 h0 n0 _ T8.heap _
    rw [e8]
    exact ⟨_, hz8, rfl, N8, rfl⟩
theorem ef_rmIx3_U4 (m : MethodId) (x0 : Addr) (x1 : Int32) (x2 : Int32) (x3 : Int32) : entryFrame m #[(.ref x0), (.int x1), (.int x2), (.int x3)] 5 = mkF m 0 #[.val (.ref x0), .val (.int x1), .val (.int x2), .val (.int x3), .unset] [] := by first | (simp [entryFrame, mkF, argsToLocals, Value.category]; done) | rfl
def Q_rmIx3_U4 (Z : State) (r0 : Addr) (cs : Int32) (fm : Value) (ky : ClassId) (c0 : Int32) (c1 : Int32) (c2 : Int32) (c3 : Int32) (h0 : Heap) (n0 : Nat) (v : Option Value) (h : Heap) (L : List Loc) : Prop := ∃ z : Int32, (z < 0 ↔ ¬ (c3 = 44 ∨ False)) ∧ v = some (.int z) ∧ Fr n0 L ∧ h = h0
set_option maxRecDepth 65536 in
set_option maxHeartbeats 40000000 in
theorem rmIx3_U4 (l : Launch) (Z : State) (a0 : Array Value) (hw : ∀ d ∈ tables_1, d.before a0 Z = true) (ws : List Jvm.Cond) (r0 : Addr) (cs : Int32) (fm : Value) (ky : ClassId) (c0 : Int32) (c1 : Int32) (c2 : Int32) (c3 : Int32) (h0 : Heap) (n0 : Nat) (Z0 : n0 ≤ h0.size) (SB : own_St Z cs fm) (Od : Old Z n0 h0) (Vy : Arv Z h0 r0 ky .byte (8 : Int32) [(.int (own_lo c0)), (.int (own_hi c0)), (.int (own_lo c1)), (.int (own_hi c1)), (.int (own_lo c2)), (.int (own_hi c2)), (.int (own_lo c3)), (.int (own_hi c3))] (.int (0 : Int32))) (hc3_ : 0 ≤ c3.toInt ∧ c3.toInt < 65536) :
    MetFree l (⟨"java/lang/StringUTF16", "indexOfCharUnsafe", "([BIII)I"⟩ : MethodName) (head1 (Jvm.Cond.code (⟨"java/lang/StringUTF16", "indexOfCharUnsafe", "([BIII)I"⟩ : MethodName) jdk_52_method_48_code 5 (some .int) :: ws) ({ frames := 1, cells := 0, slots := 0, locals := 13 } : Room)) (fun a U => a = #[(.ref r0), (.int (44 : Int32)), (.int (3 : Int32)), (.int (4 : Int32))] ∧ Z.Warmed39 U.vm ∧ U.heap = h0) (fun _ _ _ _ _ => True) (fun _ U o U' => ∃ v L, o = .returned v ∧ Q_rmIx3_U4 Z r0 cs fm ky c0 c1 c2 c3 h0 n0 v U'.heap L ∧ FrameEnd U o U' L ({ frames := 1, cells := 0, slots := 0, locals := 13 } : Room).cells ({ frames := 1, cells := 0, slots := 0, locals := 13 } : Room).slots) := by
  refine MetFree.of_bodySF (plainFor_of_name pn_0) hisR ?_
  intro p e s m args below meth c s₁ Bd hml0 hP hK
  obtain ⟨rfl, hZ, hh⟩ := hP
  have hx := Bd.exec
  have hby := Bd.bytes
  have hml : c.maxLocals = 5 := hml0
  have hown : s.vm.findClass "java/lang/StringUTF16" = some m.cls := findClass_of_methodNamed Bd.named
  have hnm := (name_of_methodNamed Bd.named Bd.method).1
  have X0 : Stand p l e ({ frames := 1, cells := 0, slots := 0, locals := 13 } : Room) s m #[(.ref r0), (.int (44 : Int32)), (.int (3 : Int32)), (.int (4 : Int32))] below meth c s₁ [] 0 0 := Stand.of_body Bd
  have e0 : s₁.heap = h0 := by rw [← hh, Bd.state]; rfl
  have N0 := Fr.nil n0
  have pre0 : ∀ t, Steps p.tables e below (s₁.setTop (mkF m 0 #[.val (.ref r0), .val (.int (44 : Int32)), .val (.int (3 : Int32)), .val (.int (4 : Int32)), .unset] [])) t → Steps p.tables e below (s₁.setTop (entryFrame m #[(.ref r0), (.int (44 : Int32)), (.int (3 : Int32)), (.int (4 : Int32))] 5)) t := fun t k => castTop (ef_rmIx3_U4 m r0 (44 : Int32) (3 : Int32) (4 : Int32)) k
  have st1 : own_S p e below s₁ (mkF m 12 #[.val (.ref r0), .val (.int (44 : Int32)), .val (.int (3 : Int32)), .val (.int (4 : Int32)), .val (.int (3 : Int32))] [(.int (3 : Int32)), (.ref r0)]) (mkF m 0 #[.val (.ref r0), .val (.int (44 : Int32)), .val (.int (3 : Int32)), .val (.int (4 : Int32)), .unset] []) := by
    intro target kt
    refine XS.iloadN X0.here hx rfl (hb hby d39_0) rfl ?_
    refine XS.istore X0.here hx rfl (hb hby d39_1) rfl (l' := #[.val (.ref r0), .val (.int (44 : Int32)), .val (.int (3 : Int32)), .val (.int (4 : Int32)), .val (.int (3 : Int32))]) rfl ?_
    refine XS.iload X0.here hx rfl (hb hby d39_3) rfl ?_
    refine XS.iloadN X0.here hx rfl (hb hby d39_5) rfl ?_
    refine XS.icmpNo X0.here hx rfl (hb hby d39_6) rfl (tlt (by decide : ((3 : Int32) < (4 : Int32)))).2.1 ?_
    refine XS.aloadN X0.here hx rfl (hb hby d39_9) rfl rfl ?_
    refine XS.iload X0.here hx rfl (hb hby d39_10) rfl ?_
    exact kt
  obtain ⟨_, _, ⟨T2, L2, k2, n2⟩, -, X2, ⟨Lc2, hQ2, l2, y2, z2⟩, st2⟩ := Jvm.LawKit.callS X0 hx (y := (⟨"java/lang/StringUTF16", "getChar", "([BI)C"⟩ : MethodName)) hown (mvT hZ (own_w hw 143 rfl)) (mvT hZ (own_w hw 144 rfl)) (mvT hZ (own_w hw 24 rfl)) (mvT hZ (own_w hw 145 rfl)) (by decide) (backOf (W := 0) (rmGC3_U4 l Z a0 hw [] r0 cs fm ky c0 c1 c2 c3 h0 n0 Z0 SB Od Vy hc3_) hZ (own_w hw 145 rfl) (own_w hw 24 rfl) (by decide) (by decide)) (g := (mkF m 12 #[.val (.ref r0), .val (.int (44 : Int32)), .val (.int (3 : Int32)), .val (.int (4 : Int32)), .val (.int (3 : Int32))] [(.int (3 : Int32)), (.ref r0)])) rfl (by rw [hml]; rfl) (argsL := [(.ref r0), (.int (3 : Int32))]) (rest := []) (lenOf pd_13 rfl) rfl (by show 2 * 0 + _ ≤ _; exact Nat.le_of_eq rfl) (hb hby d39_12) (fun _ _ => ⟨rfl, e0, (by decide : 0 + 0 ≤ _), (by decide : 0 + 0 ≤ _)⟩)
  dsimp only [Pt.U, Pt.locs, Pt.cells, Pt.slots] at X2 l2 y2 z2 st2 hQ2
  subst l2 y2 z2
  obtain ⟨rfl, Nq2, e2⟩ := hQ2
  have N2 := Fr.app N0 Nq2
  have st3 : own_S p e below T2 (mkF m 16 #[.val (.ref r0), .val (.int (44 : Int32)), .val (.int (3 : Int32)), .val (.int (4 : Int32)), .val (.int (3 : Int32))] [(.int (44 : Int32)), (.int c3)]) (mkF m 15 #[.val (.ref r0), .val (.int (44 : Int32)), .val (.int (3 : Int32)), .val (.int (4 : Int32)), .val (.int (3 : Int32))] [(.int c3)]) := by
    intro target kt
    refine XS.iloadN X2.here hx rfl (hb hby d39_15) rfl ?_
    exact kt
  by_cases m3 : c3 = (44 : Int32)
  · have st4 : own_S p e below T2 (mkF m 19 #[.val (.ref r0), .val (.int (44 : Int32)), .val (.int (3 : Int32)), .val (.int (4 : Int32)), .val (.int (3 : Int32))] []) (mkF m 16 #[.val (.ref r0), .val (.int (44 : Int32)), .val (.int (3 : Int32)), .val (.int (4 : Int32)), .val (.int (3 : Int32))] [(.int (44 : Int32)), (.int c3)]) := by
      intro target kt
      refine XS.icmpNo X2.here hx rfl (hb hby d39_16) rfl (teq m3).2 ?_
      exact kt
    obtain ⟨fs, hr, hrun, hended, hW, hsame⟩ := X2.leave (v := some (.int (3 : Int32))) (fun h => by rw [Bd.returns] at h; cases h)
    refine ⟨_, _, pre0 _ (st1 _ (st2 _ (st3 _ (st4 _ ?_)))), hrun, hended, _, _, rfl, ?_, ⟨_, rfl⟩, hW, hsame.mono (by decide) (by decide)⟩
    · refine XS.iload X2.here hx rfl (hb hby d39_19) rfl ?_
      show Steps p.tables e below (T2.setTop (mkF m 21 #[.val (.ref r0), .val (.int (44 : Int32)), .val (.int (3 : Int32)), .val (.int (4 : Int32)), .val (.int (3 : Int32))] [(.int (3 : Int32))])) _
      exact retI X2 hx Bd.returns (hb hby d39_21) hr
    · show Q_rmIx3_U4 Z r0 cs fm ky c0 c1 c2 c3 h0 n0 _ T2.heap _
      rw [e2]
      exact ⟨_, iff_of_false (by decide) (by simp [m3]), rfl, N2, rfl⟩
  · have st5 : own_S p e below T2 (mkF m 22 #[.val (.ref r0), .val (.int (44 : Int32)), .val (.int (3 : Int32)), .val (.int (4 : Int32)), .val (.int (3 : Int32))] []) (mkF m 16 #[.val (.ref r0), .val (.int (44 : Int32)), .val (.int (3 : Int32)), .val (.int (4 : Int32)), .val (.int (3 : Int32))] [(.int (44 : Int32)), (.int c3)]) := by
      intro target kt
      refine XS.icmpYes X2.here hx rfl (pc0 := 16) (pc' := 22) rfl (hb hby d39_16) rfl (feq m3).2 (by decide) (by decide) ?_
      exact kt
    have st6 : own_S p e below T2 (mkF m 29 #[.val (.ref r0), .val (.int (44 : Int32)), .val (.int (3 : Int32)), .val (.int (4 : Int32)), .val (.int (4 : Int32))] [(.int (-1 : Int32))]) (mkF m 22 #[.val (.ref r0), .val (.int (44 : Int32)), .val (.int (3 : Int32)), .val (.int (4 : Int32)), .val (.int (3 : Int32))] []) := by
      intro target kt
      refine XS.iinc X2.here hx rfl (hb hby d39_22) rfl (l' := #[.val (.ref r0), .val (.int (44 : Int32)), .val (.int (3 : Int32)), .val (.int (4 : Int32)), .val (.int (4 : Int32))]) rfl ?_
      refine XS.goto X2.here hx rfl (pc0 := 25) (pc' := 3) rfl (hb hby d39_25) (by decide) (by decide) ?_
      refine XS.iload X2.here hx rfl (hb hby d39_3) rfl ?_
      refine XS.iloadN X2.here hx rfl (hb hby d39_5) rfl ?_
      refine XS.icmpYes X2.here hx rfl (pc0 := 6) (pc' := 28) rfl (hb hby d39_6) rfl (flt (by decide : ¬ ((4 : Int32) < (4 : Int32)))).2.1 (by decide) (by decide) ?_
      refine XS.iconst X2.here hx rfl (hb hby d39_28) ?_
      exact kt
    obtain ⟨fs, hr, hrun, hended, hW, hsame⟩ := X2.leave (v := some (.int (-1 : Int32))) (fun h => by rw [Bd.returns] at h; cases h)
    refine ⟨_, _, pre0 _ (st1 _ (st2 _ (st3 _ (st5 _ (st6 _ ?_))))), hrun, hended, _, _, rfl, ?_, ⟨_, rfl⟩, hW, hsame.mono (by decide) (by decide)⟩
    · show Steps p.tables e below (T2.setTop (mkF m 29 #[.val (.ref r0), .val (.int (44 : Int32)), .val (.int (3 : Int32)), .val (.int (4 : Int32)), .val (.int (4 : Int32))] [(.int (-1 : Int32))])) _
      exact retI X2 hx Bd.returns (hb hby d39_29) hr
    · show Q_rmIx3_U4 Z r0 cs fm ky c0 c1 c2 c3 h0 n0 _ T2.heap _
      rw [e2]
      exact ⟨_, iff_of_true (by decide) (by simp [m3]), rfl, N2, rfl⟩
theorem ef_rmUcb3_U4 (m : MethodId) (x0 : Int32) (x1 : Int32) (x2 : Addr) : entryFrame m #[(.int x0), (.int x1), (.ref x2)] 3 = mkF m 0 #[.val (.int x0), .val (.int x1), .val (.ref x2)] [] := by first | (simp [entryFrame, mkF, argsToLocals, Value.category]; done) | rfl
def Q_rmUcb3_U4 (Z : State) (r2 : Addr) (cs : Int32) (fm : Value) (ky : ClassId) (c0 : Int32) (c1 : Int32) (c2 : Int32) (c3 : Int32) (h0 : Heap) (n0 : Nat) (v : Option Value) (h : Heap) (L : List Loc) : Prop := v = none ∧ Fr n0 L ∧ h = h0
set_option maxRecDepth 65536 in
set_option maxHeartbeats 40000000 in
theorem rmUcb3_U4 (l : Launch) (Z : State) (a0 : Array Value) (hw : ∀ d ∈ tables_1, d.before a0 Z = true) (ws : List Jvm.Cond) (r2 : Addr) (cs : Int32) (fm : Value) (ky : ClassId) (c0 : Int32) (c1 : Int32) (c2 : Int32) (c3 : Int32) (h0 : Heap) (n0 : Nat) (Z0 : n0 ≤ h0.size) (SB : own_St Z cs fm) (Od : Old Z n0 h0) (Vy : Arv Z h0 r2 ky .byte (8 : Int32) [(.int (own_lo c0)), (.int (own_hi c0)), (.int (own_lo c1)), (.int (own_hi c1)), (.int (own_lo c2)), (.int (own_hi c2)), (.int (own_lo c3)), (.int (own_hi c3))] (.int (0 : Int32))) :
    MetFree l (⟨"java/lang/StringUTF16", "checkBoundsBeginEnd", "(II[B)V"⟩ : MethodName) (head1 (Jvm.Cond.code (⟨"java/lang/StringUTF16", "checkBoundsBeginEnd", "(II[B)V"⟩ : MethodName) jdk_52_method_93_code 3 none :: ws) ({ frames := 2, cells := 0, slots := 0, locals := 29 } : Room)) (fun a U => a = #[(.int (3 : Int32)), (.int (4 : Int32)), (.ref r2)] ∧ Z.Warmed39 U.vm ∧ U.heap = h0) (fun _ _ _ _ _ => True) (fun _ U o U' => ∃ v L, o = .returned v ∧ Q_rmUcb3_U4 Z r2 cs fm ky c0 c1 c2 c3 h0 n0 v U'.heap L ∧ FrameEnd U o U' L ({ frames := 2, cells := 0, slots := 0, locals := 29 } : Room).cells ({ frames := 2, cells := 0, slots := 0, locals := 29 } : Room).slots) := by
  refine MetFree.of_bodySF (plainFor_of_name pn_0) hisR ?_
  intro p e s m args below meth c s₁ Bd hml0 hP hK
  obtain ⟨rfl, hZ, hh⟩ := hP
  have hx := Bd.exec
  have hby := Bd.bytes
  have hml : c.maxLocals = 3 := hml0
  have hown : s.vm.findClass "java/lang/StringUTF16" = some m.cls := findClass_of_methodNamed Bd.named
  have hnm := (name_of_methodNamed Bd.named Bd.method).1
  have X0 : Stand p l e ({ frames := 2, cells := 0, slots := 0, locals := 29 } : Room) s m #[(.int (3 : Int32)), (.int (4 : Int32)), (.ref r2)] below meth c s₁ [] 0 0 := Stand.of_body Bd
  have e0 : s₁.heap = h0 := by rw [← hh, Bd.state]; rfl
  have N0 := Fr.nil n0
  have pre0 : ∀ t, Steps p.tables e below (s₁.setTop (mkF m 0 #[.val (.int (3 : Int32)), .val (.int (4 : Int32)), .val (.ref r2)] [])) t → Steps p.tables e below (s₁.setTop (entryFrame m #[(.int (3 : Int32)), (.int (4 : Int32)), (.ref r2)] 3)) t := fun t k => castTop (ef_rmUcb3_U4 m (3 : Int32) (4 : Int32) r2) k
  have st1 : own_S p e below s₁ (mkF m 3 #[.val (.int (3 : Int32)), .val (.int (4 : Int32)), .val (.ref r2)] [(.ref r2), (.int (4 : Int32)), (.int (3 : Int32))]) (mkF m 0 #[.val (.int (3 : Int32)), .val (.int (4 : Int32)), .val (.ref r2)] []) := by
    intro target kt
    refine XS.iloadN X0.here hx rfl (hb hby d36_0) rfl ?_
    refine XS.iloadN X0.here hx rfl (hb hby d36_1) rfl ?_
    refine XS.aloadN X0.here hx rfl (hb hby d36_2) rfl rfl ?_
    exact kt
  obtain ⟨_, _, ⟨T2, L2, k2, n2⟩, -, X2, ⟨Lc2, hQ2, l2, y2, z2⟩, st2⟩ := Jvm.LawKit.callS X0 hx (y := (⟨"java/lang/StringUTF16", "length", "([B)I"⟩ : MethodName)) hown (mvT hZ (own_w hw 152 rfl)) (mvT hZ (own_w hw 153 rfl)) (mvT hZ (own_w hw 24 rfl)) (mvT hZ (own_w hw 154 rfl)) (by decide) (backOf (W := 2) (rmUlen_U4 l Z a0 hw [] r2 cs fm ky c0 c1 c2 c3 h0 n0 Z0 SB Od Vy) hZ (own_w hw 154 rfl) (own_w hw 24 rfl) (by decide) (by decide)) (g := (mkF m 3 #[.val (.int (3 : Int32)), .val (.int (4 : Int32)), .val (.ref r2)] [(.ref r2), (.int (4 : Int32)), (.int (3 : Int32))])) rfl (by rw [hml]; rfl) (argsL := [(.ref r2)]) (rest := [(.int (4 : Int32)), (.int (3 : Int32))]) (lenOf pd_24 rfl) rfl (by show 2 * 0 + _ ≤ _; exact Nat.le_of_eq rfl) (hb hby d36_3) (fun _ _ => ⟨rfl, e0, (by decide : 0 + 0 ≤ _), (by decide : 0 + 0 ≤ _)⟩)
  dsimp only [Pt.U, Pt.locs, Pt.cells, Pt.slots] at X2 l2 y2 z2 st2 hQ2
  subst l2 y2 z2
  obtain ⟨rfl, Nq2, e2⟩ := hQ2
  have N2 := Fr.app N0 Nq2
  obtain ⟨_, _, ⟨T3, L3, k3, n3⟩, -, X3, ⟨Lc3, hQ3, l3, y3, z3⟩, st3⟩ := Jvm.LawKit.callS X2 hx (y := (⟨"java/lang/String", "checkBoundsBeginEnd", "(III)V"⟩ : MethodName)) hown (mvT hZ (own_w hw 168 rfl)) (mvT hZ (own_w hw 169 rfl)) (mvT hZ (own_w hw 10 rfl)) (mvT hZ (own_w hw 170 rfl)) (by decide) (backOf (W := 0) (rmScb l Z a0 hw [] (3 : Int32) (4 : Int32) (4 : Int32) cs fm h0 n0 Z0 SB Od (by decide) (by decide) (by decide)) hZ (own_w hw 170 rfl) (own_w hw 10 rfl) (by decide) (by decide)) (g := (mkF m 6 #[.val (.int (3 : Int32)), .val (.int (4 : Int32)), .val (.ref r2)] [(.int (4 : Int32)), (.int (4 : Int32)), (.int (3 : Int32))])) rfl (by rw [hml]; rfl) (argsL := [(.int (3 : Int32)), (.int (4 : Int32)), (.int (4 : Int32))]) (rest := []) (lenOf pd_26 rfl) rfl (by show 2 * 0 + _ ≤ _; exact Nat.le_of_eq rfl) (hb hby d36_6) (fun _ _ => ⟨rfl, e2, (by decide : 0 + 0 ≤ _), (by decide : 0 + 0 ≤ _)⟩)
  dsimp only [Pt.U, Pt.locs, Pt.cells, Pt.slots] at X3 l3 y3 z3 st3 hQ3
  subst l3 y3 z3
  obtain ⟨rfl, Nq3, e3⟩ := hQ3
  have N3 := Fr.app N2 Nq3
  obtain ⟨fs, hr, hrun, hended, hW, hsame⟩ := X3.leave (v := none) (fun _ => rfl)
  refine ⟨_, _, pre0 _ (st1 _ (st2 _ (st3 _ ?_))), hrun, hended, _, _, rfl, ?_, ⟨_, rfl⟩, hW, hsame.mono (by decide) (by decide)⟩
  · show Steps p.tables e below (T3.setTop (mkF m 9 #[.val (.int (3 : Int32)), .val (.int (4 : Int32)), .val (.ref r2)] [])) _
    exact X3.returnOut hx Bd.returns (hb hby d36_9) hr
  · show Q_rmUcb3_U4 Z r2 cs fm ky c0 c1 c2 c3 h0 n0 _ T3.heap _
    rw [e3]
    exact ⟨rfl, N3, rfl⟩
theorem ef_rmUix3_U4 (m : MethodId) (x0 : Addr) (x1 : Int32) (x2 : Int32) (x3 : Int32) : entryFrame m #[(.ref x0), (.int x1), (.int x2), (.int x3)] 4 = mkF m 0 #[.val (.ref x0), .val (.int x1), .val (.int x2), .val (.int x3)] [] := by first | (simp [entryFrame, mkF, argsToLocals, Value.category]; done) | rfl
def Q_rmUix3_U4 (Z : State) (r0 : Addr) (cs : Int32) (fm : Value) (ky : ClassId) (c0 : Int32) (c1 : Int32) (c2 : Int32) (c3 : Int32) (h0 : Heap) (n0 : Nat) (v : Option Value) (h : Heap) (L : List Loc) : Prop := ∃ z : Int32, (z < 0 ↔ ¬ (c3 = 44 ∨ False)) ∧ v = some (.int z) ∧ Fr n0 L ∧ h = h0
set_option maxRecDepth 65536 in
set_option maxHeartbeats 40000000 in
theorem rmUix3_U4 (l : Launch) (Z : State) (a0 : Array Value) (hw : ∀ d ∈ tables_1, d.before a0 Z = true) (ws : List Jvm.Cond) (r0 : Addr) (cs : Int32) (fm : Value) (ky : ClassId) (c0 : Int32) (c1 : Int32) (c2 : Int32) (c3 : Int32) (h0 : Heap) (n0 : Nat) (Z0 : n0 ≤ h0.size) (SB : own_St Z cs fm) (Od : Old Z n0 h0) (Vy : Arv Z h0 r0 ky .byte (8 : Int32) [(.int (own_lo c0)), (.int (own_hi c0)), (.int (own_lo c1)), (.int (own_hi c1)), (.int (own_lo c2)), (.int (own_hi c2)), (.int (own_lo c3)), (.int (own_hi c3))] (.int (0 : Int32))) (hc3_ : 0 ≤ c3.toInt ∧ c3.toInt < 65536) :
    MetFree l (⟨"java/lang/StringUTF16", "indexOfChar", "([BIII)I"⟩ : MethodName) (head1 (Jvm.Cond.code (⟨"java/lang/StringUTF16", "indexOfChar", "([BIII)I"⟩ : MethodName) jdk_52_method_47_code 4 (some .int) :: ws) ({ frames := 3, cells := 0, slots := 0, locals := 43 } : Room)) (fun a U => a = #[(.ref r0), (.int (44 : Int32)), (.int (3 : Int32)), (.int (4 : Int32))] ∧ Z.Warmed39 U.vm ∧ U.heap = h0) (fun _ _ _ _ _ => True) (fun _ U o U' => ∃ v L, o = .returned v ∧ Q_rmUix3_U4 Z r0 cs fm ky c0 c1 c2 c3 h0 n0 v U'.heap L ∧ FrameEnd U o U' L ({ frames := 3, cells := 0, slots := 0, locals := 43 } : Room).cells ({ frames := 3, cells := 0, slots := 0, locals := 43 } : Room).slots) := by
  refine MetFree.of_bodySF (plainFor_of_name pn_0) hisR ?_
  intro p e s m args below meth c s₁ Bd hml0 hP hK
  obtain ⟨rfl, hZ, hh⟩ := hP
  have hx := Bd.exec
  have hby := Bd.bytes
  have hml : c.maxLocals = 4 := hml0
  have hown : s.vm.findClass "java/lang/StringUTF16" = some m.cls := findClass_of_methodNamed Bd.named
  have hnm := (name_of_methodNamed Bd.named Bd.method).1
  have X0 : Stand p l e ({ frames := 3, cells := 0, slots := 0, locals := 43 } : Room) s m #[(.ref r0), (.int (44 : Int32)), (.int (3 : Int32)), (.int (4 : Int32))] below meth c s₁ [] 0 0 := Stand.of_body Bd
  have e0 : s₁.heap = h0 := by rw [← hh, Bd.state]; rfl
  have N0 := Fr.nil n0
  have pre0 : ∀ t, Steps p.tables e below (s₁.setTop (mkF m 0 #[.val (.ref r0), .val (.int (44 : Int32)), .val (.int (3 : Int32)), .val (.int (4 : Int32))] [])) t → Steps p.tables e below (s₁.setTop (entryFrame m #[(.ref r0), (.int (44 : Int32)), (.int (3 : Int32)), (.int (4 : Int32))] 4)) t := fun t k => castTop (ef_rmUix3_U4 m r0 (44 : Int32) (3 : Int32) (4 : Int32)) k
  have st1 : own_S p e below s₁ (mkF m 3 #[.val (.ref r0), .val (.int (44 : Int32)), .val (.int (3 : Int32)), .val (.int (4 : Int32))] [(.ref r0), (.int (4 : Int32)), (.int (3 : Int32))]) (mkF m 0 #[.val (.ref r0), .val (.int (44 : Int32)), .val (.int (3 : Int32)), .val (.int (4 : Int32))] []) := by
    intro target kt
    refine XS.iloadN X0.here hx rfl (hb hby d35_0) rfl ?_
    refine XS.iloadN X0.here hx rfl (hb hby d35_1) rfl ?_
    refine XS.aloadN X0.here hx rfl (hb hby d35_2) rfl rfl ?_
    exact kt
  obtain ⟨_, _, ⟨T2, L2, k2, n2⟩, -, X2, ⟨Lc2, hQ2, l2, y2, z2⟩, st2⟩ := Jvm.LawKit.callS X0 hx (y := (⟨"java/lang/StringUTF16", "checkBoundsBeginEnd", "(II[B)V"⟩ : MethodName)) hown (mvT hZ (own_w hw 165 rfl)) (mvT hZ (own_w hw 166 rfl)) (mvT hZ (own_w hw 24 rfl)) (mvT hZ (own_w hw 167 rfl)) (by decide) (backOf (W := 0) (rmUcb3_U4 l Z a0 hw [] r0 cs fm ky c0 c1 c2 c3 h0 n0 Z0 SB Od Vy) hZ (own_w hw 167 rfl) (own_w hw 24 rfl) (by decide) (by decide)) (g := (mkF m 3 #[.val (.ref r0), .val (.int (44 : Int32)), .val (.int (3 : Int32)), .val (.int (4 : Int32))] [(.ref r0), (.int (4 : Int32)), (.int (3 : Int32))])) rfl (by rw [hml]; rfl) (argsL := [(.int (3 : Int32)), (.int (4 : Int32)), (.ref r0)]) (rest := []) (lenOf pd_25 rfl) rfl (by show 2 * 0 + _ ≤ _; exact Nat.le_of_eq rfl) (hb hby d35_3) (fun _ _ => ⟨rfl, e0, (by decide : 0 + 0 ≤ _), (by decide : 0 + 0 ≤ _)⟩)
  dsimp only [Pt.U, Pt.locs, Pt.cells, Pt.slots] at X2 l2 y2 z2 st2 hQ2
  subst l2 y2 z2
  obtain ⟨rfl, Nq2, e2⟩ := hQ2
  have N2 := Fr.app N0 Nq2
  have st3 : own_S p e below T2 (mkF m 10 #[.val (.ref r0), .val (.int (44 : Int32)), .val (.int (3 : Int32)), .val (.int (4 : Int32))] [(.int (4 : Int32)), (.int (3 : Int32)), (.int (44 : Int32)), (.ref r0)]) (mkF m 6 #[.val (.ref r0), .val (.int (44 : Int32)), .val (.int (3 : Int32)), .val (.int (4 : Int32))] []) := by
    intro target kt
    refine XS.aloadN X2.here hx rfl (hb hby d35_6) rfl rfl ?_
    refine XS.iloadN X2.here hx rfl (hb hby d35_7) rfl ?_
    refine XS.iloadN X2.here hx rfl (hb hby d35_8) rfl ?_
    refine XS.iloadN X2.here hx rfl (hb hby d35_9) rfl ?_
    exact kt
  obtain ⟨_, _, ⟨T4, L4, k4, n4⟩, -, X4, ⟨Lc4, hQ4, l4, y4, z4⟩, st4⟩ := Jvm.LawKit.callS X2 hx (y := (⟨"java/lang/StringUTF16", "indexOfCharUnsafe", "([BIII)I"⟩ : MethodName)) hown (mvT hZ (own_w hw 174 rfl)) (mvT hZ (own_w hw 175 rfl)) (mvT hZ (own_w hw 24 rfl)) (mvT hZ (own_w hw 176 rfl)) (by decide) (backOf (W := 0) (rmIx3_U4 l Z a0 hw [] r0 cs fm ky c0 c1 c2 c3 h0 n0 Z0 SB Od Vy hc3_) hZ (own_w hw 176 rfl) (own_w hw 24 rfl) (by decide) (by decide)) (g := (mkF m 10 #[.val (.ref r0), .val (.int (44 : Int32)), .val (.int (3 : Int32)), .val (.int (4 : Int32))] [(.int (4 : Int32)), (.int (3 : Int32)), (.int (44 : Int32)), (.ref r0)])) rfl (by rw [hml]; rfl) (argsL := [(.ref r0), (.int (44 : Int32)), (.int (3 : Int32)), (.int (4 : Int32))]) (rest := []) (lenOf pd_18 rfl) rfl (by show 2 * 0 + _ ≤ _; exact Nat.le_of_eq rfl) (hb hby d35_10) (fun _ _ => ⟨rfl, e2, (by decide : 0 + 0 ≤ _), (by decide : 0 + 0 ≤ _)⟩)
  dsimp only [Pt.U, Pt.locs, Pt.cells, Pt.slots] at X4 l4 y4 z4 st4 hQ4
  subst l4 y4 z4
  obtain ⟨z4, hz4, rfl, Nq4, e4⟩ := hQ4
  have N4 := Fr.app N2 Nq4
  obtain ⟨fs, hr, hrun, hended, hW, hsame⟩ := X4.leave (v := some (.int z4)) (fun h => by rw [Bd.returns] at h; cases h)
  refine ⟨_, _, pre0 _ (st1 _ (st2 _ (st3 _ (st4 _ ?_)))), hrun, hended, _, _, rfl, ?_, ⟨_, rfl⟩, hW, hsame.mono (by decide) (by decide)⟩
  · show Steps p.tables e below (T4.setTop (mkF m 13 #[.val (.ref r0), .val (.int (44 : Int32)), .val (.int (3 : Int32)), .val (.int (4 : Int32))] [(.int z4)])) _
    exact retI X4 hx Bd.returns (hb hby d35_13) hr
  · show Q_rmUix3_U4 Z r0 cs fm ky c0 c1 c2 c3 h0 n0 _ T4.heap _
    rw [e4]
    exact ⟨_, hz4, rfl, N4, rfl⟩
theorem ef_rmAio3_U4 (m : MethodId) (x0 : Addr) (x1 : Int32) (x2 : Int32) (x3 : Int32) : entryFrame m #[(.ref x0), (.int x1), (.int x2), (.int x3)] 4 = mkF m 0 #[.val (.ref x0), .val (.int x1), .val (.int x2), .val (.int x3)] [] := by first | (simp [entryFrame, mkF, argsToLocals, Value.category]; done) | rfl
def Q_rmAio3_U4 (Z : State) (r0 : Addr) (cs : Int32) (fm : Value) (ky : ClassId) (c0 : Int32) (c1 : Int32) (c2 : Int32) (c3 : Int32) (h0 : Heap) (n0 : Nat) (v : Option Value) (h : Heap) (L : List Loc) : Prop := ∃ z : Int32, (z < 0 ↔ ¬ (c3 = 44 ∨ False)) ∧ v = some (.int z) ∧ Fr n0 L ∧ h = h0
set_option maxRecDepth 65536 in
set_option maxHeartbeats 40000000 in
theorem rmAio3_U4 (l : Launch) (Z : State) (a0 : Array Value) (hw : ∀ d ∈ tables_1, d.before a0 Z = true) (ws : List Jvm.Cond) (r0 : Addr) (cs : Int32) (fm : Value) (ky : ClassId) (c0 : Int32) (c1 : Int32) (c2 : Int32) (c3 : Int32) (h0 : Heap) (n0 : Nat) (Z0 : n0 ≤ h0.size) (SB : own_St Z cs fm) (Od : Old Z n0 h0) (Vy : Arv Z h0 r0 ky .byte (8 : Int32) [(.int (own_lo c0)), (.int (own_hi c0)), (.int (own_lo c1)), (.int (own_hi c1)), (.int (own_lo c2)), (.int (own_hi c2)), (.int (own_lo c3)), (.int (own_hi c3))] (.int (0 : Int32))) (hc3_ : 0 ≤ c3.toInt ∧ c3.toInt < 65536) :
    MetFree l (⟨"java/lang/StringUTF16", "indexOf", "([BIII)I"⟩ : MethodName) (head1 (Jvm.Cond.code (⟨"java/lang/StringUTF16", "indexOf", "([BIII)I"⟩ : MethodName) jdk_52_method_40_code 4 (some .int) :: ws) ({ frames := 4, cells := 0, slots := 0, locals := 58 } : Room)) (fun a U => a = #[(.ref r0), (.int (44 : Int32)), (.int (3 : Int32)), (.int (4 : Int32))] ∧ Z.Warmed39 U.vm ∧ U.heap = h0) (fun _ _ _ _ _ => True) (fun _ U o U' => ∃ v L, o = .returned v ∧ Q_rmAio3_U4 Z r0 cs fm ky c0 c1 c2 c3 h0 n0 v U'.heap L ∧ FrameEnd U o U' L ({ frames := 4, cells := 0, slots := 0, locals := 58 } : Room).cells ({ frames := 4, cells := 0, slots := 0, locals := 58 } : Room).slots) := by
  refine MetFree.of_bodySF (plainFor_of_name pn_0) hisR ?_
  intro p e s m args below meth c s₁ Bd hml0 hP hK
  obtain ⟨rfl, hZ, hh⟩ := hP
  have hx := Bd.exec
  have hby := Bd.bytes
  have hml : c.maxLocals = 4 := hml0
  have hown : s.vm.findClass "java/lang/StringUTF16" = some m.cls := findClass_of_methodNamed Bd.named
  have hnm := (name_of_methodNamed Bd.named Bd.method).1
  have X0 : Stand p l e ({ frames := 4, cells := 0, slots := 0, locals := 58 } : Room) s m #[(.ref r0), (.int (44 : Int32)), (.int (3 : Int32)), (.int (4 : Int32))] below meth c s₁ [] 0 0 := Stand.of_body Bd
  have e0 : s₁.heap = h0 := by rw [← hh, Bd.state]; rfl
  have N0 := Fr.nil n0
  have pre0 : ∀ t, Steps p.tables e below (s₁.setTop (mkF m 0 #[.val (.ref r0), .val (.int (44 : Int32)), .val (.int (3 : Int32)), .val (.int (4 : Int32))] [])) t → Steps p.tables e below (s₁.setTop (entryFrame m #[(.ref r0), (.int (44 : Int32)), (.int (3 : Int32)), (.int (4 : Int32))] 4)) t := fun t k => castTop (ef_rmAio3_U4 m r0 (44 : Int32) (3 : Int32) (4 : Int32)) k
  have st1 : own_S p e below s₁ (mkF m 2 #[.val (.ref r0), .val (.int (44 : Int32)), .val (.int (3 : Int32)), .val (.int (4 : Int32))] [(.int (0 : Int32)), (.int (3 : Int32))]) (mkF m 0 #[.val (.ref r0), .val (.int (44 : Int32)), .val (.int (3 : Int32)), .val (.int (4 : Int32))] []) := by
    intro target kt
    refine XS.iloadN X0.here hx rfl (hb hby d34_0) rfl ?_
    refine XS.iconst X0.here hx rfl (hb hby d34_1) ?_
    exact kt
  obtain ⟨_, _, ⟨T2, L2, k2, n2⟩, -, X2, ⟨Lc2, hQ2, l2, y2, z2⟩, st2⟩ := Jvm.LawKit.callS X0 hx (y := (⟨"java/lang/Math", "max", "(II)I"⟩ : MethodName)) hown (mvT hZ (own_w hw 159 rfl)) (mvT hZ (own_w hw 118 rfl)) (mvT hZ (own_w hw 119 rfl)) (mvT hZ (own_w hw 120 rfl)) (by decide) (backOf (W := 0) (rm23 l Z a0 hw [] (3 : Int32) (0 : Int32)  h0 n0 Z0 ) hZ (own_w hw 120 rfl) (own_w hw 119 rfl) (by decide) (by decide)) (g := (mkF m 2 #[.val (.ref r0), .val (.int (44 : Int32)), .val (.int (3 : Int32)), .val (.int (4 : Int32))] [(.int (0 : Int32)), (.int (3 : Int32))])) rfl (by rw [hml]; rfl) (argsL := [(.int (3 : Int32)), (.int (0 : Int32))]) (rest := []) (lenOf pd_17 rfl) rfl (by show 2 * 0 + _ ≤ _; exact Nat.le_of_eq rfl) (hb hby d34_2) (fun _ _ => ⟨rfl, e0, (by decide : 0 + 0 ≤ _), (by decide : 0 + 0 ≤ _)⟩)
  dsimp only [Pt.U, Pt.locs, Pt.cells, Pt.slots] at X2 l2 y2 z2 st2 hQ2
  subst l2 y2 z2
  obtain ⟨rfl, Nq2, e2⟩ := hQ2
  have N2 := Fr.app N0 Nq2
  rw [if_neg (by decide)] at st2
  have st3 : own_S p e below T2 (mkF m 8 #[.val (.ref r0), .val (.int (44 : Int32)), .val (.int (3 : Int32)), .val (.int (4 : Int32))] [(.ref r0), (.int (4 : Int32))]) (mkF m 5 #[.val (.ref r0), .val (.int (44 : Int32)), .val (.int (3 : Int32)), .val (.int (4 : Int32))] [(.int (3 : Int32))]) := by
    intro target kt
    refine XS.istoreN X2.here hx rfl (hb hby d34_5) rfl (l' := #[.val (.ref r0), .val (.int (44 : Int32)), .val (.int (3 : Int32)), .val (.int (4 : Int32))]) rfl ?_
    refine XS.iloadN X2.here hx rfl (hb hby d34_6) rfl ?_
    refine XS.aloadN X2.here hx rfl (hb hby d34_7) rfl rfl ?_
    exact kt
  obtain ⟨cl4, Ar4, qc4, Sz4, Mn4, Hs4, Gs4⟩ := id Vy
  have st4 : own_S p e below T2 (mkF m 9 #[.val (.ref r0), .val (.int (44 : Int32)), .val (.int (3 : Int32)), .val (.int (4 : Int32))] [(.int (8 : Int32)), (.int (4 : Int32))]) (mkF m 8 #[.val (.ref r0), .val (.int (44 : Int32)), .val (.int (3 : Int32)), .val (.int (4 : Int32))] [(.ref r0), (.int (4 : Int32))]) := fun target kt => X2.arraylength hx (cell := cl4) (by rw [e2]; exact Ar4.1) (State.isArrayOf_alike hZ.alike Ar4.2.1) (g := (mkF m 8 #[.val (.ref r0), .val (.int (44 : Int32)), .val (.int (3 : Int32)), .val (.int (4 : Int32))] [(.ref r0), (.int (4 : Int32))])) rfl rfl (hb hby d34_8) _ (by rw [len_of Sz4 Mn4]; exact kt)
  have st5 : own_S p e below T2 (mkF m 11 #[.val (.ref r0), .val (.int (44 : Int32)), .val (.int (3 : Int32)), .val (.int (4 : Int32))] [(.int (4 : Int32)), (.int (4 : Int32))]) (mkF m 9 #[.val (.ref r0), .val (.int (44 : Int32)), .val (.int (3 : Int32)), .val (.int (4 : Int32))] [(.int (8 : Int32)), (.int (4 : Int32))]) := by
    intro target kt
    refine XS.iconst X2.here hx rfl (hb hby d34_9) ?_
    refine XS.ishr X2.here hx rfl (hb hby d34_10) rfl ?_
    exact kt
  obtain ⟨_, _, ⟨T6, L6, k6, n6⟩, -, X6, ⟨Lc6, hQ6, l6, y6, z6⟩, st6⟩ := Jvm.LawKit.callS X2 hx (y := (⟨"java/lang/Math", "min", "(II)I"⟩ : MethodName)) hown (mvT hZ (own_w hw 160 rfl)) (mvT hZ (own_w hw 122 rfl)) (mvT hZ (own_w hw 119 rfl)) (mvT hZ (own_w hw 123 rfl)) (by decide) (backOf (W := 0) (rm24 l Z a0 hw [] (4 : Int32) (4 : Int32)  h0 n0 Z0 ) hZ (own_w hw 123 rfl) (own_w hw 119 rfl) (by decide) (by decide)) (g := (mkF m 11 #[.val (.ref r0), .val (.int (44 : Int32)), .val (.int (3 : Int32)), .val (.int (4 : Int32))] [(.int (4 : Int32)), (.int (4 : Int32))])) rfl (by rw [hml]; rfl) (argsL := [(.int (4 : Int32)), (.int (4 : Int32))]) (rest := []) (lenOf pd_17 rfl) rfl (by show 2 * 0 + _ ≤ _; exact Nat.le_of_eq rfl) (hb hby d34_11) (fun _ _ => ⟨rfl, e2, (by decide : 0 + 0 ≤ _), (by decide : 0 + 0 ≤ _)⟩)
  dsimp only [Pt.U, Pt.locs, Pt.cells, Pt.slots] at X6 l6 y6 z6 st6 hQ6
  subst l6 y6 z6
  obtain ⟨rfl, Nq6, e6⟩ := hQ6
  have N6 := Fr.app N2 Nq6
  rw [if_neg (by decide)] at st6
  have st7 : own_S p e below T6 (mkF m 32 #[.val (.ref r0), .val (.int (44 : Int32)), .val (.int (3 : Int32)), .val (.int (4 : Int32))] [(.int (4 : Int32)), (.int (3 : Int32)), (.int (44 : Int32)), (.ref r0)]) (mkF m 14 #[.val (.ref r0), .val (.int (44 : Int32)), .val (.int (3 : Int32)), .val (.int (4 : Int32))] [(.int (4 : Int32))]) := by
    intro target kt
    refine XS.istoreN X6.here hx rfl (hb hby d34_14) rfl (l' := #[.val (.ref r0), .val (.int (44 : Int32)), .val (.int (3 : Int32)), .val (.int (4 : Int32))]) rfl ?_
    refine XS.iloadN X6.here hx rfl (hb hby d34_15) rfl ?_
    refine XS.iloadN X6.here hx rfl (hb hby d34_16) rfl ?_
    refine XS.icmpYes X6.here hx rfl (pc0 := 17) (pc' := 22) rfl (hb hby d34_17) rfl (tlt (by decide : ((3 : Int32) < (4 : Int32)))).1 (by decide) (by decide) ?_
    refine XS.iloadN X6.here hx rfl (hb hby d34_22) rfl ?_
    refine X6.ldcInt hx hown (mvT hZ (own_w hw 161 rfl)) (g := (mkF m 23 #[.val (.ref r0), .val (.int (44 : Int32)), .val (.int (3 : Int32)), .val (.int (4 : Int32))] [(.int (44 : Int32))])) rfl (hb hby d34_23) _ ?_
    refine XS.icmpNo X6.here hx rfl (hb hby d34_25) rfl (tlt (by decide : ((44 : Int32) < (65536 : Int32)))).2.1 ?_
    refine XS.aloadN X6.here hx rfl (hb hby d34_28) rfl rfl ?_
    refine XS.iloadN X6.here hx rfl (hb hby d34_29) rfl ?_
    refine XS.iloadN X6.here hx rfl (hb hby d34_30) rfl ?_
    refine XS.iloadN X6.here hx rfl (hb hby d34_31) rfl ?_
    exact kt
  obtain ⟨_, _, ⟨T8, L8, k8, n8⟩, -, X8, ⟨Lc8, hQ8, l8, y8, z8⟩, st8⟩ := Jvm.LawKit.callS X6 hx (y := (⟨"java/lang/StringUTF16", "indexOfChar", "([BIII)I"⟩ : MethodName)) hown (mvT hZ (own_w hw 162 rfl)) (mvT hZ (own_w hw 163 rfl)) (mvT hZ (own_w hw 24 rfl)) (mvT hZ (own_w hw 164 rfl)) (by decide) (backOf (W := 0) (rmUix3_U4 l Z a0 hw [] r0 cs fm ky c0 c1 c2 c3 h0 n0 Z0 SB Od Vy hc3_) hZ (own_w hw 164 rfl) (own_w hw 24 rfl) (by decide) (by decide)) (g := (mkF m 32 #[.val (.ref r0), .val (.int (44 : Int32)), .val (.int (3 : Int32)), .val (.int (4 : Int32))] [(.int (4 : Int32)), (.int (3 : Int32)), (.int (44 : Int32)), (.ref r0)])) rfl (by rw [hml]; rfl) (argsL := [(.ref r0), (.int (44 : Int32)), (.int (3 : Int32)), (.int (4 : Int32))]) (rest := []) (lenOf pd_18 rfl) rfl (by show 2 * 0 + _ ≤ _; exact Nat.le_of_eq rfl) (hb hby d34_32) (fun _ _ => ⟨rfl, e6, (by decide : 0 + 0 ≤ _), (by decide : 0 + 0 ≤ _)⟩)
  dsimp only [Pt.U, Pt.locs, Pt.cells, Pt.slots] at X8 l8 y8 z8 st8 hQ8
  subst l8 y8 z8
  obtain ⟨z8, hz8, rfl, Nq8, e8⟩ := hQ8
  have N8 := Fr.app N6 Nq8
  obtain ⟨fs, hr, hrun, hended, hW, hsame⟩ := X8.leave (v := some (.int z8)) (fun h => by rw [Bd.returns] at h; cases h)
  refine ⟨_, _, pre0 _ (st1 _ (st2 _ (st3 _ (st4 _ (st5 _ (st6 _ (st7 _ (st8 _ ?_)))))))), hrun, hended, _, _, rfl, ?_, ⟨_, rfl⟩, hW, hsame.mono (by decide) (by decide)⟩
  · show Steps p.tables e below (T8.setTop (mkF m 35 #[.val (.ref r0), .val (.int (44 : Int32)), .val (.int (3 : Int32)), .val (.int (4 : Int32))] [(.int z8)])) _
    exact retI X8 hx Bd.returns (hb hby d34_35) hr
  · show Q_rmAio3_U4 Z r0 cs fm ky c0 c1 c2 c3 h0 n0 _ T8.heap _
    rw [e8]
    exact ⟨_, hz8, rfl, N8, rfl⟩
theorem ef_rmAio4_U4 (m : MethodId) (x0 : Addr) (x1 : Int32) (x2 : Int32) (x3 : Int32) : entryFrame m #[(.ref x0), (.int x1), (.int x2), (.int x2)] 4 = mkF m 0 #[.val (.ref x0), .val (.int x1), .val (.int x2), .val (.int x2)] [] := by first | (simp [entryFrame, mkF, argsToLocals, Value.category]; done) | rfl
def Q_rmAio4_U4 (Z : State) (r0 : Addr) (cs : Int32) (fm : Value) (ky : ClassId) (c0 : Int32) (c1 : Int32) (c2 : Int32) (c3 : Int32) (h0 : Heap) (n0 : Nat) (v : Option Value) (h : Heap) (L : List Loc) : Prop := ∃ z : Int32, (z < 0 ↔ ¬ (False)) ∧ v = some (.int z) ∧ Fr n0 L ∧ h = h0
set_option maxRecDepth 65536 in
set_option maxHeartbeats 40000000 in
theorem rmAio4_U4 (l : Launch) (Z : State) (a0 : Array Value) (hw : ∀ d ∈ tables_1, d.before a0 Z = true) (ws : List Jvm.Cond) (r0 : Addr) (cs : Int32) (fm : Value) (ky : ClassId) (c0 : Int32) (c1 : Int32) (c2 : Int32) (c3 : Int32) (h0 : Heap) (n0 : Nat) (Z0 : n0 ≤ h0.size) (SB : own_St Z cs fm) (Od : Old Z n0 h0) (Vy : Arv Z h0 r0 ky .byte (8 : Int32) [(.int (own_lo c0)), (.int (own_hi c0)), (.int (own_lo c1)), (.int (own_hi c1)), (.int (own_lo c2)), (.int (own_hi c2)), (.int (own_lo c3)), (.int (own_hi c3))] (.int (0 : Int32))) :
    MetFree l (⟨"java/lang/StringUTF16", "indexOf", "([BIII)I"⟩ : MethodName) (head1 (Jvm.Cond.code (⟨"java/lang/StringUTF16", "indexOf", "([BIII)I"⟩ : MethodName) jdk_52_method_40_code 4 (some .int) :: ws) ({ frames := 4, cells := 0, slots := 0, locals := 58 } : Room)) (fun a U => a = #[(.ref r0), (.int (44 : Int32)), (.int (4 : Int32)), (.int (4 : Int32))] ∧ Z.Warmed39 U.vm ∧ U.heap = h0) (fun _ _ _ _ _ => True) (fun _ U o U' => ∃ v L, o = .returned v ∧ Q_rmAio4_U4 Z r0 cs fm ky c0 c1 c2 c3 h0 n0 v U'.heap L ∧ FrameEnd U o U' L ({ frames := 4, cells := 0, slots := 0, locals := 58 } : Room).cells ({ frames := 4, cells := 0, slots := 0, locals := 58 } : Room).slots) := by
  refine MetFree.of_bodySF (plainFor_of_name pn_0) hisR ?_
  intro p e s m args below meth c s₁ Bd hml0 hP hK
  obtain ⟨rfl, hZ, hh⟩ := hP
  have hx := Bd.exec
  have hby := Bd.bytes
  have hml : c.maxLocals = 4 := hml0
  have hown : s.vm.findClass "java/lang/StringUTF16" = some m.cls := findClass_of_methodNamed Bd.named
  have hnm := (name_of_methodNamed Bd.named Bd.method).1
  have X0 : Stand p l e ({ frames := 4, cells := 0, slots := 0, locals := 58 } : Room) s m #[(.ref r0), (.int (44 : Int32)), (.int (4 : Int32)), (.int (4 : Int32))] below meth c s₁ [] 0 0 := Stand.of_body Bd
  have e0 : s₁.heap = h0 := by rw [← hh, Bd.state]; rfl
  have N0 := Fr.nil n0
  have pre0 : ∀ t, Steps p.tables e below (s₁.setTop (mkF m 0 #[.val (.ref r0), .val (.int (44 : Int32)), .val (.int (4 : Int32)), .val (.int (4 : Int32))] [])) t → Steps p.tables e below (s₁.setTop (entryFrame m #[(.ref r0), (.int (44 : Int32)), (.int (4 : Int32)), (.int (4 : Int32))] 4)) t := fun t k => castTop (ef_rmAio4_U4 m r0 (44 : Int32) (4 : Int32) (4 : Int32)) k
  have st1 : own_S p e below s₁ (mkF m 2 #[.val (.ref r0), .val (.int (44 : Int32)), .val (.int (4 : Int32)), .val (.int (4 : Int32))] [(.int (0 : Int32)), (.int (4 : Int32))]) (mkF m 0 #[.val (.ref r0), .val (.int (44 : Int32)), .val (.int (4 : Int32)), .val (.int (4 : Int32))] []) := by
    intro target kt
    refine XS.iloadN X0.here hx rfl (hb hby d34_0) rfl ?_
    refine XS.iconst X0.here hx rfl (hb hby d34_1) ?_
    exact kt
  obtain ⟨_, _, ⟨T2, L2, k2, n2⟩, -, X2, ⟨Lc2, hQ2, l2, y2, z2⟩, st2⟩ := Jvm.LawKit.callS X0 hx (y := (⟨"java/lang/Math", "max", "(II)I"⟩ : MethodName)) hown (mvT hZ (own_w hw 159 rfl)) (mvT hZ (own_w hw 118 rfl)) (mvT hZ (own_w hw 119 rfl)) (mvT hZ (own_w hw 120 rfl)) (by decide) (backOf (W := 0) (rm23 l Z a0 hw [] (4 : Int32) (0 : Int32)  h0 n0 Z0 ) hZ (own_w hw 120 rfl) (own_w hw 119 rfl) (by decide) (by decide)) (g := (mkF m 2 #[.val (.ref r0), .val (.int (44 : Int32)), .val (.int (4 : Int32)), .val (.int (4 : Int32))] [(.int (0 : Int32)), (.int (4 : Int32))])) rfl (by rw [hml]; rfl) (argsL := [(.int (4 : Int32)), (.int (0 : Int32))]) (rest := []) (lenOf pd_17 rfl) rfl (by show 2 * 0 + _ ≤ _; exact Nat.le_of_eq rfl) (hb hby d34_2) (fun _ _ => ⟨rfl, e0, (by decide : 0 + 0 ≤ _), (by decide : 0 + 0 ≤ _)⟩)
  dsimp only [Pt.U, Pt.locs, Pt.cells, Pt.slots] at X2 l2 y2 z2 st2 hQ2
  subst l2 y2 z2
  obtain ⟨rfl, Nq2, e2⟩ := hQ2
  have N2 := Fr.app N0 Nq2
  rw [if_neg (by decide)] at st2
  have st3 : own_S p e below T2 (mkF m 8 #[.val (.ref r0), .val (.int (44 : Int32)), .val (.int (4 : Int32)), .val (.int (4 : Int32))] [(.ref r0), (.int (4 : Int32))]) (mkF m 5 #[.val (.ref r0), .val (.int (44 : Int32)), .val (.int (4 : Int32)), .val (.int (4 : Int32))] [(.int (4 : Int32))]) := by
    intro target kt
    refine XS.istoreN X2.here hx rfl (hb hby d34_5) rfl (l' := #[.val (.ref r0), .val (.int (44 : Int32)), .val (.int (4 : Int32)), .val (.int (4 : Int32))]) rfl ?_
    refine XS.iloadN X2.here hx rfl (hb hby d34_6) rfl ?_
    refine XS.aloadN X2.here hx rfl (hb hby d34_7) rfl rfl ?_
    exact kt
  obtain ⟨cl4, Ar4, qc4, Sz4, Mn4, Hs4, Gs4⟩ := id Vy
  have st4 : own_S p e below T2 (mkF m 9 #[.val (.ref r0), .val (.int (44 : Int32)), .val (.int (4 : Int32)), .val (.int (4 : Int32))] [(.int (8 : Int32)), (.int (4 : Int32))]) (mkF m 8 #[.val (.ref r0), .val (.int (44 : Int32)), .val (.int (4 : Int32)), .val (.int (4 : Int32))] [(.ref r0), (.int (4 : Int32))]) := fun target kt => X2.arraylength hx (cell := cl4) (by rw [e2]; exact Ar4.1) (State.isArrayOf_alike hZ.alike Ar4.2.1) (g := (mkF m 8 #[.val (.ref r0), .val (.int (44 : Int32)), .val (.int (4 : Int32)), .val (.int (4 : Int32))] [(.ref r0), (.int (4 : Int32))])) rfl rfl (hb hby d34_8) _ (by rw [len_of Sz4 Mn4]; exact kt)
  have st5 : own_S p e below T2 (mkF m 11 #[.val (.ref r0), .val (.int (44 : Int32)), .val (.int (4 : Int32)), .val (.int (4 : Int32))] [(.int (4 : Int32)), (.int (4 : Int32))]) (mkF m 9 #[.val (.ref r0), .val (.int (44 : Int32)), .val (.int (4 : Int32)), .val (.int (4 : Int32))] [(.int (8 : Int32)), (.int (4 : Int32))]) := by
    intro target kt
    refine XS.iconst X2.here hx rfl (hb hby d34_9) ?_
    refine XS.ishr X2.here hx rfl (hb hby d34_10) rfl ?_
    exact kt
  obtain ⟨_, _, ⟨T6, L6, k6, n6⟩, -, X6, ⟨Lc6, hQ6, l6, y6, z6⟩, st6⟩ := Jvm.LawKit.callS X2 hx (y := (⟨"java/lang/Math", "min", "(II)I"⟩ : MethodName)) hown (mvT hZ (own_w hw 160 rfl)) (mvT hZ (own_w hw 122 rfl)) (mvT hZ (own_w hw 119 rfl)) (mvT hZ (own_w hw 123 rfl)) (by decide) (backOf (W := 0) (rm24 l Z a0 hw [] (4 : Int32) (4 : Int32)  h0 n0 Z0 ) hZ (own_w hw 123 rfl) (own_w hw 119 rfl) (by decide) (by decide)) (g := (mkF m 11 #[.val (.ref r0), .val (.int (44 : Int32)), .val (.int (4 : Int32)), .val (.int (4 : Int32))] [(.int (4 : Int32)), (.int (4 : Int32))])) rfl (by rw [hml]; rfl) (argsL := [(.int (4 : Int32)), (.int (4 : Int32))]) (rest := []) (lenOf pd_17 rfl) rfl (by show 2 * 0 + _ ≤ _; exact Nat.le_of_eq rfl) (hb hby d34_11) (fun _ _ => ⟨rfl, e2, (by decide : 0 + 0 ≤ _), (by decide : 0 + 0 ≤ _)⟩)
  dsimp only [Pt.U, Pt.locs, Pt.cells, Pt.slots] at X6 l6 y6 z6 st6 hQ6
  subst l6 y6 z6
  obtain ⟨rfl, Nq6, e6⟩ := hQ6
  have N6 := Fr.app N2 Nq6
  rw [if_neg (by decide)] at st6
  have st7 : own_S p e below T6 (mkF m 21 #[.val (.ref r0), .val (.int (44 : Int32)), .val (.int (4 : Int32)), .val (.int (4 : Int32))] [(.int (-1 : Int32))]) (mkF m 14 #[.val (.ref r0), .val (.int (44 : Int32)), .val (.int (4 : Int32)), .val (.int (4 : Int32))] [(.int (4 : Int32))]) := by
    intro target kt
    refine XS.istoreN X6.here hx rfl (hb hby d34_14) rfl (l' := #[.val (.ref r0), .val (.int (44 : Int32)), .val (.int (4 : Int32)), .val (.int (4 : Int32))]) rfl ?_
    refine XS.iloadN X6.here hx rfl (hb hby d34_15) rfl ?_
    refine XS.iloadN X6.here hx rfl (hb hby d34_16) rfl ?_
    refine XS.icmpNo X6.here hx rfl (hb hby d34_17) rfl (flt (by decide : ¬ ((4 : Int32) < (4 : Int32)))).1 ?_
    refine XS.iconst X6.here hx rfl (hb hby d34_20) ?_
    exact kt
  obtain ⟨fs, hr, hrun, hended, hW, hsame⟩ := X6.leave (v := some (.int (-1 : Int32))) (fun h => by rw [Bd.returns] at h; cases h)
  refine ⟨_, _, pre0 _ (st1 _ (st2 _ (st3 _ (st4 _ (st5 _ (st6 _ (st7 _ ?_))))))), hrun, hended, _, _, rfl, ?_, ⟨_, rfl⟩, hW, hsame.mono (by decide) (by decide)⟩
  · show Steps p.tables e below (T6.setTop (mkF m 21 #[.val (.ref r0), .val (.int (44 : Int32)), .val (.int (4 : Int32)), .val (.int (4 : Int32))] [(.int (-1 : Int32))])) _
    exact retI X6 hx Bd.returns (hb hby d34_21) hr
  · show Q_rmAio4_U4 Z r0 cs fm ky c0 c1 c2 c3 h0 n0 _ T6.heap _
    rw [e6]
    exact ⟨_, iff_of_true (by decide) (by simp), rfl, N6, rfl⟩
def Q_rmAjB_U4 (Z : State) (r0 : Addr) (p1 : Int32) (cs : Int32) (fm : Value) (ky : ClassId) (c0 : Int32) (c1 : Int32) (c2 : Int32) (c3 : Int32) (c : Int32) (h0 : Heap) (n0 : Nat) (v : Option Value) (h : Heap) (L : List Loc) : Prop := v = some (.int c) ∧ Fr n0 L ∧ h = h0
theorem rmAjB_U4 (l : Launch) (Z : State) (a0 : Array Value) (hw : ∀ d ∈ tables_1, d.before a0 Z = true) (ws : List Jvm.Cond) (r0 : Addr) (p1 : Int32) (cs : Int32) (fm : Value) (ky : ClassId) (c0 : Int32) (c1 : Int32) (c2 : Int32) (c3 : Int32) (c : Int32) (h0 : Heap) (n0 : Nat) (Z0 : n0 ≤ h0.size) (SB : own_St Z cs fm) (Od : Old Z n0 h0) (Vy : Arv Z h0 r0 ky .byte (8 : Int32) [(.int (own_lo c0)), (.int (own_hi c0)), (.int (own_lo c1)), (.int (own_hi c1)), (.int (own_lo c2)), (.int (own_hi c2)), (.int (own_lo c3)), (.int (own_hi c3))] (.int (0 : Int32))) (a0_ : 0 ≤ c0.toInt ∧ c0.toInt < 65536) (a1_ : 0 ≤ c1.toInt ∧ c1.toInt < 65536) (a2_ : 0 ≤ c2.toInt ∧ c2.toInt < 65536) (a3_ : 0 ≤ c3.toInt ∧ c3.toInt < 65536) (hix : own_ix4 p1 c c0 c1 c2 c3) :
    MetFree l (⟨"java/lang/StringUTF16", "charAt", "([BI)C"⟩ : MethodName) (head1 (Jvm.Cond.code (⟨"java/lang/StringUTF16", "charAt", "([BI)C"⟩ : MethodName) jdk_52_method_83_code 2 (some .char) :: ws) ({ frames := 3, cells := 0, slots := 0, locals := 40 } : Room)) (fun a U => a = #[(.ref r0), (.int p1)] ∧ Z.Warmed39 U.vm ∧ U.heap = h0) (fun _ _ _ _ _ => True) (fun _ U o U' => ∃ v L, o = .returned v ∧ Q_rmAjB_U4 Z r0 p1 cs fm ky c0 c1 c2 c3 c h0 n0 v U'.heap L ∧ FrameEnd U o U' L ({ frames := 3, cells := 0, slots := 0, locals := 40 } : Room).cells ({ frames := 3, cells := 0, slots := 0, locals := 40 } : Room).slots) := by
  rcases hix with ⟨j, k⟩ | ⟨j, k⟩ | ⟨j, k⟩ | ⟨j, k⟩
  · subst j; rw [k]; exact rmAch0_U4 l Z a0 hw ws r0 cs fm ky c0 c1 c2 c3 h0 n0 Z0 SB Od Vy a0_
  · subst j; rw [k]; exact rmAch1_U4 l Z a0 hw ws r0 cs fm ky c0 c1 c2 c3 h0 n0 Z0 SB Od Vy a1_
  · subst j; rw [k]; exact rmAch2_U4 l Z a0 hw ws r0 cs fm ky c0 c1 c2 c3 h0 n0 Z0 SB Od Vy a2_
  · subst j; rw [k]; exact rmAch3_U4 l Z a0 hw ws r0 cs fm ky c0 c1 c2 c3 h0 n0 Z0 SB Od Vy a3_
theorem ef_rmChS_U4 (m : MethodId) (x0 : Addr) (x1 : Int32) : entryFrame m #[(.ref x0), (.int x1)] 2 = mkF m 0 #[.val (.ref x0), .val (.int x1)] [] := by first | (simp [entryFrame, mkF, argsToLocals, Value.category]; done) | rfl
def Q_rmChS_U4 (Z : State) (r0 : Addr) (p1 : Int32) (cs : Int32) (fm : Value) (y : Addr) (ky : ClassId) (c0 : Int32) (c1 : Int32) (c2 : Int32) (c3 : Int32) (ch : Int32) (h0 : Heap) (n0 : Nat) (v : Option Value) (h : Heap) (L : List Loc) : Prop := v = some (.int ch) ∧ Fr n0 L ∧ h = h0
set_option maxRecDepth 65536 in
set_option maxHeartbeats 40000000 in
theorem rmChS_U4 (l : Launch) (Z : State) (a0 : Array Value) (hw : ∀ d ∈ tables_1, d.before a0 Z = true) (ws : List Jvm.Cond) (r0 : Addr) (p1 : Int32) (cs : Int32) (fm : Value) (y : Addr) (ky : ClassId) (c0 : Int32) (c1 : Int32) (c2 : Int32) (c3 : Int32) (ch : Int32) (h0 : Heap) (n0 : Nat) (Z0 : n0 ≤ h0.size) (SB : own_St Z cs fm) (Od : Old Z n0 h0) (Fv : Fld Z h0 r0 "java/lang/String" "value" "[B" (.ref y)) (Fc : Fld Z h0 r0 "java/lang/String" "coder" "B" (.int (1 : Int32))) (Et : Exa Z h0 r0 "java/lang/String") (Vy : Arv Z h0 y ky .byte (8 : Int32) [(.int (own_lo c0)), (.int (own_hi c0)), (.int (own_lo c1)), (.int (own_hi c1)), (.int (own_lo c2)), (.int (own_hi c2)), (.int (own_lo c3)), (.int (own_hi c3))] (.int (0 : Int32))) (a0_ : 0 ≤ c0.toInt ∧ c0.toInt < 65536) (a1_ : 0 ≤ c1.toInt ∧ c1.toInt < 65536) (a2_ : 0 ≤ c2.toInt ∧ c2.toInt < 65536) (a3_ : 0 ≤ c3.toInt ∧ c3.toInt < 65536) (hix : own_ix4 p1 ch c0 c1 c2 c3) (hc_ : own_ch ch) :
    MetFree l (⟨"java/lang/String", "charAt", "(I)C"⟩ : MethodName) (head1 (Jvm.Cond.code (⟨"java/lang/String", "charAt", "(I)C"⟩ : MethodName) jdk_42_method_56_code 2 (some .char) :: ws) ({ frames := 4, cells := 0, slots := 0, locals := 53 } : Room)) (fun a U => a = #[(.ref r0), (.int p1)] ∧ Z.Warmed39 U.vm ∧ U.heap = h0) (fun _ _ _ _ _ => True) (fun _ U o U' => ∃ v L, o = .returned v ∧ Q_rmChS_U4 Z r0 p1 cs fm y ky c0 c1 c2 c3 ch h0 n0 v U'.heap L ∧ FrameEnd U o U' L ({ frames := 4, cells := 0, slots := 0, locals := 53 } : Room).cells ({ frames := 4, cells := 0, slots := 0, locals := 53 } : Room).slots) := by
  refine MetFree.of_bodySF (plainFor_of_name pn_1) hisR ?_
  intro p e s m args below meth c s₁ Bd hml0 hP hK
  obtain ⟨rfl, hZ, hh⟩ := hP
  have hx := Bd.exec
  have hby := Bd.bytes
  have hml : c.maxLocals = 2 := hml0
  have hown : s.vm.findClass "java/lang/String" = some m.cls := findClass_of_methodNamed Bd.named
  have hnm := (name_of_methodNamed Bd.named Bd.method).1
  have X0 : Stand p l e ({ frames := 4, cells := 0, slots := 0, locals := 53 } : Room) s m #[(.ref r0), (.int p1)] below meth c s₁ [] 0 0 := Stand.of_body Bd
  have e0 : s₁.heap = h0 := by rw [← hh, Bd.state]; rfl
  have N0 := Fr.nil n0
  have pre0 : ∀ t, Steps p.tables e below (s₁.setTop (mkF m 0 #[.val (.ref r0), .val (.int p1)] [])) t → Steps p.tables e below (s₁.setTop (entryFrame m #[(.ref r0), (.int p1)] 2)) t := fun t k => castTop (ef_rmChS_U4 m r0 p1) k
  have st1 : own_S p e below s₁ (mkF m 1 #[.val (.ref r0), .val (.int p1)] [(.ref r0)]) (mkF m 0 #[.val (.ref r0), .val (.int p1)] []) := by
    intro target kt
    refine XS.aloadN X0.here hx rfl (hb hby d13_0) rfl rfl ?_
    exact kt
  obtain ⟨cq2, kq2, qv2a, qv2b, qv2c⟩ := isOf hZ e0 Et
  obtain ⟨_, _, ⟨T2, L2, k2, n2⟩, -, X2, ⟨Lc2, hQ2, l2, y2, z2⟩, st2⟩ := X0.virtualBack hx (y := (⟨"java/lang/String", "isLatin1", "()Z"⟩ : MethodName)) (z := (⟨"java/lang/String", "isLatin1", "()Z"⟩ : MethodName)) hown (mvT hZ (own_w hw 79 rfl)) (mvT hZ (own_w hw 80 rfl)) (notFace_of_selects (args := #[]) (mvT hZ (own_w hw 82 rfl))) (mvT hZ (own_w hw 82 rfl)) (mvT hZ (own_w hw 81 rfl)) (by decide) (backOf (W := 0) (rmLat_U4 l Z a0 hw [] r0 cs fm h0 n0 Z0 SB Od Fc) hZ (own_w hw 83 rfl) (own_w hw 10 rfl) (by decide) (by decide)) qv2a qv2c (g := (mkF m 1 #[.val (.ref r0), .val (.int p1)] [(.ref r0)])) rfl (by rw [hml]; rfl) (Steps.refl _) (argsL := []) (rest := []) (lenOf pd_12 rfl) rfl (by show 2 * 0 + _ ≤ _; exact Nat.le_of_eq rfl) (hb hby d13_1) (fun _ _ => ⟨rfl, e0, (by decide : 0 + 0 ≤ _), (by decide : 0 + 0 ≤ _)⟩)
  dsimp only [Pt.U, Pt.locs, Pt.cells, Pt.slots] at X2 l2 y2 z2 st2 hQ2
  subst l2 y2 z2
  obtain ⟨rfl, Nq2, e2⟩ := hQ2
  have N2 := Fr.app N0 Nq2
  have st3 : own_S p e below T2 (mkF m 17 #[.val (.ref r0), .val (.int p1)] [(.ref r0)]) (mkF m 4 #[.val (.ref r0), .val (.int p1)] [(.int (0 : Int32))]) := by
    intro target kt
    refine XS.ifYes X2.here hx rfl (pc0 := 4) (pc' := 16) rfl (hb hby d13_4) rfl ((if0 _ _).trans (teq (rfl : (0 : Int32) = (0 : Int32))).1) (by decide) (by decide) ?_
    refine XS.aloadN X2.here hx rfl (hb hby d13_16) rfl rfl ?_
    exact kt
  obtain ⟨T4, X4, e4, st4⟩ := getF X2 hx hZ hown (host := "") (Or.inl (own_w hw 35 rfl)) Via.refl e2 Fv (g := (mkF m 17 #[.val (.ref r0), .val (.int p1)] [(.ref r0)])) rfl rfl (hb hby d13_17)
  have st5 : own_S p e below T4 (mkF m 21 #[.val (.ref r0), .val (.int p1)] [(.int p1), (.ref y)]) (mkF m 20 #[.val (.ref r0), .val (.int p1)] [(.ref y)]) := by
    intro target kt
    refine XS.iloadN X4.here hx rfl (hb hby d13_20) rfl ?_
    exact kt
  obtain ⟨_, _, ⟨T6, L6, k6, n6⟩, -, X6, ⟨Lc6, hQ6, l6, y6, z6⟩, st6⟩ := Jvm.LawKit.callS X4 hx (y := (⟨"java/lang/StringUTF16", "charAt", "([BI)C"⟩ : MethodName)) hown (mvT hZ (own_w hw 146 rfl)) (mvT hZ (own_w hw 147 rfl)) (mvT hZ (own_w hw 24 rfl)) (mvT hZ (own_w hw 148 rfl)) (by decide) (backOf (W := 0) (rmAjB_U4 l Z a0 hw [] y p1 cs fm ky c0 c1 c2 c3 ch h0 n0 Z0 SB Od Vy a0_ a1_ a2_ a3_ hix) hZ (own_w hw 148 rfl) (own_w hw 24 rfl) (by decide) (by decide)) (g := (mkF m 21 #[.val (.ref r0), .val (.int p1)] [(.int p1), (.ref y)])) rfl (by rw [hml]; rfl) (argsL := [(.ref y), (.int p1)]) (rest := []) (lenOf pd_13 rfl) rfl (by show 2 * 0 + _ ≤ _; exact Nat.le_of_eq rfl) (hb hby d13_21) (fun _ _ => ⟨rfl, e4, (by decide : 0 + 0 ≤ _), (by decide : 0 + 0 ≤ _)⟩)
  dsimp only [Pt.U, Pt.locs, Pt.cells, Pt.slots] at X6 l6 y6 z6 st6 hQ6
  subst l6 y6 z6
  obtain ⟨rfl, Nq6, e6⟩ := hQ6
  have N6 := Fr.app N2 Nq6
  obtain ⟨fs, hr, hrun, hended, hW, hsame⟩ := X6.leave (v := some (.int (nar .char ch))) (fun h => by rw [Bd.returns] at h; cases h)
  refine ⟨_, _, pre0 _ (st1 _ (st2.trans (st3 _ (st4 _ (st5 _ (st6 _ ?_)))))), hrun, hended, _, _, rfl, ?_, ⟨_, rfl⟩, hW, hsame.mono (by decide) (by decide)⟩
  · show Steps p.tables e below (T6.setTop (mkF m 24 #[.val (.ref r0), .val (.int p1)] [(.int ch)])) _
    exact retN X6 hx (t := .char) Bd.returns (by simp) (hb hby d13_24) hr
  · show Q_rmChS_U4 Z r0 p1 cs fm y ky c0 c1 c2 c3 ch h0 n0 _ T6.heap _
    rw [e6]
    exact ⟨congrArg (fun z => some (Value.int z)) (own_ncI hc_), N6, rfl⟩
def Q_rmAkB_U4 (Z : State) (r0 : Addr) (p2 : Int32) (cs : Int32) (fm : Value) (ky : ClassId) (c0 : Int32) (c1 : Int32) (c2 : Int32) (c3 : Int32) (P : Prop) (h0 : Heap) (n0 : Nat) (v : Option Value) (h : Heap) (L : List Loc) : Prop := ∃ z : Int32, (z < 0 ↔ ¬ P) ∧ v = some (.int z) ∧ Fr n0 L ∧ h = h0
theorem rmAkB_U4 (l : Launch) (Z : State) (a0 : Array Value) (hw : ∀ d ∈ tables_1, d.before a0 Z = true) (ws : List Jvm.Cond) (r0 : Addr) (p2 : Int32) (cs : Int32) (fm : Value) (ky : ClassId) (c0 : Int32) (c1 : Int32) (c2 : Int32) (c3 : Int32) (P : Prop) (h0 : Heap) (n0 : Nat) (Z0 : n0 ≤ h0.size) (SB : own_St Z cs fm) (Od : Old Z n0 h0) (Vy : Arv Z h0 r0 ky .byte (8 : Int32) [(.int (own_lo c0)), (.int (own_hi c0)), (.int (own_lo c1)), (.int (own_hi c1)), (.int (own_lo c2)), (.int (own_hi c2)), (.int (own_lo c3)), (.int (own_hi c3))] (.int (0 : Int32))) (a0_ : 0 ≤ c0.toInt ∧ c0.toInt < 65536) (a1_ : 0 ≤ c1.toInt ∧ c1.toInt < 65536) (a2_ : 0 ≤ c2.toInt ∧ c2.toInt < 65536) (a3_ : 0 ≤ c3.toInt ∧ c3.toInt < 65536) (hip : own_ip4 p2 P c0 c1 c2 c3) :
    MetFree l (⟨"java/lang/StringUTF16", "indexOf", "([BIII)I"⟩ : MethodName) (head1 (Jvm.Cond.code (⟨"java/lang/StringUTF16", "indexOf", "([BIII)I"⟩ : MethodName) jdk_52_method_40_code 4 (some .int) :: ws) ({ frames := 4, cells := 0, slots := 0, locals := 58 } : Room)) (fun a U => a = #[(.ref r0), (.int (44 : Int32)), (.int p2), (.int (4 : Int32))] ∧ Z.Warmed39 U.vm ∧ U.heap = h0) (fun _ _ _ _ _ => True) (fun _ U o U' => ∃ v L, o = .returned v ∧ Q_rmAkB_U4 Z r0 p2 cs fm ky c0 c1 c2 c3 P h0 n0 v U'.heap L ∧ FrameEnd U o U' L ({ frames := 4, cells := 0, slots := 0, locals := 58 } : Room).cells ({ frames := 4, cells := 0, slots := 0, locals := 58 } : Room).slots) := by
  rcases hip with ⟨j, k⟩ | ⟨j, k⟩ | ⟨j, k⟩ | ⟨j, k⟩
  · subst j; rw [k]; exact rmAio1_U4 l Z a0 hw ws r0 cs fm ky c0 c1 c2 c3 h0 n0 Z0 SB Od Vy a1_ a2_ a3_
  · subst j; rw [k]; exact rmAio2_U4 l Z a0 hw ws r0 cs fm ky c0 c1 c2 c3 h0 n0 Z0 SB Od Vy a2_ a3_
  · subst j; rw [k]; exact rmAio3_U4 l Z a0 hw ws r0 cs fm ky c0 c1 c2 c3 h0 n0 Z0 SB Od Vy a3_
  · subst j; rw [k]; exact rmAio4_U4 l Z a0 hw ws r0 cs fm ky c0 c1 c2 c3 h0 n0 Z0 SB Od Vy 
theorem ef_rmIoS_U4 (m : MethodId) (x0 : Addr) (x1 : Int32) (x2 : Int32) : entryFrame m #[(.ref x0), (.int x1), (.int x2)] 3 = mkF m 0 #[.val (.ref x0), .val (.int x1), .val (.int x2)] [] := by first | (simp [entryFrame, mkF, argsToLocals, Value.category]; done) | rfl
def Q_rmIoS_U4 (Z : State) (r0 : Addr) (p2 : Int32) (cs : Int32) (fm : Value) (y : Addr) (ky : ClassId) (c0 : Int32) (c1 : Int32) (c2 : Int32) (c3 : Int32) (P : Prop) (h0 : Heap) (n0 : Nat) (v : Option Value) (h : Heap) (L : List Loc) : Prop := ∃ z : Int32, (z < 0 ↔ ¬ P) ∧ v = some (.int z) ∧ Fr n0 L ∧ h = h0
set_option maxRecDepth 65536 in
set_option maxHeartbeats 40000000 in
theorem rmIoS_U4 (l : Launch) (Z : State) (a0 : Array Value) (hw : ∀ d ∈ tables_1, d.before a0 Z = true) (ws : List Jvm.Cond) (r0 : Addr) (p2 : Int32) (cs : Int32) (fm : Value) (y : Addr) (ky : ClassId) (c0 : Int32) (c1 : Int32) (c2 : Int32) (c3 : Int32) (P : Prop) (h0 : Heap) (n0 : Nat) (Z0 : n0 ≤ h0.size) (SB : own_St Z cs fm) (Od : Old Z n0 h0) (Fv : Fld Z h0 r0 "java/lang/String" "value" "[B" (.ref y)) (Fc : Fld Z h0 r0 "java/lang/String" "coder" "B" (.int (1 : Int32))) (Et : Exa Z h0 r0 "java/lang/String") (Vy : Arv Z h0 y ky .byte (8 : Int32) [(.int (own_lo c0)), (.int (own_hi c0)), (.int (own_lo c1)), (.int (own_hi c1)), (.int (own_lo c2)), (.int (own_hi c2)), (.int (own_lo c3)), (.int (own_hi c3))] (.int (0 : Int32))) (a0_ : 0 ≤ c0.toInt ∧ c0.toInt < 65536) (a1_ : 0 ≤ c1.toInt ∧ c1.toInt < 65536) (a2_ : 0 ≤ c2.toInt ∧ c2.toInt < 65536) (a3_ : 0 ≤ c3.toInt ∧ c3.toInt < 65536) (hip : own_ip4 p2 P c0 c1 c2 c3) :
    MetFree l (⟨"java/lang/String", "indexOf", "(II)I"⟩ : MethodName) (head1 (Jvm.Cond.code (⟨"java/lang/String", "indexOf", "(II)I"⟩ : MethodName) jdk_42_method_80_code 3 (some .int) :: ws) ({ frames := 5, cells := 0, slots := 0, locals := 73 } : Room)) (fun a U => a = #[(.ref r0), (.int (44 : Int32)), (.int p2)] ∧ Z.Warmed39 U.vm ∧ U.heap = h0) (fun _ _ _ _ _ => True) (fun _ U o U' => ∃ v L, o = .returned v ∧ Q_rmIoS_U4 Z r0 p2 cs fm y ky c0 c1 c2 c3 P h0 n0 v U'.heap L ∧ FrameEnd U o U' L ({ frames := 5, cells := 0, slots := 0, locals := 73 } : Room).cells ({ frames := 5, cells := 0, slots := 0, locals := 73 } : Room).slots) := by
  refine MetFree.of_bodySF (plainFor_of_name pn_1) hisR ?_
  intro p e s m args below meth c s₁ Bd hml0 hP hK
  obtain ⟨rfl, hZ, hh⟩ := hP
  have hx := Bd.exec
  have hby := Bd.bytes
  have hml : c.maxLocals = 3 := hml0
  have hown : s.vm.findClass "java/lang/String" = some m.cls := findClass_of_methodNamed Bd.named
  have hnm := (name_of_methodNamed Bd.named Bd.method).1
  have X0 : Stand p l e ({ frames := 5, cells := 0, slots := 0, locals := 73 } : Room) s m #[(.ref r0), (.int (44 : Int32)), (.int p2)] below meth c s₁ [] 0 0 := Stand.of_body Bd
  have e0 : s₁.heap = h0 := by rw [← hh, Bd.state]; rfl
  have N0 := Fr.nil n0
  have pre0 : ∀ t, Steps p.tables e below (s₁.setTop (mkF m 0 #[.val (.ref r0), .val (.int (44 : Int32)), .val (.int p2)] [])) t → Steps p.tables e below (s₁.setTop (entryFrame m #[(.ref r0), (.int (44 : Int32)), (.int p2)] 3)) t := fun t k => castTop (ef_rmIoS_U4 m r0 (44 : Int32) p2) k
  have st1 : own_S p e below s₁ (mkF m 1 #[.val (.ref r0), .val (.int (44 : Int32)), .val (.int p2)] [(.ref r0)]) (mkF m 0 #[.val (.ref r0), .val (.int (44 : Int32)), .val (.int p2)] []) := by
    intro target kt
    refine XS.aloadN X0.here hx rfl (hb hby d20_0) rfl rfl ?_
    exact kt
  obtain ⟨cq2, kq2, qv2a, qv2b, qv2c⟩ := isOf hZ e0 Et
  obtain ⟨_, _, ⟨T2, L2, k2, n2⟩, -, X2, ⟨Lc2, hQ2, l2, y2, z2⟩, st2⟩ := X0.virtualBack hx (y := (⟨"java/lang/String", "isLatin1", "()Z"⟩ : MethodName)) (z := (⟨"java/lang/String", "isLatin1", "()Z"⟩ : MethodName)) hown (mvT hZ (own_w hw 79 rfl)) (mvT hZ (own_w hw 80 rfl)) (notFace_of_selects (args := #[]) (mvT hZ (own_w hw 82 rfl))) (mvT hZ (own_w hw 82 rfl)) (mvT hZ (own_w hw 81 rfl)) (by decide) (backOf (W := 0) (rmLat_U4 l Z a0 hw [] r0 cs fm h0 n0 Z0 SB Od Fc) hZ (own_w hw 83 rfl) (own_w hw 10 rfl) (by decide) (by decide)) qv2a qv2c (g := (mkF m 1 #[.val (.ref r0), .val (.int (44 : Int32)), .val (.int p2)] [(.ref r0)])) rfl (by rw [hml]; rfl) (Steps.refl _) (argsL := []) (rest := []) (lenOf pd_12 rfl) rfl (by show 2 * 0 + _ ≤ _; exact Nat.le_of_eq rfl) (hb hby d20_1) (fun _ _ => ⟨rfl, e0, (by decide : 0 + 0 ≤ _), (by decide : 0 + 0 ≤ _)⟩)
  dsimp only [Pt.U, Pt.locs, Pt.cells, Pt.slots] at X2 l2 y2 z2 st2 hQ2
  subst l2 y2 z2
  obtain ⟨rfl, Nq2, e2⟩ := hQ2
  have N2 := Fr.app N0 Nq2
  have st3 : own_S p e below T2 (mkF m 24 #[.val (.ref r0), .val (.int (44 : Int32)), .val (.int p2)] [(.ref r0)]) (mkF m 4 #[.val (.ref r0), .val (.int (44 : Int32)), .val (.int p2)] [(.int (0 : Int32))]) := by
    intro target kt
    refine XS.ifYes X2.here hx rfl (pc0 := 4) (pc' := 23) rfl (hb hby d20_4) rfl ((if0 _ _).trans (teq (rfl : (0 : Int32) = (0 : Int32))).1) (by decide) (by decide) ?_
    refine XS.aloadN X2.here hx rfl (hb hby d20_23) rfl rfl ?_
    exact kt
  obtain ⟨T4, X4, e4, st4⟩ := getF X2 hx hZ hown (host := "") (Or.inl (own_w hw 35 rfl)) Via.refl e2 Fv (g := (mkF m 24 #[.val (.ref r0), .val (.int (44 : Int32)), .val (.int p2)] [(.ref r0)])) rfl rfl (hb hby d20_24)
  have st5 : own_S p e below T4 (mkF m 30 #[.val (.ref r0), .val (.int (44 : Int32)), .val (.int p2)] [(.ref r0), (.int p2), (.int (44 : Int32)), (.ref y)]) (mkF m 27 #[.val (.ref r0), .val (.int (44 : Int32)), .val (.int p2)] [(.ref y)]) := by
    intro target kt
    refine XS.iloadN X4.here hx rfl (hb hby d20_27) rfl ?_
    refine XS.iloadN X4.here hx rfl (hb hby d20_28) rfl ?_
    refine XS.aloadN X4.here hx rfl (hb hby d20_29) rfl rfl ?_
    exact kt
  obtain ⟨cq6, kq6, qv6a, qv6b, qv6c⟩ := isOf hZ e4 Et
  obtain ⟨_, _, ⟨T6, L6, k6, n6⟩, -, X6, ⟨Lc6, hQ6, l6, y6, z6⟩, st6⟩ := X4.virtualBack hx (y := (⟨"java/lang/String", "length", "()I"⟩ : MethodName)) (z := (⟨"java/lang/String", "length", "()I"⟩ : MethodName)) hown (mvT hZ (own_w hw 110 rfl)) (mvT hZ (own_w hw 65 rfl)) (notFace_of_selects (args := #[]) (mvT hZ (own_w hw 67 rfl))) (mvT hZ (own_w hw 67 rfl)) (mvT hZ (own_w hw 66 rfl)) (by decide) (backOf (W := 3) (rmLen_U4 l Z a0 hw [] r0 cs fm y ky c0 c1 c2 c3 h0 n0 Z0 SB Od Fv Fc Et Vy) hZ (own_w hw 68 rfl) (own_w hw 10 rfl) (by decide) (by decide)) qv6a qv6c (g := (mkF m 30 #[.val (.ref r0), .val (.int (44 : Int32)), .val (.int p2)] [(.ref r0), (.int p2), (.int (44 : Int32)), (.ref y)])) rfl (by rw [hml]; rfl) (Steps.refl _) (argsL := []) (rest := [(.int p2), (.int (44 : Int32)), (.ref y)]) (lenOf pd_9 rfl) rfl (by show 2 * 0 + _ ≤ _; exact Nat.le_of_eq rfl) (hb hby d20_30) (fun _ _ => ⟨rfl, e4, (by decide : 0 + 0 ≤ _), (by decide : 0 + 0 ≤ _)⟩)
  dsimp only [Pt.U, Pt.locs, Pt.cells, Pt.slots] at X6 l6 y6 z6 st6 hQ6
  subst l6 y6 z6
  obtain ⟨rfl, Nq6, e6⟩ := hQ6
  have N6 := Fr.app N2 Nq6
  obtain ⟨_, _, ⟨T7, L7, k7, n7⟩, -, X7, ⟨Lc7, hQ7, l7, y7, z7⟩, st7⟩ := Jvm.LawKit.callS X6 hx (y := (⟨"java/lang/StringUTF16", "indexOf", "([BIII)I"⟩ : MethodName)) hown (mvT hZ (own_w hw 156 rfl)) (mvT hZ (own_w hw 157 rfl)) (mvT hZ (own_w hw 24 rfl)) (mvT hZ (own_w hw 158 rfl)) (by decide) (backOf (W := 0) (rmAkB_U4 l Z a0 hw [] y p2 cs fm ky c0 c1 c2 c3 P h0 n0 Z0 SB Od Vy a0_ a1_ a2_ a3_ hip) hZ (own_w hw 158 rfl) (own_w hw 24 rfl) (by decide) (by decide)) (g := (mkF m 33 #[.val (.ref r0), .val (.int (44 : Int32)), .val (.int p2)] [(.int (4 : Int32)), (.int p2), (.int (44 : Int32)), (.ref y)])) rfl (by rw [hml]; rfl) (argsL := [(.ref y), (.int (44 : Int32)), (.int p2), (.int (4 : Int32))]) (rest := []) (lenOf pd_18 rfl) rfl (by show 2 * 0 + _ ≤ _; exact Nat.le_of_eq rfl) (hb hby d20_33) (fun _ _ => ⟨rfl, e6, (by decide : 0 + 0 ≤ _), (by decide : 0 + 0 ≤ _)⟩)
  dsimp only [Pt.U, Pt.locs, Pt.cells, Pt.slots] at X7 l7 y7 z7 st7 hQ7
  subst l7 y7 z7
  obtain ⟨z7, hz7, rfl, Nq7, e7⟩ := hQ7
  have N7 := Fr.app N6 Nq7
  obtain ⟨fs, hr, hrun, hended, hW, hsame⟩ := X7.leave (v := some (.int z7)) (fun h => by rw [Bd.returns] at h; cases h)
  refine ⟨_, _, pre0 _ (st1 _ (st2.trans (st3 _ (st4 _ (st5 _ (st6.trans (st7 _ ?_))))))), hrun, hended, _, _, rfl, ?_, ⟨_, rfl⟩, hW, hsame.mono (by decide) (by decide)⟩
  · show Steps p.tables e below (T7.setTop (mkF m 36 #[.val (.ref r0), .val (.int (44 : Int32)), .val (.int p2)] [(.int z7)])) _
    exact retI X7 hx Bd.returns (hb hby d20_36) hr
  · show Q_rmIoS_U4 Z r0 p2 cs fm y ky c0 c1 c2 c3 P h0 n0 _ T7.heap _
    rw [e7]
    exact ⟨_, hz7, rfl, N7, rfl⟩
def Q_rmLenB (Z : State) (r0 : Addr) (cs : Int32) (fm : Value) (y : Addr) (ky : ClassId) (c0 : Int32) (c1 : Int32) (c2 : Int32) (c3 : Int32) (h0 : Heap) (n0 : Nat) (v : Option Value) (h : Heap) (L : List Loc) : Prop := v = some (.int (4 : Int32)) ∧ Fr n0 L ∧ h = h0
theorem rmLenB (l : Launch) (Z : State) (a0 : Array Value) (hw : ∀ d ∈ tables_1, d.before a0 Z = true) (ws : List Jvm.Cond) (r0 : Addr) (cs : Int32) (fm : Value) (y : Addr) (ky : ClassId) (c0 : Int32) (c1 : Int32) (c2 : Int32) (c3 : Int32) (h0 : Heap) (n0 : Nat) (Z0 : n0 ≤ h0.size) (SB : own_St Z cs fm) (Od : Old Z n0 h0) (Fv : Fld Z h0 r0 "java/lang/String" "value" "[B" (.ref y)) (Et : Exa Z h0 r0 "java/lang/String") (SF : own_SF Z h0 r0 y ky c0 c1 c2 c3) :
    MetFree l (⟨"java/lang/String", "length", "()I"⟩ : MethodName) (head1 (Jvm.Cond.code (⟨"java/lang/String", "length", "()I"⟩ : MethodName) jdk_42_method_54_code 1 (some .int) :: ws) ({ frames := 1, cells := 0, slots := 0, locals := 13 } : Room)) (fun a U => a = #[(.ref r0)] ∧ Z.Warmed39 U.vm ∧ U.heap = h0) (fun _ _ _ _ _ => True) (fun _ U o U' => ∃ v L, o = .returned v ∧ Q_rmLenB Z r0 cs fm y ky c0 c1 c2 c3 h0 n0 v U'.heap L ∧ FrameEnd U o U' L ({ frames := 1, cells := 0, slots := 0, locals := 13 } : Room).cells ({ frames := 1, cells := 0, slots := 0, locals := 13 } : Room).slots) := by
  rcases SF with ⟨Fc, Vy, a0_, a1_, a2_, a3_⟩ | ⟨Fc, Vy, a0_, a1_, a2_, a3_⟩
  · exact rmLen_L4 l Z a0 hw ws r0  cs fm y ky c0 c1 c2 c3  h0 n0 Z0 SB Od Fv Fc Et Vy
  · exact rmLen_U4 l Z a0 hw ws r0  cs fm y ky c0 c1 c2 c3  h0 n0 Z0 SB Od Fv Fc Et Vy
def Q_rmChB (Z : State) (r0 : Addr) (p1 : Int32) (cs : Int32) (fm : Value) (y : Addr) (ky : ClassId) (c0 : Int32) (c1 : Int32) (c2 : Int32) (c3 : Int32) (c : Int32) (h0 : Heap) (n0 : Nat) (v : Option Value) (h : Heap) (L : List Loc) : Prop := v = some (.int c) ∧ Fr n0 L ∧ h = h0
theorem rmChB (l : Launch) (Z : State) (a0 : Array Value) (hw : ∀ d ∈ tables_1, d.before a0 Z = true) (ws : List Jvm.Cond) (r0 : Addr) (p1 : Int32) (cs : Int32) (fm : Value) (y : Addr) (ky : ClassId) (c0 : Int32) (c1 : Int32) (c2 : Int32) (c3 : Int32) (c : Int32) (h0 : Heap) (n0 : Nat) (Z0 : n0 ≤ h0.size) (SB : own_St Z cs fm) (Od : Old Z n0 h0) (Fv : Fld Z h0 r0 "java/lang/String" "value" "[B" (.ref y)) (Et : Exa Z h0 r0 "java/lang/String") (SF : own_SF Z h0 r0 y ky c0 c1 c2 c3) (hix : own_ix4 p1 c c0 c1 c2 c3) :
    MetFree l (⟨"java/lang/String", "charAt", "(I)C"⟩ : MethodName) (head1 (Jvm.Cond.code (⟨"java/lang/String", "charAt", "(I)C"⟩ : MethodName) jdk_42_method_56_code 2 (some .char) :: ws) ({ frames := 4, cells := 0, slots := 0, locals := 53 } : Room)) (fun a U => a = #[(.ref r0), (.int p1)] ∧ Z.Warmed39 U.vm ∧ U.heap = h0) (fun _ _ _ _ _ => True) (fun _ U o U' => ∃ v L, o = .returned v ∧ Q_rmChB Z r0 p1 cs fm y ky c0 c1 c2 c3 c h0 n0 v U'.heap L ∧ FrameEnd U o U' L ({ frames := 4, cells := 0, slots := 0, locals := 53 } : Room).cells ({ frames := 4, cells := 0, slots := 0, locals := 53 } : Room).slots) := by
  rcases SF with ⟨Fc, Vy, a0_, a1_, a2_, a3_⟩ | ⟨Fc, Vy, a0_, a1_, a2_, a3_⟩
  · exact rmChS_L4 l Z a0 hw ws r0 p1 cs fm y ky c0 c1 c2 c3 c h0 n0 Z0 SB Od Fv Fc Et Vy a0_ a1_ a2_ a3_ hix (by rcases hix with ⟨-, k⟩ | ⟨-, k⟩ | ⟨-, k⟩ | ⟨-, k⟩ <;> rw [k] <;> exact ⟨by omega, by omega⟩)
  · exact rmChS_U4 l Z a0 hw ws r0 p1 cs fm y ky c0 c1 c2 c3 c h0 n0 Z0 SB Od Fv Fc Et Vy a0_ a1_ a2_ a3_ hix (by rcases hix with ⟨-, k⟩ | ⟨-, k⟩ | ⟨-, k⟩ | ⟨-, k⟩ <;> rw [k] <;> exact ⟨by omega, by omega⟩)
def Q_rmIoB (Z : State) (r0 : Addr) (p2 : Int32) (cs : Int32) (fm : Value) (y : Addr) (ky : ClassId) (c0 : Int32) (c1 : Int32) (c2 : Int32) (c3 : Int32) (P : Prop) (h0 : Heap) (n0 : Nat) (v : Option Value) (h : Heap) (L : List Loc) : Prop := ∃ z : Int32, (z < 0 ↔ ¬ P) ∧ v = some (.int z) ∧ Fr n0 L ∧ h = h0
theorem rmIoB (l : Launch) (Z : State) (a0 : Array Value) (hw : ∀ d ∈ tables_1, d.before a0 Z = true) (ws : List Jvm.Cond) (r0 : Addr) (p2 : Int32) (cs : Int32) (fm : Value) (y : Addr) (ky : ClassId) (c0 : Int32) (c1 : Int32) (c2 : Int32) (c3 : Int32) (P : Prop) (h0 : Heap) (n0 : Nat) (Z0 : n0 ≤ h0.size) (SB : own_St Z cs fm) (Od : Old Z n0 h0) (Fv : Fld Z h0 r0 "java/lang/String" "value" "[B" (.ref y)) (Et : Exa Z h0 r0 "java/lang/String") (SF : own_SF Z h0 r0 y ky c0 c1 c2 c3) (hip : own_ip4 p2 P c0 c1 c2 c3) :
    MetFree l (⟨"java/lang/String", "indexOf", "(II)I"⟩ : MethodName) (head1 (Jvm.Cond.code (⟨"java/lang/String", "indexOf", "(II)I"⟩ : MethodName) jdk_42_method_80_code 3 (some .int) :: ws) ({ frames := 5, cells := 0, slots := 0, locals := 73 } : Room)) (fun a U => a = #[(.ref r0), (.int (44 : Int32)), (.int p2)] ∧ Z.Warmed39 U.vm ∧ U.heap = h0) (fun _ _ _ _ _ => True) (fun _ U o U' => ∃ v L, o = .returned v ∧ Q_rmIoB Z r0 p2 cs fm y ky c0 c1 c2 c3 P h0 n0 v U'.heap L ∧ FrameEnd U o U' L ({ frames := 5, cells := 0, slots := 0, locals := 73 } : Room).cells ({ frames := 5, cells := 0, slots := 0, locals := 73 } : Room).slots) := by
  rcases SF with ⟨Fc, Vy, a0_, a1_, a2_, a3_⟩ | ⟨Fc, Vy, a0_, a1_, a2_, a3_⟩
  · exact rmIoS_L4 l Z a0 hw ws r0 p2 cs fm y ky c0 c1 c2 c3 P h0 n0 Z0 SB Od Fv Fc Et Vy a0_ a1_ a2_ a3_ hip
  · exact rmIoS_U4 l Z a0 hw ws r0 p2 cs fm y ky c0 c1 c2 c3 P h0 n0 Z0 SB Od Fv Fc Et Vy a0_ a1_ a2_ a3_ hip
theorem d8_0 : decode prog_69_method_1_code 0 = .ok (.aload_n 0, 1) := by decide +kernel
theorem d8_1 : decode prog_69_method_1_code 1 = .ok (.invokespecial 1, 3) := by decide +kernel
theorem d8_4 : decode prog_69_method_1_code 4 = .ok (.aload_n 0, 1) := by decide +kernel
theorem d8_5 : decode prog_69_method_1_code 5 = .ok (.aload_n 1, 1) := by decide +kernel
theorem d8_6 : decode prog_69_method_1_code 6 = .ok (.putfield 7, 3) := by decide +kernel
theorem d8_9 : decode prog_69_method_1_code 9 = .ok (.aload_n 0, 1) := by decide +kernel
theorem d8_10 : decode prog_69_method_1_code 10 = .ok (.aload_n 2, 1) := by decide +kernel
theorem d8_11 : decode prog_69_method_1_code 11 = .ok (.putfield 13, 3) := by decide +kernel
theorem d8_14 : decode prog_69_method_1_code 14 = .ok (.aload_n 0, 1) := by decide +kernel
theorem d8_15 : decode prog_69_method_1_code 15 = .ok (.lload_n 3, 1) := by decide +kernel
theorem d8_16 : decode prog_69_method_1_code 16 = .ok (.putfield 16, 3) := by decide +kernel
theorem d8_19 : decode prog_69_method_1_code 19 = .ok (.aload_n 0, 1) := by decide +kernel
theorem d8_20 : decode prog_69_method_1_code 20 = .ok (.aload 5, 2) := by decide +kernel
theorem d8_22 : decode prog_69_method_1_code 22 = .ok (.putfield 20, 3) := by decide +kernel
theorem d8_25 : decode prog_69_method_1_code 25 = .ok (.return_, 1) := by decide +kernel
theorem pn_4 : plainName "com/example/libbisim/libbisim/TextFormat$Cursor" = true := by first | (simp [plainName, overriddenIn]; done) | decide +kernel
theorem ef_rmCur (m : MethodId) (x0 : Addr) (x1 : Addr) (x2 : Addr) (x3 : Int64) (x4 : Addr) : entryFrame m #[(.ref x0), (.ref x1), (.ref x2), (.long x3), (.ref x4)] 6 = mkF m 0 #[.val (.ref x0), .val (.ref x1), .val (.ref x2), .val (.long x3), .second, .val (.ref x4)] [] := by first | (simp [entryFrame, mkF, argsToLocals, Value.category]; done) | rfl
def Q_rmCur (Z : State) (r0 : Addr) (r1 : Addr) (r2 : Addr) (q3 : Int64) (r4 : Addr) (h0 : Heap) (n0 : Nat) (v : Option Value) (h : Heap) (L : List Loc) : Prop := v = none ∧ Fr n0 L ∧ Keep h0 h [r0] ∧ Exa Z h r0 "com/example/libbisim/libbisim/TextFormat$Cursor" ∧ Fld Z h r0 "com/example/libbisim/libbisim/TextFormat$Cursor" "text" "Ljava/lang/String;" (.ref r1) ∧ Fld Z h r0 "com/example/libbisim/libbisim/TextFormat$Cursor" "source" "Ljava/lang/String;" (.ref r2) ∧ Fld Z h r0 "com/example/libbisim/libbisim/TextFormat$Cursor" "line" "J" (.long q3) ∧ Fld Z h r0 "com/example/libbisim/libbisim/TextFormat$Cursor" "expected" "Ljava/lang/String;" (.ref r4) ∧ Fld Z h r0 "com/example/libbisim/libbisim/TextFormat$Cursor" "at" "I" (.int (0 : Int32))
set_option maxRecDepth 65536 in
set_option maxHeartbeats 40000000 in
theorem rmCur (l : Launch) (Z : State) (a0 : Array Value) (hw : ∀ d ∈ tables_1, d.before a0 Z = true) (ws : List Jvm.Cond) (r0 : Addr) (r1 : Addr) (r2 : Addr) (q3 : Int64) (r4 : Addr) (h0 : Heap) (n0 : Nat) (Z0 : n0 ≤ h0.size) (F_text : Fld Z h0 r0 "com/example/libbisim/libbisim/TextFormat$Cursor" "text" "Ljava/lang/String;" .null) (F_source : Fld Z h0 r0 "com/example/libbisim/libbisim/TextFormat$Cursor" "source" "Ljava/lang/String;" .null) (F_line : Fld Z h0 r0 "com/example/libbisim/libbisim/TextFormat$Cursor" "line" "J" (.long (0 : Int64))) (F_expected : Fld Z h0 r0 "com/example/libbisim/libbisim/TextFormat$Cursor" "expected" "Ljava/lang/String;" .null) (F_at : Fld Z h0 r0 "com/example/libbisim/libbisim/TextFormat$Cursor" "at" "I" (.int (0 : Int32))) (E_o : Exa Z h0 r0 "com/example/libbisim/libbisim/TextFormat$Cursor") (g_r0 : n0 ≤ r0) :
    MetFree l (⟨"com/example/libbisim/libbisim/TextFormat$Cursor", "<init>", "(Ljava/lang/String;Ljava/lang/String;JLjava/lang/String;)V"⟩ : MethodName) (head1 (Jvm.Cond.code (⟨"com/example/libbisim/libbisim/TextFormat$Cursor", "<init>", "(Ljava/lang/String;Ljava/lang/String;JLjava/lang/String;)V"⟩ : MethodName) prog_69_method_1_code 6 none :: ws) ({ frames := 1, cells := 0, slots := 0, locals := 12 } : Room)) (fun a U => a = #[(.ref r0), (.ref r1), (.ref r2), (.long q3), (.ref r4)] ∧ Z.Warmed39 U.vm ∧ U.heap = h0) (fun _ _ _ _ _ => True) (fun _ U o U' => ∃ v L, o = .returned v ∧ Q_rmCur Z r0 r1 r2 q3 r4 h0 n0 v U'.heap L ∧ FrameEnd U o U' L ({ frames := 1, cells := 0, slots := 0, locals := 12 } : Room).cells ({ frames := 1, cells := 0, slots := 0, locals := 12 } : Room).slots) := by
  refine MetFree.of_bodySF (plainFor_of_name pn_4) hisR ?_
  intro p e s m args below meth c s₁ Bd hml0 hP hK
  obtain ⟨rfl, hZ, hh⟩ := hP
  have hx := Bd.exec
  have hby := Bd.bytes
  have hml : c.maxLocals = 6 := hml0
  have hown : s.vm.findClass "com/example/libbisim/libbisim/TextFormat$Cursor" = some m.cls := findClass_of_methodNamed Bd.named
  have hnm := (name_of_methodNamed Bd.named Bd.method).1
  have X0 : Stand p l e ({ frames := 1, cells := 0, slots := 0, locals := 12 } : Room) s m #[(.ref r0), (.ref r1), (.ref r2), (.long q3), (.ref r4)] below meth c s₁ [] 0 0 := Stand.of_body Bd
  have e0 : s₁.heap = h0 := by rw [← hh, Bd.state]; rfl
  have N0 := Fr.nil n0
  have pre0 : ∀ t, Steps p.tables e below (s₁.setTop (mkF m 0 #[.val (.ref r0), .val (.ref r1), .val (.ref r2), .val (.long q3), .second, .val (.ref r4)] [])) t → Steps p.tables e below (s₁.setTop (entryFrame m #[(.ref r0), (.ref r1), (.ref r2), (.long q3), (.ref r4)] 6)) t := fun t k => castTop (ef_rmCur m r0 r1 r2 q3 r4) k
  have Kp : Keep h0 h0 [r0] := Keep.refl _ _
  have st1 : own_S p e below s₁ (mkF m 1 #[.val (.ref r0), .val (.ref r1), .val (.ref r2), .val (.long q3), .second, .val (.ref r4)] [(.ref r0)]) (mkF m 0 #[.val (.ref r0), .val (.ref r1), .val (.ref r2), .val (.long q3), .second, .val (.ref r4)] []) := by
    intro target kt
    refine XS.aloadN X0.here hx rfl (hb hby d8_0) rfl rfl ?_
    exact kt
  obtain ⟨T2, X2, e2, st2⟩ := initO X0 hx hZ hown (own_w hw 44 rfl) (own_w hw 19 rfl) (own_w hw 20 rfl) e0 (g := (mkF m 1 #[.val (.ref r0), .val (.ref r1), .val (.ref r2), .val (.long q3), .second, .val (.ref r4)] [(.ref r0)])) rfl (by rw [hml]; rfl) rfl (hb hby d8_1) (by decide) (W := 0) (by show 2 * 0 + _ ≤ _; exact Nat.le_of_eq rfl) (by decide)
  have st3 : own_S p e below T2 (mkF m 6 #[.val (.ref r0), .val (.ref r1), .val (.ref r2), .val (.long q3), .second, .val (.ref r4)] [(.ref r1), (.ref r0)]) (mkF m 4 #[.val (.ref r0), .val (.ref r1), .val (.ref r2), .val (.long q3), .second, .val (.ref r4)] []) := by
    intro target kt
    refine XS.aloadN X2.here hx rfl (hb hby d8_4) rfl rfl ?_
    refine XS.aloadN X2.here hx rfl (hb hby d8_5) rfl rfl ?_
    exact kt
  obtain ⟨T4, h4, X4, e4, W4, st4⟩ := putF X2 hx hZ hown (host := "") (Or.inl (own_w hw 45 rfl)) Via.refl e2 F_text E_o (Or.inr ⟨(own_w hw 46 rfl), rfl, hnm⟩) (own_w hw 6 rfl) (ty := (.object "java/lang/String")) (by decide) rfl rfl (g := (mkF m 6 #[.val (.ref r0), .val (.ref r1), .val (.ref r2), .val (.long q3), .second, .val (.ref r4)] [(.ref r1), (.ref r0)])) rfl rfl (hb hby d8_6)
  have F_text_r0_4 : Fld Z h4 r0 "com/example/libbisim/libbisim/TextFormat$Cursor" "text" "Ljava/lang/String;" (.ref r1) := F_text.same W4
  have E_o_4 := E_o.wr W4
  have F_source_4 := F_source.other W4 (Or.inr (slot_ne (Or.inr (own_w hw 48 rfl)) (Or.inr (own_w hw 46 rfl)) (by decide) (t := (.object "java/lang/String")) (t' := (.object "java/lang/String")) (by decide) (by decide)))
  have F_line_4 := F_line.other W4 (Or.inr (slot_ne (Or.inr (own_w hw 50 rfl)) (Or.inr (own_w hw 46 rfl)) (by decide) (t := .long) (t' := (.object "java/lang/String")) (by decide) (by decide)))
  have F_expected_4 := F_expected.other W4 (Or.inr (slot_ne (Or.inr (own_w hw 52 rfl)) (Or.inr (own_w hw 46 rfl)) (by decide) (t := (.object "java/lang/String")) (t' := (.object "java/lang/String")) (by decide) (by decide)))
  have F_at_4 := F_at.other W4 (Or.inr (slot_ne (Or.inl (own_w hw 63 rfl)) (Or.inr (own_w hw 46 rfl)) (by decide) (t := .int) (t' := (.object "java/lang/String")) (by decide) (by decide)))
  have Z_4 : n0 ≤ h4.size := Nat.le_trans Z0 (Keep.of_wr W4).1
  have Kp_4 : Keep h0 h4 [r0] := Kp.wr W4 (Or.inl (List.mem_of_getElem? (i := 0) rfl))
  have N4 := Fr.snoc X4 N0 g_r0
  have st5 : own_S p e below T4 (mkF m 11 #[.val (.ref r0), .val (.ref r1), .val (.ref r2), .val (.long q3), .second, .val (.ref r4)] [(.ref r2), (.ref r0)]) (mkF m 9 #[.val (.ref r0), .val (.ref r1), .val (.ref r2), .val (.long q3), .second, .val (.ref r4)] []) := by
    intro target kt
    refine XS.aloadN X4.here hx rfl (hb hby d8_9) rfl rfl ?_
    refine XS.aloadN X4.here hx rfl (hb hby d8_10) rfl rfl ?_
    exact kt
  obtain ⟨T6, h6, X6, e6, W6, st6⟩ := putF X4 hx hZ hown (host := "") (Or.inl (own_w hw 47 rfl)) Via.refl e4 F_source_4 E_o_4 (Or.inr ⟨(own_w hw 48 rfl), rfl, hnm⟩) (own_w hw 6 rfl) (ty := (.object "java/lang/String")) (by decide) rfl rfl (g := (mkF m 11 #[.val (.ref r0), .val (.ref r1), .val (.ref r2), .val (.long q3), .second, .val (.ref r4)] [(.ref r2), (.ref r0)])) rfl rfl (hb hby d8_11)
  have F_source_r0_6 : Fld Z h6 r0 "com/example/libbisim/libbisim/TextFormat$Cursor" "source" "Ljava/lang/String;" (.ref r2) := F_source_4.same W6
  have E_o_6 := E_o_4.wr W6
  have F_line_6 := F_line_4.other W6 (Or.inr (slot_ne (Or.inr (own_w hw 50 rfl)) (Or.inr (own_w hw 48 rfl)) (by decide) (t := .long) (t' := (.object "java/lang/String")) (by decide) (by decide)))
  have F_expected_6 := F_expected_4.other W6 (Or.inr (slot_ne (Or.inr (own_w hw 52 rfl)) (Or.inr (own_w hw 48 rfl)) (by decide) (t := (.object "java/lang/String")) (t' := (.object "java/lang/String")) (by decide) (by decide)))
  have F_at_6 := F_at_4.other W6 (Or.inr (slot_ne (Or.inl (own_w hw 63 rfl)) (Or.inr (own_w hw 48 rfl)) (by decide) (t := .int) (t' := (.object "java/lang/String")) (by decide) (by decide)))
  have F_text_r0_6 := F_text_r0_4.other W6 (Or.inr (slot_ne (Or.inr (own_w hw 46 rfl)) (Or.inr (own_w hw 48 rfl)) (by decide) (t := (.object "java/lang/String")) (t' := (.object "java/lang/String")) (by decide) (by decide)))
  have Z_6 : n0 ≤ h6.size := Nat.le_trans Z_4 (Keep.of_wr W6).1
  have Kp_6 : Keep h0 h6 [r0] := Kp_4.wr W6 (Or.inl (List.mem_of_getElem? (i := 0) rfl))
  have N6 := Fr.snoc X6 N4 g_r0
  have st7 : own_S p e below T6 (mkF m 16 #[.val (.ref r0), .val (.ref r1), .val (.ref r2), .val (.long q3), .second, .val (.ref r4)] [(.long q3), (.ref r0)]) (mkF m 14 #[.val (.ref r0), .val (.ref r1), .val (.ref r2), .val (.long q3), .second, .val (.ref r4)] []) := by
    intro target kt
    refine XS.aloadN X6.here hx rfl (hb hby d8_14) rfl rfl ?_
    refine XS.lloadN X6.here hx rfl (hb hby d8_15) rfl ?_
    exact kt
  obtain ⟨T8, h8, X8, e8, W8, st8⟩ := putF X6 hx hZ hown (host := "") (Or.inl (own_w hw 49 rfl)) Via.refl e6 F_line_6 E_o_6 (Or.inr ⟨(own_w hw 50 rfl), rfl, hnm⟩) (own_w hw 6 rfl) (ty := .long) (by decide) rfl rfl (g := (mkF m 16 #[.val (.ref r0), .val (.ref r1), .val (.ref r2), .val (.long q3), .second, .val (.ref r4)] [(.long q3), (.ref r0)])) rfl rfl (hb hby d8_16)
  have F_line_r0_8 : Fld Z h8 r0 "com/example/libbisim/libbisim/TextFormat$Cursor" "line" "J" (.long q3) := F_line_6.same W8
  have E_o_8 := E_o_6.wr W8
  have F_expected_8 := F_expected_6.other W8 (Or.inr (slot_ne (Or.inr (own_w hw 52 rfl)) (Or.inr (own_w hw 50 rfl)) (by decide) (t := (.object "java/lang/String")) (t' := .long) (by decide) (by decide)))
  have F_at_8 := F_at_6.other W8 (Or.inr (slot_ne (Or.inl (own_w hw 63 rfl)) (Or.inr (own_w hw 50 rfl)) (by decide) (t := .int) (t' := .long) (by decide) (by decide)))
  have F_text_r0_8 := F_text_r0_6.other W8 (Or.inr (slot_ne (Or.inr (own_w hw 46 rfl)) (Or.inr (own_w hw 50 rfl)) (by decide) (t := (.object "java/lang/String")) (t' := .long) (by decide) (by decide)))
  have F_source_r0_8 := F_source_r0_6.other W8 (Or.inr (slot_ne (Or.inr (own_w hw 48 rfl)) (Or.inr (own_w hw 50 rfl)) (by decide) (t := (.object "java/lang/String")) (t' := .long) (by decide) (by decide)))
  have Z_8 : n0 ≤ h8.size := Nat.le_trans Z_6 (Keep.of_wr W8).1
  have Kp_8 : Keep h0 h8 [r0] := Kp_6.wr W8 (Or.inl (List.mem_of_getElem? (i := 0) rfl))
  have N8 := Fr.snoc X8 N6 g_r0
  have st9 : own_S p e below T8 (mkF m 22 #[.val (.ref r0), .val (.ref r1), .val (.ref r2), .val (.long q3), .second, .val (.ref r4)] [(.ref r4), (.ref r0)]) (mkF m 19 #[.val (.ref r0), .val (.ref r1), .val (.ref r2), .val (.long q3), .second, .val (.ref r4)] []) := by
    intro target kt
    refine XS.aloadN X8.here hx rfl (hb hby d8_19) rfl rfl ?_
    refine XS.aload X8.here hx rfl (hb hby d8_20) rfl rfl ?_
    exact kt
  obtain ⟨T10, h10, X10, e10, W10, st10⟩ := putF X8 hx hZ hown (host := "") (Or.inl (own_w hw 51 rfl)) Via.refl e8 F_expected_8 E_o_8 (Or.inr ⟨(own_w hw 52 rfl), rfl, hnm⟩) (own_w hw 6 rfl) (ty := (.object "java/lang/String")) (by decide) rfl rfl (g := (mkF m 22 #[.val (.ref r0), .val (.ref r1), .val (.ref r2), .val (.long q3), .second, .val (.ref r4)] [(.ref r4), (.ref r0)])) rfl rfl (hb hby d8_22)
  have F_expected_r0_10 : Fld Z h10 r0 "com/example/libbisim/libbisim/TextFormat$Cursor" "expected" "Ljava/lang/String;" (.ref r4) := F_expected_8.same W10
  have E_o_10 := E_o_8.wr W10
  have F_at_10 := F_at_8.other W10 (Or.inr (slot_ne (Or.inl (own_w hw 63 rfl)) (Or.inr (own_w hw 52 rfl)) (by decide) (t := .int) (t' := (.object "java/lang/String")) (by decide) (by decide)))
  have F_text_r0_10 := F_text_r0_8.other W10 (Or.inr (slot_ne (Or.inr (own_w hw 46 rfl)) (Or.inr (own_w hw 52 rfl)) (by decide) (t := (.object "java/lang/String")) (t' := (.object "java/lang/String")) (by decide) (by decide)))
  have F_source_r0_10 := F_source_r0_8.other W10 (Or.inr (slot_ne (Or.inr (own_w hw 48 rfl)) (Or.inr (own_w hw 52 rfl)) (by decide) (t := (.object "java/lang/String")) (t' := (.object "java/lang/String")) (by decide) (by decide)))
  have F_line_r0_10 := F_line_r0_8.other W10 (Or.inr (slot_ne (Or.inr (own_w hw 50 rfl)) (Or.inr (own_w hw 52 rfl)) (by decide) (t := .long) (t' := (.object "java/lang/String")) (by decide) (by decide)))
  have Z_10 : n0 ≤ h10.size := Nat.le_trans Z_8 (Keep.of_wr W10).1
  have Kp_10 : Keep h0 h10 [r0] := Kp_8.wr W10 (Or.inl (List.mem_of_getElem? (i := 0) rfl))
  have N10 := Fr.snoc X10 N8 g_r0
  obtain ⟨fs, hr, hrun, hended, hW, hsame⟩ := X10.leave (v := none) (fun _ => rfl)
  refine ⟨_, _, pre0 _ (st1 _ (st2 _ (st3 _ (st4 _ (st5 _ (st6 _ (st7 _ (st8 _ (st9 _ (st10 _ ?_)))))))))), hrun, hended, _, _, rfl, ?_, ⟨_, rfl⟩, hW, hsame.mono (by decide) (by decide)⟩
  · show Steps p.tables e below (T10.setTop (mkF m 25 #[.val (.ref r0), .val (.ref r1), .val (.ref r2), .val (.long q3), .second, .val (.ref r4)] [])) _
    exact X10.returnOut hx Bd.returns (hb hby d8_25) hr
  · show Q_rmCur Z r0 r1 r2 q3 r4 h0 n0 _ T10.heap _
    rw [e10]
    exact ⟨rfl, N10, Kp_10, E_o_10, F_text_r0_10, F_source_r0_10, F_line_r0_10, F_expected_r0_10, F_at_10⟩
theorem d18_0 : decode prog_67_method_8_code 0 = .ok (.iload_n 0, 1) := by decide +kernel
theorem d18_1 : decode prog_67_method_8_code 1 = .ok (.bipush 32, 2) := by decide +kernel
theorem d18_3 : decode prog_67_method_8_code 3 = .ok (.if_icmp .eq 9, 3) := by decide +kernel
theorem d18_6 : decode prog_67_method_8_code 6 = .ok (.iload_n 0, 1) := by decide +kernel
theorem d18_7 : decode prog_67_method_8_code 7 = .ok (.bipush 9, 2) := by decide +kernel
theorem d18_9 : decode prog_67_method_8_code 9 = .ok (.if_icmp .ne 7, 3) := by decide +kernel
theorem d18_12 : decode prog_67_method_8_code 12 = .ok (.iconst 1, 1) := by decide +kernel
theorem d18_13 : decode prog_67_method_8_code 13 = .ok (.goto 4, 3) := by decide +kernel
theorem d18_16 : decode prog_67_method_8_code 16 = .ok (.iconst 0, 1) := by decide +kernel
theorem d18_17 : decode prog_67_method_8_code 17 = .ok (.ireturn, 1) := by decide +kernel
theorem pn_5 : plainName "com/example/libbisim/libbisim/TextFormat" = true := by first | (simp [plainName, overriddenIn]; done) | decide +kernel
theorem ef_rmBl (m : MethodId) (x0 : Int32) : entryFrame m #[(.int x0)] 1 = mkF m 0 #[.val (.int x0)] [] := by first | (simp [entryFrame, mkF, argsToLocals, Value.category]; done) | rfl
def Q_rmBl (Z : State) (p0 : Int32) (h0 : Heap) (n0 : Nat) (v : Option Value) (h : Heap) (L : List Loc) : Prop := ∃ b : Int32, (b = 0 ↔ ¬ own_bl p0) ∧ v = some (.int b) ∧ Fr n0 L ∧ h = h0
set_option maxRecDepth 65536 in
set_option maxHeartbeats 40000000 in
theorem rmBl (l : Launch) (Z : State) (a0 : Array Value) (hw : ∀ d ∈ tables_1, d.before a0 Z = true) (ws : List Jvm.Cond) (p0 : Int32) (h0 : Heap) (n0 : Nat) (Z0 : n0 ≤ h0.size) :
    MetFree l (⟨"com/example/libbisim/libbisim/TextFormat", "isBlank", "(C)Z"⟩ : MethodName) (head1 (Jvm.Cond.code (⟨"com/example/libbisim/libbisim/TextFormat", "isBlank", "(C)Z"⟩ : MethodName) prog_67_method_8_code 1 (some .boolean) :: ws) ({ frames := 0, cells := 0, slots := 0, locals := 0 } : Room)) (fun a U => a = #[(.int p0)] ∧ Z.Warmed39 U.vm ∧ U.heap = h0) (fun _ _ _ _ _ => True) (fun _ U o U' => ∃ v L, o = .returned v ∧ Q_rmBl Z p0 h0 n0 v U'.heap L ∧ FrameEnd U o U' L ({ frames := 0, cells := 0, slots := 0, locals := 0 } : Room).cells ({ frames := 0, cells := 0, slots := 0, locals := 0 } : Room).slots) := by
  refine MetFree.of_bodySF (plainFor_of_name pn_5) hisR ?_
  intro p e s m args below meth c s₁ Bd hml0 hP hK
  obtain ⟨rfl, hZ, hh⟩ := hP
  have hx := Bd.exec
  have hby := Bd.bytes
  have hml : c.maxLocals = 1 := hml0
  have hown : s.vm.findClass "com/example/libbisim/libbisim/TextFormat" = some m.cls := findClass_of_methodNamed Bd.named
  have hnm := (name_of_methodNamed Bd.named Bd.method).1
  have X0 : Stand p l e ({ frames := 0, cells := 0, slots := 0, locals := 0 } : Room) s m #[(.int p0)] below meth c s₁ [] 0 0 := Stand.of_body Bd
  have e0 : s₁.heap = h0 := by rw [← hh, Bd.state]; rfl
  have N0 := Fr.nil n0
  have pre0 : ∀ t, Steps p.tables e below (s₁.setTop (mkF m 0 #[.val (.int p0)] [])) t → Steps p.tables e below (s₁.setTop (entryFrame m #[(.int p0)] 1)) t := fun t k => castTop (ef_rmBl m p0) k
  obtain ⟨fs, hr, hrun, hended, hW, hsame⟩ := X0.leave (v := some (.int (if p0 = (32 : Int32) then (1 : Int32) else (if p0 = (9 : Int32) then (1 : Int32) else (0 : Int32))))) (fun h => by rw [Bd.returns] at h; cases h)
  refine ⟨_, _, pre0 _ ?_, hrun, hended, _, _, rfl, ?_, ⟨_, rfl⟩, hW, hsame.mono (by decide) (by decide)⟩
  · refine XS.iloadN X0.here hx rfl (hb hby d18_0) rfl ?_
    refine XS.bipush X0.here hx rfl (hb hby d18_1) ?_
    by_cases hc3 : p0 = (32 : Int32)
    · rw [if_pos hc3] at hr
      refine XS.icmpYes X0.here hx rfl (pc0 := 3) (pc' := 12) rfl (hb hby d18_3) rfl (teq hc3).1 (by decide) (by decide) ?_
      refine XS.iconst X0.here hx rfl (hb hby d18_12) ?_
      refine XS.goto X0.here hx rfl (pc0 := 13) (pc' := 17) rfl (hb hby d18_13) (by decide) (by decide) ?_
      show Steps p.tables e below (s₁.setTop (mkF m 17 #[.val (.int p0)] [(.int (1 : Int32))])) _
      exact retN X0 hx (t := .boolean) Bd.returns (by simp) (hb hby d18_17) hr
    · rw [if_neg hc3] at hr
      refine XS.icmpNo X0.here hx rfl (hb hby d18_3) rfl (feq hc3).1 ?_
      refine XS.iloadN X0.here hx rfl (hb hby d18_6) rfl ?_
      refine XS.bipush X0.here hx rfl (hb hby d18_7) ?_
      by_cases hc9 : p0 = (9 : Int32)
      · rw [if_pos hc9] at hr
        refine XS.icmpNo X0.here hx rfl (hb hby d18_9) rfl (teq hc9).2 ?_
        refine XS.iconst X0.here hx rfl (hb hby d18_12) ?_
        refine XS.goto X0.here hx rfl (pc0 := 13) (pc' := 17) rfl (hb hby d18_13) (by decide) (by decide) ?_
        show Steps p.tables e below (s₁.setTop (mkF m 17 #[.val (.int p0)] [(.int (1 : Int32))])) _
        exact retN X0 hx (t := .boolean) Bd.returns (by simp) (hb hby d18_17) hr
      · rw [if_neg hc9] at hr
        refine XS.icmpYes X0.here hx rfl (pc0 := 9) (pc' := 16) rfl (hb hby d18_9) rfl (feq hc9).2 (by decide) (by decide) ?_
        refine XS.iconst X0.here hx rfl (hb hby d18_16) ?_
        show Steps p.tables e below (s₁.setTop (mkF m 17 #[.val (.int p0)] [(.int (0 : Int32))])) _
        exact retN X0 hx (t := .boolean) Bd.returns (by simp) (hb hby d18_17) hr
  · show Q_rmBl Z p0 h0 n0 _ s₁.heap _
    rw [e0]
    exact ⟨_, own_isb p0, rfl, N0, rfl⟩
theorem d10_0 : decode prog_69_method_14_code 0 = .ok (.aload_n 0, 1) := by decide +kernel
theorem d10_1 : decode prog_69_method_14_code 1 = .ok (.getfield 31, 3) := by decide +kernel
theorem d10_4 : decode prog_69_method_14_code 4 = .ok (.aload_n 0, 1) := by decide +kernel
theorem d10_5 : decode prog_69_method_14_code 5 = .ok (.getfield 7, 3) := by decide +kernel
theorem d10_8 : decode prog_69_method_14_code 8 = .ok (.invokevirtual 35, 3) := by decide +kernel
theorem d10_11 : decode prog_69_method_14_code 11 = .ok (.if_icmp .ge 33, 3) := by decide +kernel
theorem d10_14 : decode prog_69_method_14_code 14 = .ok (.aload_n 0, 1) := by decide +kernel
theorem d10_15 : decode prog_69_method_14_code 15 = .ok (.getfield 7, 3) := by decide +kernel
theorem d10_18 : decode prog_69_method_14_code 18 = .ok (.aload_n 0, 1) := by decide +kernel
theorem d10_19 : decode prog_69_method_14_code 19 = .ok (.getfield 31, 3) := by decide +kernel
theorem d10_22 : decode prog_69_method_14_code 22 = .ok (.invokevirtual 41, 3) := by decide +kernel
theorem d10_25 : decode prog_69_method_14_code 25 = .ok (.invokestatic 101, 3) := by decide +kernel
theorem d10_28 : decode prog_69_method_14_code 28 = .ok (.ifCond .eq 16, 3) := by decide +kernel
theorem d10_31 : decode prog_69_method_14_code 31 = .ok (.aload_n 0, 1) := by decide +kernel
theorem d10_32 : decode prog_69_method_14_code 32 = .ok (.dup, 1) := by decide +kernel
theorem d10_33 : decode prog_69_method_14_code 33 = .ok (.getfield 31, 3) := by decide +kernel
theorem d10_36 : decode prog_69_method_14_code 36 = .ok (.iconst 1, 1) := by decide +kernel
theorem d10_37 : decode prog_69_method_14_code 37 = .ok (.iadd, 1) := by decide +kernel
theorem d10_38 : decode prog_69_method_14_code 38 = .ok (.putfield 31, 3) := by decide +kernel
theorem d10_41 : decode prog_69_method_14_code 41 = .ok (.goto (-41), 3) := by decide +kernel
theorem d10_44 : decode prog_69_method_14_code 44 = .ok (.return_, 1) := by decide +kernel
theorem ef_rmSkip (m : MethodId) (x0 : Addr) : entryFrame m #[(.ref x0)] 1 = mkF m 0 #[.val (.ref x0)] [] := by first | (simp [entryFrame, mkF, argsToLocals, Value.category]; done) | rfl
def Q_rmSkip (Z : State) (r0 : Addr) (cs : Int32) (fm : Value) (t : Addr) (y : Addr) (ky : ClassId) (c0 : Int32) (c1 : Int32) (c2 : Int32) (c3 : Int32) (k : Int32) (h0 : Heap) (n0 : Nat) (v : Option Value) (h : Heap) (L : List Loc) : Prop := v = none ∧ Fr n0 L ∧ Keep h0 h [r0] ∧ Fld Z h r0 "com/example/libbisim/libbisim/TextFormat$Cursor" "text" "Ljava/lang/String;" (.ref t) ∧ Fld Z h r0 "com/example/libbisim/libbisim/TextFormat$Cursor" "at" "I" (.int k)
set_option maxRecDepth 65536 in
set_option maxHeartbeats 40000000 in
theorem rmSkip (l : Launch) (Z : State) (a0 : Array Value) (hw : ∀ d ∈ tables_1, d.before a0 Z = true) (ws : List Jvm.Cond) (r0 : Addr) (cs : Int32) (fm : Value) (t : Addr) (y : Addr) (ky : ClassId) (c0 : Int32) (c1 : Int32) (c2 : Int32) (c3 : Int32) (k : Int32) (h0 : Heap) (n0 : Nat) (Z0 : n0 ≤ h0.size) (SB : own_St Z cs fm) (Od : Old Z n0 h0) (Ft : Fld Z h0 r0 "com/example/libbisim/libbisim/TextFormat$Cursor" "text" "Ljava/lang/String;" (.ref t)) (Fa : Fld Z h0 r0 "com/example/libbisim/libbisim/TextFormat$Cursor" "at" "I" (.int (0 : Int32))) (Ec : Exa Z h0 r0 "com/example/libbisim/libbisim/TextFormat$Cursor") (g_r0 : n0 ≤ r0) (Fv : Fld Z h0 t "java/lang/String" "value" "[B" (.ref y)) (Et : Exa Z h0 t "java/lang/String") (SF : own_SF Z h0 t y ky c0 c1 c2 c3) (ne1 : t ≠ r0) (ne2 : y ≠ r0) (hB : own_B k c0 c1 c2 c3) :
    MetFree l (⟨"com/example/libbisim/libbisim/TextFormat$Cursor", "skipBlanks", "()V"⟩ : MethodName) (head1 (Jvm.Cond.code (⟨"com/example/libbisim/libbisim/TextFormat$Cursor", "skipBlanks", "()V"⟩ : MethodName) prog_69_method_14_code 1 none :: ws) ({ frames := 5, cells := 0, slots := 0, locals := 66 } : Room)) (fun a U => a = #[(.ref r0)] ∧ Z.Warmed39 U.vm ∧ U.heap = h0) (fun _ _ _ _ _ => True) (fun _ U o U' => ∃ v L, o = .returned v ∧ Q_rmSkip Z r0 cs fm t y ky c0 c1 c2 c3 k h0 n0 v U'.heap L ∧ FrameEnd U o U' L ({ frames := 5, cells := 0, slots := 0, locals := 66 } : Room).cells ({ frames := 5, cells := 0, slots := 0, locals := 66 } : Room).slots) := by
  refine MetFree.of_bodySF (plainFor_of_name pn_4) hisR ?_
  intro p e s m args below meth c s₁ Bd hml0 hP hK
  obtain ⟨rfl, hZ, hh⟩ := hP
  have hx := Bd.exec
  have hby := Bd.bytes
  have hml : c.maxLocals = 1 := hml0
  have hown : s.vm.findClass "com/example/libbisim/libbisim/TextFormat$Cursor" = some m.cls := findClass_of_methodNamed Bd.named
  have hnm := (name_of_methodNamed Bd.named Bd.method).1
  have X0 : Stand p l e ({ frames := 5, cells := 0, slots := 0, locals := 66 } : Room) s m #[(.ref r0)] below meth c s₁ [] 0 0 := Stand.of_body Bd
  have e0 : s₁.heap = h0 := by rw [← hh, Bd.state]; rfl
  have N0 := Fr.nil n0
  have pre0 : ∀ t, Steps p.tables e below (s₁.setTop (mkF m 0 #[.val (.ref r0)] [])) t → Steps p.tables e below (s₁.setTop (entryFrame m #[(.ref r0)] 1)) t := fun t k => castTop (ef_rmSkip m r0) k
  have Kp : Keep h0 h0 [r0] := Keep.refl _ _
  have st1 : own_S p e below s₁ (mkF m 1 #[.val (.ref r0)] [(.ref r0)]) (mkF m 0 #[.val (.ref r0)] []) := by
    intro target kt
    refine XS.aloadN X0.here hx rfl (hb hby d10_0) rfl rfl ?_
    exact kt
  obtain ⟨T2, X2, e2, st2⟩ := getF X0 hx hZ hown (host := "") (Or.inl (own_w hw 62 rfl)) Via.refl e0 Fa (g := (mkF m 1 #[.val (.ref r0)] [(.ref r0)])) rfl rfl (hb hby d10_1)
  have st3 : own_S p e below T2 (mkF m 5 #[.val (.ref r0)] [(.ref r0), (.int (0 : Int32))]) (mkF m 4 #[.val (.ref r0)] [(.int (0 : Int32))]) := by
    intro target kt
    refine XS.aloadN X2.here hx rfl (hb hby d10_4) rfl rfl ?_
    exact kt
  obtain ⟨T4, X4, e4, st4⟩ := getF X2 hx hZ hown (host := "") (Or.inl (own_w hw 45 rfl)) Via.refl e2 Ft (g := (mkF m 5 #[.val (.ref r0)] [(.ref r0), (.int (0 : Int32))])) rfl rfl (hb hby d10_5)
  obtain ⟨cq5, kq5, qv5a, qv5b, qv5c⟩ := isOf hZ e4 Et
  obtain ⟨_, _, ⟨T5, L5, k5, n5⟩, -, X5, ⟨Lc5, hQ5, l5, y5, z5⟩, st5⟩ := X4.virtualBack hx (y := (⟨"java/lang/String", "length", "()I"⟩ : MethodName)) (z := (⟨"java/lang/String", "length", "()I"⟩ : MethodName)) hown (mvT hZ (own_w hw 64 rfl)) (mvT hZ (own_w hw 65 rfl)) (notFace_of_selects (args := #[]) (mvT hZ (own_w hw 67 rfl))) (mvT hZ (own_w hw 67 rfl)) (mvT hZ (own_w hw 66 rfl)) (by decide) (backOf (W := 1) (rmLenB l Z a0 hw [] t cs fm y ky c0 c1 c2 c3 h0 n0 Z0 SB Od Fv Et SF) hZ (own_w hw 68 rfl) (own_w hw 10 rfl) (by decide) (by decide)) qv5a qv5c (g := (mkF m 8 #[.val (.ref r0)] [(.ref t), (.int (0 : Int32))])) rfl (by rw [hml]; rfl) (Steps.refl _) (argsL := []) (rest := [(.int (0 : Int32))]) (lenOf pd_9 rfl) rfl (by show 2 * 0 + _ ≤ _; exact Nat.le_of_eq rfl) (hb hby d10_8) (fun _ _ => ⟨rfl, e4, (by decide : 0 + 0 ≤ _), (by decide : 0 + 0 ≤ _)⟩)
  dsimp only [Pt.U, Pt.locs, Pt.cells, Pt.slots] at X5 l5 y5 z5 st5 hQ5
  subst l5 y5 z5
  obtain ⟨rfl, Nq5, e5⟩ := hQ5
  have N5 := Fr.app N0 Nq5
  have st6 : own_S p e below T5 (mkF m 15 #[.val (.ref r0)] [(.ref r0)]) (mkF m 11 #[.val (.ref r0)] [(.int (4 : Int32)), (.int (0 : Int32))]) := by
    intro target kt
    refine XS.icmpNo X5.here hx rfl (hb hby d10_11) rfl (tlt (by decide : ((0 : Int32) < (4 : Int32)))).2.1 ?_
    refine XS.aloadN X5.here hx rfl (hb hby d10_14) rfl rfl ?_
    exact kt
  obtain ⟨T7, X7, e7, st7⟩ := getF X5 hx hZ hown (host := "") (Or.inl (own_w hw 45 rfl)) Via.refl e5 Ft (g := (mkF m 15 #[.val (.ref r0)] [(.ref r0)])) rfl rfl (hb hby d10_15)
  have st8 : own_S p e below T7 (mkF m 19 #[.val (.ref r0)] [(.ref r0), (.ref t)]) (mkF m 18 #[.val (.ref r0)] [(.ref t)]) := by
    intro target kt
    refine XS.aloadN X7.here hx rfl (hb hby d10_18) rfl rfl ?_
    exact kt
  obtain ⟨T9, X9, e9, st9⟩ := getF X7 hx hZ hown (host := "") (Or.inl (own_w hw 62 rfl)) Via.refl e7 Fa (g := (mkF m 19 #[.val (.ref r0)] [(.ref r0), (.ref t)])) rfl rfl (hb hby d10_19)
  obtain ⟨cq10, kq10, qv10a, qv10b, qv10c⟩ := isOf hZ e9 Et
  obtain ⟨_, _, ⟨T10, L10, k10, n10⟩, -, X10, ⟨Lc10, hQ10, l10, y10, z10⟩, st10⟩ := X9.virtualBack hx (y := (⟨"java/lang/String", "charAt", "(I)C"⟩ : MethodName)) (z := (⟨"java/lang/String", "charAt", "(I)C"⟩ : MethodName)) hown (mvT hZ (own_w hw 74 rfl)) (mvT hZ (own_w hw 75 rfl)) (notFace_of_selects (args := #[]) (mvT hZ (own_w hw 77 rfl))) (mvT hZ (own_w hw 77 rfl)) (mvT hZ (own_w hw 76 rfl)) (by decide) (backOf (W := 0) (rmChB l Z a0 hw [] t (0 : Int32) cs fm y ky c0 c1 c2 c3 c0 h0 n0 Z0 SB Od Fv Et SF (Or.inl ⟨rfl, rfl⟩)) hZ (own_w hw 78 rfl) (own_w hw 10 rfl) (by decide) (by decide)) qv10a qv10c (g := (mkF m 22 #[.val (.ref r0)] [(.int (0 : Int32)), (.ref t)])) rfl (by rw [hml]; rfl) (Steps.refl _) (argsL := [(.int (0 : Int32))]) (rest := []) (lenOf pd_11 rfl) rfl (by show 2 * 0 + _ ≤ _; exact Nat.le_of_eq rfl) (hb hby d10_22) (fun _ _ => ⟨rfl, e9, (by decide : 0 + 0 ≤ _), (by decide : 0 + 0 ≤ _)⟩)
  dsimp only [Pt.U, Pt.locs, Pt.cells, Pt.slots] at X10 l10 y10 z10 st10 hQ10
  subst l10 y10 z10
  obtain ⟨rfl, Nq10, e10⟩ := hQ10
  have N10 := Fr.app N5 Nq10
  obtain ⟨_, _, ⟨T11, L11, k11, n11⟩, -, X11, ⟨Lc11, hQ11, l11, y11, z11⟩, st11⟩ := Jvm.RoadKit.callSN X10 hx (y := (⟨"com/example/libbisim/libbisim/TextFormat", "isBlank", "(C)Z"⟩ : MethodName)) hown ((Cond.methodLinkNest_wide hZ (own_w hw 96 rfl)) :) (mvT hZ (own_w hw 97 rfl)) (mvT hZ (own_w hw 98 rfl)) (mvT hZ (own_w hw 99 rfl)) (by decide) (backOf (W := 0) (rmBl l Z a0 hw [] c0  h0 n0 Z0 ) hZ (own_w hw 99 rfl) (own_w hw 98 rfl) (by decide) (by decide)) (g := (mkF m 25 #[.val (.ref r0)] [(.int c0)])) rfl (by rw [hml]; rfl) (argsL := [(.int c0)]) (rest := []) (lenOf pd_16 rfl) rfl (by show 2 * 0 + _ ≤ _; exact Nat.le_of_eq rfl) (hb hby d10_25) (fun _ _ => ⟨rfl, e10, (by decide : 0 + 0 ≤ _), (by decide : 0 + 0 ≤ _)⟩)
  dsimp only [Pt.U, Pt.locs, Pt.cells, Pt.slots] at X11 l11 y11 z11 st11 hQ11
  subst l11 y11 z11
  obtain ⟨b11, hb11, rfl, Nq11, e11⟩ := hQ11
  have N11 := Fr.app N10 Nq11
  rcases hB with ⟨rfl, nb⟩ | ⟨bl, hB⟩
  · have st12 : own_S p e below T11 (mkF m 44 #[.val (.ref r0)] []) (mkF m 28 #[.val (.ref r0)] [(.int b11)]) := by
      intro target kt
      refine XS.ifYes X11.here hx rfl (pc0 := 28) (pc' := 44) rfl (hb hby d10_28) rfl ((if0 _ _).trans (teq (hb11.mpr nb)).1) (by decide) (by decide) ?_
      exact kt
    obtain ⟨fs, hr, hrun, hended, hW, hsame⟩ := X11.leave (v := none) (fun _ => rfl)
    refine ⟨_, _, pre0 _ (st1 _ (st2 _ (st3 _ (st4 _ (st5.trans (st6 _ (st7 _ (st8 _ (st9 _ (st10.trans (st11.trans (st12 _ ?_)))))))))))), hrun, hended, _, _, rfl, ?_, ⟨_, rfl⟩, hW, hsame.mono (by decide) (by decide)⟩
    · show Steps p.tables e below (T11.setTop (mkF m 44 #[.val (.ref r0)] [])) _
      exact X11.returnOut hx Bd.returns (hb hby d10_44) hr
    · show Q_rmSkip Z r0 cs fm t y ky c0 c1 c2 c3 (0 : Int32) h0 n0 _ T11.heap _
      rw [e11]
      exact ⟨rfl, N11, Kp, Ft, Fa⟩
  · have st13 : own_S p e below T11 (mkF m 31 #[.val (.ref r0)] []) (mkF m 28 #[.val (.ref r0)] [(.int b11)]) := by
      intro target kt
      refine XS.ifNo X11.here hx rfl (hb hby d10_28) rfl ((if0 _ _).trans (feq (fun q => hb11.mp q bl)).1) ?_
      exact kt
    have st14 : own_S p e below T11 (mkF m 33 #[.val (.ref r0)] [(.ref r0), (.ref r0)]) (mkF m 31 #[.val (.ref r0)] []) := by
      intro target kt
      refine XS.aloadN X11.here hx rfl (hb hby d10_31) rfl rfl ?_
      refine XS.dup X11.here hx rfl (hb hby d10_32) rfl rfl ?_
      exact kt
    obtain ⟨T15, X15, e15, st15⟩ := getF X11 hx hZ hown (host := "") (Or.inl (own_w hw 62 rfl)) Via.refl e11 Fa (g := (mkF m 33 #[.val (.ref r0)] [(.ref r0), (.ref r0)])) rfl rfl (hb hby d10_33)
    have st16 : own_S p e below T15 (mkF m 38 #[.val (.ref r0)] [(.int (1 : Int32)), (.ref r0)]) (mkF m 36 #[.val (.ref r0)] [(.int (0 : Int32)), (.ref r0)]) := by
      intro target kt
      refine XS.iconst X15.here hx rfl (hb hby d10_36) ?_
      refine XS.iadd X15.here hx rfl (hb hby d10_37) rfl ?_
      exact kt
    obtain ⟨T17, h17, X17, e17, W17, st17⟩ := putF X15 hx hZ hown (host := "") (Or.inl (own_w hw 62 rfl)) Via.refl e15 Fa Ec (Or.inl (own_w hw 63 rfl)) (own_w hw 6 rfl) (ty := .int) (by decide) rfl rfl (g := (mkF m 38 #[.val (.ref r0)] [(.int (1 : Int32)), (.ref r0)])) rfl rfl (hb hby d10_38)
    have F_at_r0_17 : Fld Z h17 r0 "com/example/libbisim/libbisim/TextFormat$Cursor" "at" "I" (.int (1 : Int32)) := Fa.same W17
    have Od_17 := Od.wr W17 g_r0
    have Ft_17 := Ft.other W17 (Or.inr (slot_ne (Or.inr (own_w hw 46 rfl)) (Or.inl (own_w hw 63 rfl)) (by decide) (t := (.object "java/lang/String")) (t' := .int) (by decide) (by decide)))
    have Ec_17 := Ec.wr W17
    have Fv_17 := Fv.other W17 (Or.inl ne1)
    have Et_17 := Et.wr W17
    have SF_17 := SF.other W17 ne1 ne2
    have Z_17 : n0 ≤ h17.size := Nat.le_trans Z0 (Keep.of_wr W17).1
    have Kp_17 : Keep h0 h17 [r0] := Kp.wr W17 (Or.inl (List.mem_of_getElem? (i := 0) rfl))
    have N17 := Fr.snoc X17 N11 g_r0
    have st18 : own_S p e below T17 (mkF m 1 #[.val (.ref r0)] [(.ref r0)]) (mkF m 41 #[.val (.ref r0)] []) := by
      intro target kt
      refine XS.goto X17.here hx rfl (pc0 := 41) (pc' := 0) rfl (hb hby d10_41) (by decide) (by decide) ?_
      refine XS.aloadN X17.here hx rfl (hb hby d10_0) rfl rfl ?_
      exact kt
    obtain ⟨T19, X19, e19, st19⟩ := getF X17 hx hZ hown (host := "") (Or.inl (own_w hw 62 rfl)) Via.refl e17 F_at_r0_17 (g := (mkF m 1 #[.val (.ref r0)] [(.ref r0)])) rfl rfl (hb hby d10_1)
    have st20 : own_S p e below T19 (mkF m 5 #[.val (.ref r0)] [(.ref r0), (.int (1 : Int32))]) (mkF m 4 #[.val (.ref r0)] [(.int (1 : Int32))]) := by
      intro target kt
      refine XS.aloadN X19.here hx rfl (hb hby d10_4) rfl rfl ?_
      exact kt
    obtain ⟨T21, X21, e21, st21⟩ := getF X19 hx hZ hown (host := "") (Or.inl (own_w hw 45 rfl)) Via.refl e19 Ft_17 (g := (mkF m 5 #[.val (.ref r0)] [(.ref r0), (.int (1 : Int32))])) rfl rfl (hb hby d10_5)
    obtain ⟨cq22, kq22, qv22a, qv22b, qv22c⟩ := isOf hZ e21 Et_17
    obtain ⟨_, _, ⟨T22, L22, k22, n22⟩, -, X22, ⟨Lc22, hQ22, l22, y22, z22⟩, st22⟩ := X21.virtualBack hx (y := (⟨"java/lang/String", "length", "()I"⟩ : MethodName)) (z := (⟨"java/lang/String", "length", "()I"⟩ : MethodName)) hown (mvT hZ (own_w hw 64 rfl)) (mvT hZ (own_w hw 65 rfl)) (notFace_of_selects (args := #[]) (mvT hZ (own_w hw 67 rfl))) (mvT hZ (own_w hw 67 rfl)) (mvT hZ (own_w hw 66 rfl)) (by decide) (backOf (W := 1) (rmLenB l Z a0 hw [] t cs fm y ky c0 c1 c2 c3 h17 n0 Z_17 SB Od_17 Fv_17 Et_17 SF_17) hZ (own_w hw 68 rfl) (own_w hw 10 rfl) (by decide) (by decide)) qv22a qv22c (g := (mkF m 8 #[.val (.ref r0)] [(.ref t), (.int (1 : Int32))])) rfl (by rw [hml]; rfl) (Steps.refl _) (argsL := []) (rest := [(.int (1 : Int32))]) (lenOf pd_9 rfl) rfl (by show 2 * 0 + _ ≤ _; exact Nat.le_of_eq rfl) (hb hby d10_8) (fun _ _ => ⟨rfl, e21, (by decide : 0 + 0 ≤ _), (by decide : 0 + 0 ≤ _)⟩)
    dsimp only [Pt.U, Pt.locs, Pt.cells, Pt.slots] at X22 l22 y22 z22 st22 hQ22
    subst l22 y22 z22
    obtain ⟨rfl, Nq22, e22⟩ := hQ22
    have N22 := Fr.app N17 Nq22
    have st23 : own_S p e below T22 (mkF m 15 #[.val (.ref r0)] [(.ref r0)]) (mkF m 11 #[.val (.ref r0)] [(.int (4 : Int32)), (.int (1 : Int32))]) := by
      intro target kt
      refine XS.icmpNo X22.here hx rfl (hb hby d10_11) rfl (tlt (by decide : ((1 : Int32) < (4 : Int32)))).2.1 ?_
      refine XS.aloadN X22.here hx rfl (hb hby d10_14) rfl rfl ?_
      exact kt
    obtain ⟨T24, X24, e24, st24⟩ := getF X22 hx hZ hown (host := "") (Or.inl (own_w hw 45 rfl)) Via.refl e22 Ft_17 (g := (mkF m 15 #[.val (.ref r0)] [(.ref r0)])) rfl rfl (hb hby d10_15)
    have st25 : own_S p e below T24 (mkF m 19 #[.val (.ref r0)] [(.ref r0), (.ref t)]) (mkF m 18 #[.val (.ref r0)] [(.ref t)]) := by
      intro target kt
      refine XS.aloadN X24.here hx rfl (hb hby d10_18) rfl rfl ?_
      exact kt
    obtain ⟨T26, X26, e26, st26⟩ := getF X24 hx hZ hown (host := "") (Or.inl (own_w hw 62 rfl)) Via.refl e24 F_at_r0_17 (g := (mkF m 19 #[.val (.ref r0)] [(.ref r0), (.ref t)])) rfl rfl (hb hby d10_19)
    obtain ⟨cq27, kq27, qv27a, qv27b, qv27c⟩ := isOf hZ e26 Et_17
    obtain ⟨_, _, ⟨T27, L27, k27, n27⟩, -, X27, ⟨Lc27, hQ27, l27, y27, z27⟩, st27⟩ := X26.virtualBack hx (y := (⟨"java/lang/String", "charAt", "(I)C"⟩ : MethodName)) (z := (⟨"java/lang/String", "charAt", "(I)C"⟩ : MethodName)) hown (mvT hZ (own_w hw 74 rfl)) (mvT hZ (own_w hw 75 rfl)) (notFace_of_selects (args := #[]) (mvT hZ (own_w hw 77 rfl))) (mvT hZ (own_w hw 77 rfl)) (mvT hZ (own_w hw 76 rfl)) (by decide) (backOf (W := 0) (rmChB l Z a0 hw [] t (1 : Int32) cs fm y ky c0 c1 c2 c3 c1 h17 n0 Z_17 SB Od_17 Fv_17 Et_17 SF_17 (Or.inr (Or.inl ⟨rfl, rfl⟩))) hZ (own_w hw 78 rfl) (own_w hw 10 rfl) (by decide) (by decide)) qv27a qv27c (g := (mkF m 22 #[.val (.ref r0)] [(.int (1 : Int32)), (.ref t)])) rfl (by rw [hml]; rfl) (Steps.refl _) (argsL := [(.int (1 : Int32))]) (rest := []) (lenOf pd_11 rfl) rfl (by show 2 * 0 + _ ≤ _; exact Nat.le_of_eq rfl) (hb hby d10_22) (fun _ _ => ⟨rfl, e26, (by decide : 0 + 0 ≤ _), (by decide : 0 + 0 ≤ _)⟩)
    dsimp only [Pt.U, Pt.locs, Pt.cells, Pt.slots] at X27 l27 y27 z27 st27 hQ27
    subst l27 y27 z27
    obtain ⟨rfl, Nq27, e27⟩ := hQ27
    have N27 := Fr.app N22 Nq27
    obtain ⟨_, _, ⟨T28, L28, k28, n28⟩, -, X28, ⟨Lc28, hQ28, l28, y28, z28⟩, st28⟩ := Jvm.RoadKit.callSN X27 hx (y := (⟨"com/example/libbisim/libbisim/TextFormat", "isBlank", "(C)Z"⟩ : MethodName)) hown ((Cond.methodLinkNest_wide hZ (own_w hw 96 rfl)) :) (mvT hZ (own_w hw 97 rfl)) (mvT hZ (own_w hw 98 rfl)) (mvT hZ (own_w hw 99 rfl)) (by decide) (backOf (W := 0) (rmBl l Z a0 hw [] c1  h17 n0 Z_17 ) hZ (own_w hw 99 rfl) (own_w hw 98 rfl) (by decide) (by decide)) (g := (mkF m 25 #[.val (.ref r0)] [(.int c1)])) rfl (by rw [hml]; rfl) (argsL := [(.int c1)]) (rest := []) (lenOf pd_16 rfl) rfl (by show 2 * 0 + _ ≤ _; exact Nat.le_of_eq rfl) (hb hby d10_25) (fun _ _ => ⟨rfl, e27, (by decide : 0 + 0 ≤ _), (by decide : 0 + 0 ≤ _)⟩)
    dsimp only [Pt.U, Pt.locs, Pt.cells, Pt.slots] at X28 l28 y28 z28 st28 hQ28
    subst l28 y28 z28
    obtain ⟨b28, hb28, rfl, Nq28, e28⟩ := hQ28
    have N28 := Fr.app N27 Nq28
    rcases hB with ⟨rfl, nb⟩ | ⟨bl, hB⟩
    · have st29 : own_S p e below T28 (mkF m 44 #[.val (.ref r0)] []) (mkF m 28 #[.val (.ref r0)] [(.int b28)]) := by
        intro target kt
        refine XS.ifYes X28.here hx rfl (pc0 := 28) (pc' := 44) rfl (hb hby d10_28) rfl ((if0 _ _).trans (teq (hb28.mpr nb)).1) (by decide) (by decide) ?_
        exact kt
      obtain ⟨fs, hr, hrun, hended, hW, hsame⟩ := X28.leave (v := none) (fun _ => rfl)
      refine ⟨_, _, pre0 _ (st1 _ (st2 _ (st3 _ (st4 _ (st5.trans (st6 _ (st7 _ (st8 _ (st9 _ (st10.trans (st11.trans (st13 _ (st14 _ (st15 _ (st16 _ (st17 _ (st18 _ (st19 _ (st20 _ (st21 _ (st22.trans (st23 _ (st24 _ (st25 _ (st26 _ (st27.trans (st28.trans (st29 _ ?_)))))))))))))))))))))))))))), hrun, hended, _, _, rfl, ?_, ⟨_, rfl⟩, hW, hsame.mono (by decide) (by decide)⟩
      · show Steps p.tables e below (T28.setTop (mkF m 44 #[.val (.ref r0)] [])) _
        exact X28.returnOut hx Bd.returns (hb hby d10_44) hr
      · show Q_rmSkip Z r0 cs fm t y ky c0 c1 c2 c3 (1 : Int32) h0 n0 _ T28.heap _
        rw [e28]
        exact ⟨rfl, N28, Kp_17, Ft_17, F_at_r0_17⟩
    · have st30 : own_S p e below T28 (mkF m 31 #[.val (.ref r0)] []) (mkF m 28 #[.val (.ref r0)] [(.int b28)]) := by
        intro target kt
        refine XS.ifNo X28.here hx rfl (hb hby d10_28) rfl ((if0 _ _).trans (feq (fun q => hb28.mp q bl)).1) ?_
        exact kt
      have st31 : own_S p e below T28 (mkF m 33 #[.val (.ref r0)] [(.ref r0), (.ref r0)]) (mkF m 31 #[.val (.ref r0)] []) := by
        intro target kt
        refine XS.aloadN X28.here hx rfl (hb hby d10_31) rfl rfl ?_
        refine XS.dup X28.here hx rfl (hb hby d10_32) rfl rfl ?_
        exact kt
      obtain ⟨T32, X32, e32, st32⟩ := getF X28 hx hZ hown (host := "") (Or.inl (own_w hw 62 rfl)) Via.refl e28 F_at_r0_17 (g := (mkF m 33 #[.val (.ref r0)] [(.ref r0), (.ref r0)])) rfl rfl (hb hby d10_33)
      have st33 : own_S p e below T32 (mkF m 38 #[.val (.ref r0)] [(.int (2 : Int32)), (.ref r0)]) (mkF m 36 #[.val (.ref r0)] [(.int (1 : Int32)), (.ref r0)]) := by
        intro target kt
        refine XS.iconst X32.here hx rfl (hb hby d10_36) ?_
        refine XS.iadd X32.here hx rfl (hb hby d10_37) rfl ?_
        exact kt
      obtain ⟨T34, h34, X34, e34, W34, st34⟩ := putF X32 hx hZ hown (host := "") (Or.inl (own_w hw 62 rfl)) Via.refl e32 F_at_r0_17 Ec_17 (Or.inl (own_w hw 63 rfl)) (own_w hw 6 rfl) (ty := .int) (by decide) rfl rfl (g := (mkF m 38 #[.val (.ref r0)] [(.int (2 : Int32)), (.ref r0)])) rfl rfl (hb hby d10_38)
      have F_at_r0_34 : Fld Z h34 r0 "com/example/libbisim/libbisim/TextFormat$Cursor" "at" "I" (.int (2 : Int32)) := F_at_r0_17.same W34
      have Od_34 := Od_17.wr W34 g_r0
      have Ft_34 := Ft_17.other W34 (Or.inr (slot_ne (Or.inr (own_w hw 46 rfl)) (Or.inl (own_w hw 63 rfl)) (by decide) (t := (.object "java/lang/String")) (t' := .int) (by decide) (by decide)))
      have Ec_34 := Ec_17.wr W34
      have Fv_34 := Fv_17.other W34 (Or.inl ne1)
      have Et_34 := Et_17.wr W34
      have SF_34 := SF_17.other W34 ne1 ne2
      have Z_34 : n0 ≤ h34.size := Nat.le_trans Z_17 (Keep.of_wr W34).1
      have Kp_34 : Keep h0 h34 [r0] := Kp_17.wr W34 (Or.inl (List.mem_of_getElem? (i := 0) rfl))
      have N34 := Fr.snoc X34 N28 g_r0
      have st35 : own_S p e below T34 (mkF m 1 #[.val (.ref r0)] [(.ref r0)]) (mkF m 41 #[.val (.ref r0)] []) := by
        intro target kt
        refine XS.goto X34.here hx rfl (pc0 := 41) (pc' := 0) rfl (hb hby d10_41) (by decide) (by decide) ?_
        refine XS.aloadN X34.here hx rfl (hb hby d10_0) rfl rfl ?_
        exact kt
      obtain ⟨T36, X36, e36, st36⟩ := getF X34 hx hZ hown (host := "") (Or.inl (own_w hw 62 rfl)) Via.refl e34 F_at_r0_34 (g := (mkF m 1 #[.val (.ref r0)] [(.ref r0)])) rfl rfl (hb hby d10_1)
      have st37 : own_S p e below T36 (mkF m 5 #[.val (.ref r0)] [(.ref r0), (.int (2 : Int32))]) (mkF m 4 #[.val (.ref r0)] [(.int (2 : Int32))]) := by
        intro target kt
        refine XS.aloadN X36.here hx rfl (hb hby d10_4) rfl rfl ?_
        exact kt
      obtain ⟨T38, X38, e38, st38⟩ := getF X36 hx hZ hown (host := "") (Or.inl (own_w hw 45 rfl)) Via.refl e36 Ft_34 (g := (mkF m 5 #[.val (.ref r0)] [(.ref r0), (.int (2 : Int32))])) rfl rfl (hb hby d10_5)
      obtain ⟨cq39, kq39, qv39a, qv39b, qv39c⟩ := isOf hZ e38 Et_34
      obtain ⟨_, _, ⟨T39, L39, k39, n39⟩, -, X39, ⟨Lc39, hQ39, l39, y39, z39⟩, st39⟩ := X38.virtualBack hx (y := (⟨"java/lang/String", "length", "()I"⟩ : MethodName)) (z := (⟨"java/lang/String", "length", "()I"⟩ : MethodName)) hown (mvT hZ (own_w hw 64 rfl)) (mvT hZ (own_w hw 65 rfl)) (notFace_of_selects (args := #[]) (mvT hZ (own_w hw 67 rfl))) (mvT hZ (own_w hw 67 rfl)) (mvT hZ (own_w hw 66 rfl)) (by decide) (backOf (W := 1) (rmLenB l Z a0 hw [] t cs fm y ky c0 c1 c2 c3 h34 n0 Z_34 SB Od_34 Fv_34 Et_34 SF_34) hZ (own_w hw 68 rfl) (own_w hw 10 rfl) (by decide) (by decide)) qv39a qv39c (g := (mkF m 8 #[.val (.ref r0)] [(.ref t), (.int (2 : Int32))])) rfl (by rw [hml]; rfl) (Steps.refl _) (argsL := []) (rest := [(.int (2 : Int32))]) (lenOf pd_9 rfl) rfl (by show 2 * 0 + _ ≤ _; exact Nat.le_of_eq rfl) (hb hby d10_8) (fun _ _ => ⟨rfl, e38, (by decide : 0 + 0 ≤ _), (by decide : 0 + 0 ≤ _)⟩)
      dsimp only [Pt.U, Pt.locs, Pt.cells, Pt.slots] at X39 l39 y39 z39 st39 hQ39
      subst l39 y39 z39
      obtain ⟨rfl, Nq39, e39⟩ := hQ39
      have N39 := Fr.app N34 Nq39
      have st40 : own_S p e below T39 (mkF m 15 #[.val (.ref r0)] [(.ref r0)]) (mkF m 11 #[.val (.ref r0)] [(.int (4 : Int32)), (.int (2 : Int32))]) := by
        intro target kt
        refine XS.icmpNo X39.here hx rfl (hb hby d10_11) rfl (tlt (by decide : ((2 : Int32) < (4 : Int32)))).2.1 ?_
        refine XS.aloadN X39.here hx rfl (hb hby d10_14) rfl rfl ?_
        exact kt
      obtain ⟨T41, X41, e41, st41⟩ := getF X39 hx hZ hown (host := "") (Or.inl (own_w hw 45 rfl)) Via.refl e39 Ft_34 (g := (mkF m 15 #[.val (.ref r0)] [(.ref r0)])) rfl rfl (hb hby d10_15)
      have st42 : own_S p e below T41 (mkF m 19 #[.val (.ref r0)] [(.ref r0), (.ref t)]) (mkF m 18 #[.val (.ref r0)] [(.ref t)]) := by
        intro target kt
        refine XS.aloadN X41.here hx rfl (hb hby d10_18) rfl rfl ?_
        exact kt
      obtain ⟨T43, X43, e43, st43⟩ := getF X41 hx hZ hown (host := "") (Or.inl (own_w hw 62 rfl)) Via.refl e41 F_at_r0_34 (g := (mkF m 19 #[.val (.ref r0)] [(.ref r0), (.ref t)])) rfl rfl (hb hby d10_19)
      obtain ⟨cq44, kq44, qv44a, qv44b, qv44c⟩ := isOf hZ e43 Et_34
      obtain ⟨_, _, ⟨T44, L44, k44, n44⟩, -, X44, ⟨Lc44, hQ44, l44, y44, z44⟩, st44⟩ := X43.virtualBack hx (y := (⟨"java/lang/String", "charAt", "(I)C"⟩ : MethodName)) (z := (⟨"java/lang/String", "charAt", "(I)C"⟩ : MethodName)) hown (mvT hZ (own_w hw 74 rfl)) (mvT hZ (own_w hw 75 rfl)) (notFace_of_selects (args := #[]) (mvT hZ (own_w hw 77 rfl))) (mvT hZ (own_w hw 77 rfl)) (mvT hZ (own_w hw 76 rfl)) (by decide) (backOf (W := 0) (rmChB l Z a0 hw [] t (2 : Int32) cs fm y ky c0 c1 c2 c3 c2 h34 n0 Z_34 SB Od_34 Fv_34 Et_34 SF_34 (Or.inr (Or.inr (Or.inl ⟨rfl, rfl⟩)))) hZ (own_w hw 78 rfl) (own_w hw 10 rfl) (by decide) (by decide)) qv44a qv44c (g := (mkF m 22 #[.val (.ref r0)] [(.int (2 : Int32)), (.ref t)])) rfl (by rw [hml]; rfl) (Steps.refl _) (argsL := [(.int (2 : Int32))]) (rest := []) (lenOf pd_11 rfl) rfl (by show 2 * 0 + _ ≤ _; exact Nat.le_of_eq rfl) (hb hby d10_22) (fun _ _ => ⟨rfl, e43, (by decide : 0 + 0 ≤ _), (by decide : 0 + 0 ≤ _)⟩)
      dsimp only [Pt.U, Pt.locs, Pt.cells, Pt.slots] at X44 l44 y44 z44 st44 hQ44
      subst l44 y44 z44
      obtain ⟨rfl, Nq44, e44⟩ := hQ44
      have N44 := Fr.app N39 Nq44
      obtain ⟨_, _, ⟨T45, L45, k45, n45⟩, -, X45, ⟨Lc45, hQ45, l45, y45, z45⟩, st45⟩ := Jvm.RoadKit.callSN X44 hx (y := (⟨"com/example/libbisim/libbisim/TextFormat", "isBlank", "(C)Z"⟩ : MethodName)) hown ((Cond.methodLinkNest_wide hZ (own_w hw 96 rfl)) :) (mvT hZ (own_w hw 97 rfl)) (mvT hZ (own_w hw 98 rfl)) (mvT hZ (own_w hw 99 rfl)) (by decide) (backOf (W := 0) (rmBl l Z a0 hw [] c2  h34 n0 Z_34 ) hZ (own_w hw 99 rfl) (own_w hw 98 rfl) (by decide) (by decide)) (g := (mkF m 25 #[.val (.ref r0)] [(.int c2)])) rfl (by rw [hml]; rfl) (argsL := [(.int c2)]) (rest := []) (lenOf pd_16 rfl) rfl (by show 2 * 0 + _ ≤ _; exact Nat.le_of_eq rfl) (hb hby d10_25) (fun _ _ => ⟨rfl, e44, (by decide : 0 + 0 ≤ _), (by decide : 0 + 0 ≤ _)⟩)
      dsimp only [Pt.U, Pt.locs, Pt.cells, Pt.slots] at X45 l45 y45 z45 st45 hQ45
      subst l45 y45 z45
      obtain ⟨b45, hb45, rfl, Nq45, e45⟩ := hQ45
      have N45 := Fr.app N44 Nq45
      rcases hB with ⟨rfl, nb⟩ | ⟨bl, hB⟩
      · have st46 : own_S p e below T45 (mkF m 44 #[.val (.ref r0)] []) (mkF m 28 #[.val (.ref r0)] [(.int b45)]) := by
          intro target kt
          refine XS.ifYes X45.here hx rfl (pc0 := 28) (pc' := 44) rfl (hb hby d10_28) rfl ((if0 _ _).trans (teq (hb45.mpr nb)).1) (by decide) (by decide) ?_
          exact kt
        obtain ⟨fs, hr, hrun, hended, hW, hsame⟩ := X45.leave (v := none) (fun _ => rfl)
        refine ⟨_, _, pre0 _ (st1 _ (st2 _ (st3 _ (st4 _ (st5.trans (st6 _ (st7 _ (st8 _ (st9 _ (st10.trans (st11.trans (st13 _ (st14 _ (st15 _ (st16 _ (st17 _ (st18 _ (st19 _ (st20 _ (st21 _ (st22.trans (st23 _ (st24 _ (st25 _ (st26 _ (st27.trans (st28.trans (st30 _ (st31 _ (st32 _ (st33 _ (st34 _ (st35 _ (st36 _ (st37 _ (st38 _ (st39.trans (st40 _ (st41 _ (st42 _ (st43 _ (st44.trans (st45.trans (st46 _ ?_)))))))))))))))))))))))))))))))))))))))))))), hrun, hended, _, _, rfl, ?_, ⟨_, rfl⟩, hW, hsame.mono (by decide) (by decide)⟩
        · show Steps p.tables e below (T45.setTop (mkF m 44 #[.val (.ref r0)] [])) _
          exact X45.returnOut hx Bd.returns (hb hby d10_44) hr
        · show Q_rmSkip Z r0 cs fm t y ky c0 c1 c2 c3 (2 : Int32) h0 n0 _ T45.heap _
          rw [e45]
          exact ⟨rfl, N45, Kp_34, Ft_34, F_at_r0_34⟩
      · have st47 : own_S p e below T45 (mkF m 31 #[.val (.ref r0)] []) (mkF m 28 #[.val (.ref r0)] [(.int b45)]) := by
          intro target kt
          refine XS.ifNo X45.here hx rfl (hb hby d10_28) rfl ((if0 _ _).trans (feq (fun q => hb45.mp q bl)).1) ?_
          exact kt
        have st48 : own_S p e below T45 (mkF m 33 #[.val (.ref r0)] [(.ref r0), (.ref r0)]) (mkF m 31 #[.val (.ref r0)] []) := by
          intro target kt
          refine XS.aloadN X45.here hx rfl (hb hby d10_31) rfl rfl ?_
          refine XS.dup X45.here hx rfl (hb hby d10_32) rfl rfl ?_
          exact kt
        obtain ⟨T49, X49, e49, st49⟩ := getF X45 hx hZ hown (host := "") (Or.inl (own_w hw 62 rfl)) Via.refl e45 F_at_r0_34 (g := (mkF m 33 #[.val (.ref r0)] [(.ref r0), (.ref r0)])) rfl rfl (hb hby d10_33)
        have st50 : own_S p e below T49 (mkF m 38 #[.val (.ref r0)] [(.int (3 : Int32)), (.ref r0)]) (mkF m 36 #[.val (.ref r0)] [(.int (2 : Int32)), (.ref r0)]) := by
          intro target kt
          refine XS.iconst X49.here hx rfl (hb hby d10_36) ?_
          refine XS.iadd X49.here hx rfl (hb hby d10_37) rfl ?_
          exact kt
        obtain ⟨T51, h51, X51, e51, W51, st51⟩ := putF X49 hx hZ hown (host := "") (Or.inl (own_w hw 62 rfl)) Via.refl e49 F_at_r0_34 Ec_34 (Or.inl (own_w hw 63 rfl)) (own_w hw 6 rfl) (ty := .int) (by decide) rfl rfl (g := (mkF m 38 #[.val (.ref r0)] [(.int (3 : Int32)), (.ref r0)])) rfl rfl (hb hby d10_38)
        have F_at_r0_51 : Fld Z h51 r0 "com/example/libbisim/libbisim/TextFormat$Cursor" "at" "I" (.int (3 : Int32)) := F_at_r0_34.same W51
        have Od_51 := Od_34.wr W51 g_r0
        have Ft_51 := Ft_34.other W51 (Or.inr (slot_ne (Or.inr (own_w hw 46 rfl)) (Or.inl (own_w hw 63 rfl)) (by decide) (t := (.object "java/lang/String")) (t' := .int) (by decide) (by decide)))
        have Ec_51 := Ec_34.wr W51
        have Fv_51 := Fv_34.other W51 (Or.inl ne1)
        have Et_51 := Et_34.wr W51
        have SF_51 := SF_34.other W51 ne1 ne2
        have Z_51 : n0 ≤ h51.size := Nat.le_trans Z_34 (Keep.of_wr W51).1
        have Kp_51 : Keep h0 h51 [r0] := Kp_34.wr W51 (Or.inl (List.mem_of_getElem? (i := 0) rfl))
        have N51 := Fr.snoc X51 N45 g_r0
        have st52 : own_S p e below T51 (mkF m 1 #[.val (.ref r0)] [(.ref r0)]) (mkF m 41 #[.val (.ref r0)] []) := by
          intro target kt
          refine XS.goto X51.here hx rfl (pc0 := 41) (pc' := 0) rfl (hb hby d10_41) (by decide) (by decide) ?_
          refine XS.aloadN X51.here hx rfl (hb hby d10_0) rfl rfl ?_
          exact kt
        obtain ⟨T53, X53, e53, st53⟩ := getF X51 hx hZ hown (host := "") (Or.inl (own_w hw 62 rfl)) Via.refl e51 F_at_r0_51 (g := (mkF m 1 #[.val (.ref r0)] [(.ref r0)])) rfl rfl (hb hby d10_1)
        have st54 : own_S p e below T53 (mkF m 5 #[.val (.ref r0)] [(.ref r0), (.int (3 : Int32))]) (mkF m 4 #[.val (.ref r0)] [(.int (3 : Int32))]) := by
          intro target kt
          refine XS.aloadN X53.here hx rfl (hb hby d10_4) rfl rfl ?_
          exact kt
        obtain ⟨T55, X55, e55, st55⟩ := getF X53 hx hZ hown (host := "") (Or.inl (own_w hw 45 rfl)) Via.refl e53 Ft_51 (g := (mkF m 5 #[.val (.ref r0)] [(.ref r0), (.int (3 : Int32))])) rfl rfl (hb hby d10_5)
        obtain ⟨cq56, kq56, qv56a, qv56b, qv56c⟩ := isOf hZ e55 Et_51
        obtain ⟨_, _, ⟨T56, L56, k56, n56⟩, -, X56, ⟨Lc56, hQ56, l56, y56, z56⟩, st56⟩ := X55.virtualBack hx (y := (⟨"java/lang/String", "length", "()I"⟩ : MethodName)) (z := (⟨"java/lang/String", "length", "()I"⟩ : MethodName)) hown (mvT hZ (own_w hw 64 rfl)) (mvT hZ (own_w hw 65 rfl)) (notFace_of_selects (args := #[]) (mvT hZ (own_w hw 67 rfl))) (mvT hZ (own_w hw 67 rfl)) (mvT hZ (own_w hw 66 rfl)) (by decide) (backOf (W := 1) (rmLenB l Z a0 hw [] t cs fm y ky c0 c1 c2 c3 h51 n0 Z_51 SB Od_51 Fv_51 Et_51 SF_51) hZ (own_w hw 68 rfl) (own_w hw 10 rfl) (by decide) (by decide)) qv56a qv56c (g := (mkF m 8 #[.val (.ref r0)] [(.ref t), (.int (3 : Int32))])) rfl (by rw [hml]; rfl) (Steps.refl _) (argsL := []) (rest := [(.int (3 : Int32))]) (lenOf pd_9 rfl) rfl (by show 2 * 0 + _ ≤ _; exact Nat.le_of_eq rfl) (hb hby d10_8) (fun _ _ => ⟨rfl, e55, (by decide : 0 + 0 ≤ _), (by decide : 0 + 0 ≤ _)⟩)
        dsimp only [Pt.U, Pt.locs, Pt.cells, Pt.slots] at X56 l56 y56 z56 st56 hQ56
        subst l56 y56 z56
        obtain ⟨rfl, Nq56, e56⟩ := hQ56
        have N56 := Fr.app N51 Nq56
        have st57 : own_S p e below T56 (mkF m 15 #[.val (.ref r0)] [(.ref r0)]) (mkF m 11 #[.val (.ref r0)] [(.int (4 : Int32)), (.int (3 : Int32))]) := by
          intro target kt
          refine XS.icmpNo X56.here hx rfl (hb hby d10_11) rfl (tlt (by decide : ((3 : Int32) < (4 : Int32)))).2.1 ?_
          refine XS.aloadN X56.here hx rfl (hb hby d10_14) rfl rfl ?_
          exact kt
        obtain ⟨T58, X58, e58, st58⟩ := getF X56 hx hZ hown (host := "") (Or.inl (own_w hw 45 rfl)) Via.refl e56 Ft_51 (g := (mkF m 15 #[.val (.ref r0)] [(.ref r0)])) rfl rfl (hb hby d10_15)
        have st59 : own_S p e below T58 (mkF m 19 #[.val (.ref r0)] [(.ref r0), (.ref t)]) (mkF m 18 #[.val (.ref r0)] [(.ref t)]) := by
          intro target kt
          refine XS.aloadN X58.here hx rfl (hb hby d10_18) rfl rfl ?_
          exact kt
        obtain ⟨T60, X60, e60, st60⟩ := getF X58 hx hZ hown (host := "") (Or.inl (own_w hw 62 rfl)) Via.refl e58 F_at_r0_51 (g := (mkF m 19 #[.val (.ref r0)] [(.ref r0), (.ref t)])) rfl rfl (hb hby d10_19)
        obtain ⟨cq61, kq61, qv61a, qv61b, qv61c⟩ := isOf hZ e60 Et_51
        obtain ⟨_, _, ⟨T61, L61, k61, n61⟩, -, X61, ⟨Lc61, hQ61, l61, y61, z61⟩, st61⟩ := X60.virtualBack hx (y := (⟨"java/lang/String", "charAt", "(I)C"⟩ : MethodName)) (z := (⟨"java/lang/String", "charAt", "(I)C"⟩ : MethodName)) hown (mvT hZ (own_w hw 74 rfl)) (mvT hZ (own_w hw 75 rfl)) (notFace_of_selects (args := #[]) (mvT hZ (own_w hw 77 rfl))) (mvT hZ (own_w hw 77 rfl)) (mvT hZ (own_w hw 76 rfl)) (by decide) (backOf (W := 0) (rmChB l Z a0 hw [] t (3 : Int32) cs fm y ky c0 c1 c2 c3 c3 h51 n0 Z_51 SB Od_51 Fv_51 Et_51 SF_51 (Or.inr (Or.inr (Or.inr ⟨rfl, rfl⟩)))) hZ (own_w hw 78 rfl) (own_w hw 10 rfl) (by decide) (by decide)) qv61a qv61c (g := (mkF m 22 #[.val (.ref r0)] [(.int (3 : Int32)), (.ref t)])) rfl (by rw [hml]; rfl) (Steps.refl _) (argsL := [(.int (3 : Int32))]) (rest := []) (lenOf pd_11 rfl) rfl (by show 2 * 0 + _ ≤ _; exact Nat.le_of_eq rfl) (hb hby d10_22) (fun _ _ => ⟨rfl, e60, (by decide : 0 + 0 ≤ _), (by decide : 0 + 0 ≤ _)⟩)
        dsimp only [Pt.U, Pt.locs, Pt.cells, Pt.slots] at X61 l61 y61 z61 st61 hQ61
        subst l61 y61 z61
        obtain ⟨rfl, Nq61, e61⟩ := hQ61
        have N61 := Fr.app N56 Nq61
        obtain ⟨_, _, ⟨T62, L62, k62, n62⟩, -, X62, ⟨Lc62, hQ62, l62, y62, z62⟩, st62⟩ := Jvm.RoadKit.callSN X61 hx (y := (⟨"com/example/libbisim/libbisim/TextFormat", "isBlank", "(C)Z"⟩ : MethodName)) hown ((Cond.methodLinkNest_wide hZ (own_w hw 96 rfl)) :) (mvT hZ (own_w hw 97 rfl)) (mvT hZ (own_w hw 98 rfl)) (mvT hZ (own_w hw 99 rfl)) (by decide) (backOf (W := 0) (rmBl l Z a0 hw [] c3  h51 n0 Z_51 ) hZ (own_w hw 99 rfl) (own_w hw 98 rfl) (by decide) (by decide)) (g := (mkF m 25 #[.val (.ref r0)] [(.int c3)])) rfl (by rw [hml]; rfl) (argsL := [(.int c3)]) (rest := []) (lenOf pd_16 rfl) rfl (by show 2 * 0 + _ ≤ _; exact Nat.le_of_eq rfl) (hb hby d10_25) (fun _ _ => ⟨rfl, e61, (by decide : 0 + 0 ≤ _), (by decide : 0 + 0 ≤ _)⟩)
        dsimp only [Pt.U, Pt.locs, Pt.cells, Pt.slots] at X62 l62 y62 z62 st62 hQ62
        subst l62 y62 z62
        obtain ⟨b62, hb62, rfl, Nq62, e62⟩ := hQ62
        have N62 := Fr.app N61 Nq62
        obtain ⟨rfl, nb⟩ := hB
        have st63 : own_S p e below T62 (mkF m 44 #[.val (.ref r0)] []) (mkF m 28 #[.val (.ref r0)] [(.int b62)]) := by
          intro target kt
          refine XS.ifYes X62.here hx rfl (pc0 := 28) (pc' := 44) rfl (hb hby d10_28) rfl ((if0 _ _).trans (teq (hb62.mpr nb)).1) (by decide) (by decide) ?_
          exact kt
        obtain ⟨fs, hr, hrun, hended, hW, hsame⟩ := X62.leave (v := none) (fun _ => rfl)
        refine ⟨_, _, pre0 _ (st1 _ (st2 _ (st3 _ (st4 _ (st5.trans (st6 _ (st7 _ (st8 _ (st9 _ (st10.trans (st11.trans (st13 _ (st14 _ (st15 _ (st16 _ (st17 _ (st18 _ (st19 _ (st20 _ (st21 _ (st22.trans (st23 _ (st24 _ (st25 _ (st26 _ (st27.trans (st28.trans (st30 _ (st31 _ (st32 _ (st33 _ (st34 _ (st35 _ (st36 _ (st37 _ (st38 _ (st39.trans (st40 _ (st41 _ (st42 _ (st43 _ (st44.trans (st45.trans (st47 _ (st48 _ (st49 _ (st50 _ (st51 _ (st52 _ (st53 _ (st54 _ (st55 _ (st56.trans (st57 _ (st58 _ (st59 _ (st60 _ (st61.trans (st62.trans (st63 _ ?_)))))))))))))))))))))))))))))))))))))))))))))))))))))))))))), hrun, hended, _, _, rfl, ?_, ⟨_, rfl⟩, hW, hsame.mono (by decide) (by decide)⟩
        · show Steps p.tables e below (T62.setTop (mkF m 44 #[.val (.ref r0)] [])) _
          exact X62.returnOut hx Bd.returns (hb hby d10_44) hr
        · show Q_rmSkip Z r0 cs fm t y ky c0 c1 c2 c3 (3 : Int32) h0 n0 _ T62.heap _
          rw [e62]
          exact ⟨rfl, N62, Kp_51, Ft_51, F_at_r0_51⟩
theorem d9_0 : decode prog_69_method_3_code 0 = .ok (.aload_n 0, 1) := by decide +kernel
theorem d9_1 : decode prog_69_method_3_code 1 = .ok (.invokevirtual 28, 3) := by decide +kernel
theorem d9_4 : decode prog_69_method_3_code 4 = .ok (.aload_n 0, 1) := by decide +kernel
theorem d9_5 : decode prog_69_method_3_code 5 = .ok (.getfield 31, 3) := by decide +kernel
theorem d9_8 : decode prog_69_method_3_code 8 = .ok (.aload_n 0, 1) := by decide +kernel
theorem d9_9 : decode prog_69_method_3_code 9 = .ok (.getfield 7, 3) := by decide +kernel
theorem d9_12 : decode prog_69_method_3_code 12 = .ok (.invokevirtual 35, 3) := by decide +kernel
theorem d9_15 : decode prog_69_method_3_code 15 = .ok (.if_icmp .eq 18, 3) := by decide +kernel
theorem d9_18 : decode prog_69_method_3_code 18 = .ok (.aload_n 0, 1) := by decide +kernel
theorem d9_19 : decode prog_69_method_3_code 19 = .ok (.getfield 7, 3) := by decide +kernel
theorem d9_22 : decode prog_69_method_3_code 22 = .ok (.aload_n 0, 1) := by decide +kernel
theorem d9_23 : decode prog_69_method_3_code 23 = .ok (.getfield 31, 3) := by decide +kernel
theorem d9_26 : decode prog_69_method_3_code 26 = .ok (.invokevirtual 41, 3) := by decide +kernel
theorem d9_29 : decode prog_69_method_3_code 29 = .ok (.iload_n 1, 1) := by decide +kernel
theorem d9_30 : decode prog_69_method_3_code 30 = .ok (.if_icmp .eq 12, 3) := by decide +kernel
theorem d9_42 : decode prog_69_method_3_code 42 = .ok (.aload_n 0, 1) := by decide +kernel
theorem d9_43 : decode prog_69_method_3_code 43 = .ok (.dup, 1) := by decide +kernel
theorem d9_44 : decode prog_69_method_3_code 44 = .ok (.getfield 31, 3) := by decide +kernel
theorem d9_47 : decode prog_69_method_3_code 47 = .ok (.iconst 1, 1) := by decide +kernel
theorem d9_48 : decode prog_69_method_3_code 48 = .ok (.iadd, 1) := by decide +kernel
theorem d9_49 : decode prog_69_method_3_code 49 = .ok (.putfield 31, 3) := by decide +kernel
theorem d9_52 : decode prog_69_method_3_code 52 = .ok (.return_, 1) := by decide +kernel
theorem ef_rmExp (m : MethodId) (x0 : Addr) (x1 : Int32) : entryFrame m #[(.ref x0), (.int x1)] 2 = mkF m 0 #[.val (.ref x0), .val (.int x1)] [] := by first | (simp [entryFrame, mkF, argsToLocals, Value.category]; done) | rfl
def Q_rmExp (Z : State) (r0 : Addr) (p1 : Int32) (cs : Int32) (fm : Value) (t : Addr) (y : Addr) (ky : ClassId) (c0 : Int32) (c1 : Int32) (c2 : Int32) (c3 : Int32) (k : Int32) (h0 : Heap) (n0 : Nat) (v : Option Value) (h : Heap) (L : List Loc) : Prop := v = none ∧ Fr n0 L ∧ Keep h0 h [r0] ∧ Fld Z h r0 "com/example/libbisim/libbisim/TextFormat$Cursor" "text" "Ljava/lang/String;" (.ref t) ∧ Fld Z h r0 "com/example/libbisim/libbisim/TextFormat$Cursor" "at" "I" (.int (k + (1 : Int32)))
set_option maxRecDepth 65536 in
set_option maxHeartbeats 40000000 in
theorem rmExp (l : Launch) (Z : State) (a0 : Array Value) (hw : ∀ d ∈ tables_1, d.before a0 Z = true) (ws : List Jvm.Cond) (r0 : Addr) (p1 : Int32) (cs : Int32) (fm : Value) (t : Addr) (y : Addr) (ky : ClassId) (c0 : Int32) (c1 : Int32) (c2 : Int32) (c3 : Int32) (k : Int32) (h0 : Heap) (n0 : Nat) (Z0 : n0 ≤ h0.size) (SB : own_St Z cs fm) (Od : Old Z n0 h0) (Ft : Fld Z h0 r0 "com/example/libbisim/libbisim/TextFormat$Cursor" "text" "Ljava/lang/String;" (.ref t)) (Fa : Fld Z h0 r0 "com/example/libbisim/libbisim/TextFormat$Cursor" "at" "I" (.int (0 : Int32))) (Ec : Exa Z h0 r0 "com/example/libbisim/libbisim/TextFormat$Cursor") (g_r0 : n0 ≤ r0) (Fv : Fld Z h0 t "java/lang/String" "value" "[B" (.ref y)) (Et : Exa Z h0 t "java/lang/String") (SF : own_SF Z h0 t y ky c0 c1 c2 c3) (ne1 : t ≠ r0) (ne2 : y ≠ r0) (hB : own_B k c0 c1 c2 c3) (hix : own_ix4 k p1 c0 c1 c2 c3) (hk4 : ¬ k = (4 : Int32)) :
    MetFree l (⟨"com/example/libbisim/libbisim/TextFormat$Cursor", "expect", "(C)V"⟩ : MethodName) (head1 (Jvm.Cond.code (⟨"com/example/libbisim/libbisim/TextFormat$Cursor", "expect", "(C)V"⟩ : MethodName) prog_69_method_3_code 2 none :: ws) ({ frames := 6, cells := 0, slots := 0, locals := 78 } : Room)) (fun a U => a = #[(.ref r0), (.int p1)] ∧ Z.Warmed39 U.vm ∧ U.heap = h0) (fun _ _ _ _ _ => True) (fun _ U o U' => ∃ v L, o = .returned v ∧ Q_rmExp Z r0 p1 cs fm t y ky c0 c1 c2 c3 k h0 n0 v U'.heap L ∧ FrameEnd U o U' L ({ frames := 6, cells := 0, slots := 0, locals := 78 } : Room).cells ({ frames := 6, cells := 0, slots := 0, locals := 78 } : Room).slots) := by
  refine MetFree.of_bodySF (plainFor_of_name pn_4) hisR ?_
  intro p e s m args below meth c s₁ Bd hml0 hP hK
  obtain ⟨rfl, hZ, hh⟩ := hP
  have hx := Bd.exec
  have hby := Bd.bytes
  have hml : c.maxLocals = 2 := hml0
  have hown : s.vm.findClass "com/example/libbisim/libbisim/TextFormat$Cursor" = some m.cls := findClass_of_methodNamed Bd.named
  have hnm := (name_of_methodNamed Bd.named Bd.method).1
  have X0 : Stand p l e ({ frames := 6, cells := 0, slots := 0, locals := 78 } : Room) s m #[(.ref r0), (.int p1)] below meth c s₁ [] 0 0 := Stand.of_body Bd
  have e0 : s₁.heap = h0 := by rw [← hh, Bd.state]; rfl
  have N0 := Fr.nil n0
  have pre0 : ∀ t, Steps p.tables e below (s₁.setTop (mkF m 0 #[.val (.ref r0), .val (.int p1)] [])) t → Steps p.tables e below (s₁.setTop (entryFrame m #[(.ref r0), (.int p1)] 2)) t := fun t k => castTop (ef_rmExp m r0 p1) k
  have Kp : Keep h0 h0 [r0] := Keep.refl _ _
  have st1 : own_S p e below s₁ (mkF m 1 #[.val (.ref r0), .val (.int p1)] [(.ref r0)]) (mkF m 0 #[.val (.ref r0), .val (.int p1)] []) := by
    intro target kt
    refine XS.aloadN X0.here hx rfl (hb hby d9_0) rfl rfl ?_
    exact kt
  obtain ⟨cq2, qp2, qp2'⟩ := Ec.cell
  obtain ⟨_, _, ⟨T2, L2, k2, n2⟩, -, X2, ⟨Lc2, hQ2, l2, y2, z2⟩, st2⟩ := X0.privateBack hx (y := (⟨"com/example/libbisim/libbisim/TextFormat$Cursor", "skipBlanks", "()V"⟩ : MethodName)) hown (mvT hZ (own_w hw 58 rfl)) (mvT hZ (own_w hw 59 rfl)) (mvT hZ (own_selp (y := (⟨"com/example/libbisim/libbisim/TextFormat$Cursor", "skipBlanks", "()V"⟩ : MethodName)) (by decide) (own_w hw 6 rfl) (own_w hw 60 rfl) (own_w hw 59 rfl))) (Cond.privateMethod_at (mvP hZ (own_w hw 60 rfl) (args := #[]))) (mvT hZ (own_w hw 61 rfl)) (by decide) (backOf (W := 0) (rmSkip l Z a0 hw [] r0 cs fm t y ky c0 c1 c2 c3 k h0 n0 Z0 SB Od Ft Fa Ec g_r0 Fv Et SF ne1 ne2 hB) hZ (own_w hw 61 rfl) (own_w hw 7 rfl) (by decide) (by decide)) (g := (mkF m 1 #[.val (.ref r0), .val (.int p1)] [(.ref r0)])) rfl (by rw [hml]; rfl) (Steps.refl _) (a := r0) (by rw [e0]; exact qp2) qp2' (argsL := []) (rest := []) (lenOf pd_3 rfl) rfl (by show 2 * 0 + _ ≤ _; exact Nat.le_of_eq rfl) (hb hby d9_1) (fun _ _ => ⟨rfl, e0, (by decide : 0 + 0 ≤ _), (by decide : 0 + 0 ≤ _)⟩)
  dsimp only [Pt.U, Pt.locs, Pt.cells, Pt.slots] at X2 l2 y2 z2 st2 hQ2
  subst l2 y2 z2
  obtain ⟨rfl, Nq2, K2, Ft_, Fa_⟩ := hQ2
  have N2 := Fr.app N0 Nq2
  have Od_2 := Od.keep K2 (allS g_r0 (all0))
  have Ec_2 := Ec.keep K2
  have Fv_2 := Fv.keep K2 (ninS ne1 nin0)
  have Et_2 := Et.keep K2
  have SF_2 := SF.keep K2 (ninS ne1 nin0) (ninS ne2 nin0)
  have Z_2 : n0 ≤ T2.heap.size := Nat.le_trans Z0 K2.1
  have Kp_2 : Keep h0 T2.heap [r0] := Kp.trans K2 (allS (Or.inl (List.mem_of_getElem? (i := 0) rfl)) (all0))
  have st3 : own_S p e below T2 (mkF m 5 #[.val (.ref r0), .val (.int p1)] [(.ref r0)]) (mkF m 4 #[.val (.ref r0), .val (.int p1)] []) := by
    intro target kt
    refine XS.aloadN X2.here hx rfl (hb hby d9_4) rfl rfl ?_
    exact kt
  obtain ⟨T4, X4, e4, st4⟩ := getF X2 hx hZ hown (host := "") (Or.inl (own_w hw 62 rfl)) Via.refl rfl Fa_ (g := (mkF m 5 #[.val (.ref r0), .val (.int p1)] [(.ref r0)])) rfl rfl (hb hby d9_5)
  have st5 : own_S p e below T4 (mkF m 9 #[.val (.ref r0), .val (.int p1)] [(.ref r0), (.int k)]) (mkF m 8 #[.val (.ref r0), .val (.int p1)] [(.int k)]) := by
    intro target kt
    refine XS.aloadN X4.here hx rfl (hb hby d9_8) rfl rfl ?_
    exact kt
  obtain ⟨T6, X6, e6, st6⟩ := getF X4 hx hZ hown (host := "") (Or.inl (own_w hw 45 rfl)) Via.refl e4 Ft_ (g := (mkF m 9 #[.val (.ref r0), .val (.int p1)] [(.ref r0), (.int k)])) rfl rfl (hb hby d9_9)
  obtain ⟨cq7, kq7, qv7a, qv7b, qv7c⟩ := isOf hZ e6 Et_2
  obtain ⟨_, _, ⟨T7, L7, k7, n7⟩, -, X7, ⟨Lc7, hQ7, l7, y7, z7⟩, st7⟩ := X6.virtualBack hx (y := (⟨"java/lang/String", "length", "()I"⟩ : MethodName)) (z := (⟨"java/lang/String", "length", "()I"⟩ : MethodName)) hown (mvT hZ (own_w hw 64 rfl)) (mvT hZ (own_w hw 65 rfl)) (notFace_of_selects (args := #[]) (mvT hZ (own_w hw 67 rfl))) (mvT hZ (own_w hw 67 rfl)) (mvT hZ (own_w hw 66 rfl)) (by decide) (backOf (W := 1) (rmLenB l Z a0 hw [] t cs fm y ky c0 c1 c2 c3 T2.heap n0 Z_2 SB Od_2 Fv_2 Et_2 SF_2) hZ (own_w hw 68 rfl) (own_w hw 10 rfl) (by decide) (by decide)) qv7a qv7c (g := (mkF m 12 #[.val (.ref r0), .val (.int p1)] [(.ref t), (.int k)])) rfl (by rw [hml]; rfl) (Steps.refl _) (argsL := []) (rest := [(.int k)]) (lenOf pd_9 rfl) rfl (by show 2 * 0 + _ ≤ _; exact Nat.le_of_eq rfl) (hb hby d9_12) (fun _ _ => ⟨rfl, e6, (by decide : 0 + 0 ≤ _), (by decide : 0 + 0 ≤ _)⟩)
  dsimp only [Pt.U, Pt.locs, Pt.cells, Pt.slots] at X7 l7 y7 z7 st7 hQ7
  subst l7 y7 z7
  obtain ⟨rfl, Nq7, e7⟩ := hQ7
  have N7 := Fr.app N2 Nq7
  have st8 : own_S p e below T7 (mkF m 19 #[.val (.ref r0), .val (.int p1)] [(.ref r0)]) (mkF m 15 #[.val (.ref r0), .val (.int p1)] [(.int (4 : Int32)), (.int k)]) := by
    intro target kt
    refine XS.icmpNo X7.here hx rfl (hb hby d9_15) rfl (feq hk4).1 ?_
    refine XS.aloadN X7.here hx rfl (hb hby d9_18) rfl rfl ?_
    exact kt
  obtain ⟨T9, X9, e9, st9⟩ := getF X7 hx hZ hown (host := "") (Or.inl (own_w hw 45 rfl)) Via.refl e7 Ft_ (g := (mkF m 19 #[.val (.ref r0), .val (.int p1)] [(.ref r0)])) rfl rfl (hb hby d9_19)
  have st10 : own_S p e below T9 (mkF m 23 #[.val (.ref r0), .val (.int p1)] [(.ref r0), (.ref t)]) (mkF m 22 #[.val (.ref r0), .val (.int p1)] [(.ref t)]) := by
    intro target kt
    refine XS.aloadN X9.here hx rfl (hb hby d9_22) rfl rfl ?_
    exact kt
  obtain ⟨T11, X11, e11, st11⟩ := getF X9 hx hZ hown (host := "") (Or.inl (own_w hw 62 rfl)) Via.refl e9 Fa_ (g := (mkF m 23 #[.val (.ref r0), .val (.int p1)] [(.ref r0), (.ref t)])) rfl rfl (hb hby d9_23)
  obtain ⟨cq12, kq12, qv12a, qv12b, qv12c⟩ := isOf hZ e11 Et_2
  obtain ⟨_, _, ⟨T12, L12, k12, n12⟩, -, X12, ⟨Lc12, hQ12, l12, y12, z12⟩, st12⟩ := X11.virtualBack hx (y := (⟨"java/lang/String", "charAt", "(I)C"⟩ : MethodName)) (z := (⟨"java/lang/String", "charAt", "(I)C"⟩ : MethodName)) hown (mvT hZ (own_w hw 74 rfl)) (mvT hZ (own_w hw 75 rfl)) (notFace_of_selects (args := #[]) (mvT hZ (own_w hw 77 rfl))) (mvT hZ (own_w hw 77 rfl)) (mvT hZ (own_w hw 76 rfl)) (by decide) (backOf (W := 0) (rmChB l Z a0 hw [] t k cs fm y ky c0 c1 c2 c3 p1 T2.heap n0 Z_2 SB Od_2 Fv_2 Et_2 SF_2 hix) hZ (own_w hw 78 rfl) (own_w hw 10 rfl) (by decide) (by decide)) qv12a qv12c (g := (mkF m 26 #[.val (.ref r0), .val (.int p1)] [(.int k), (.ref t)])) rfl (by rw [hml]; rfl) (Steps.refl _) (argsL := [(.int k)]) (rest := []) (lenOf pd_11 rfl) rfl (by show 2 * 0 + _ ≤ _; exact Nat.le_of_eq rfl) (hb hby d9_26) (fun _ _ => ⟨rfl, e11, (by decide : 0 + 0 ≤ _), (by decide : 0 + 0 ≤ _)⟩)
  dsimp only [Pt.U, Pt.locs, Pt.cells, Pt.slots] at X12 l12 y12 z12 st12 hQ12
  subst l12 y12 z12
  obtain ⟨rfl, Nq12, e12⟩ := hQ12
  have N12 := Fr.app N7 Nq12
  have st13 : own_S p e below T12 (mkF m 44 #[.val (.ref r0), .val (.int p1)] [(.ref r0), (.ref r0)]) (mkF m 29 #[.val (.ref r0), .val (.int p1)] [(.int p1)]) := by
    intro target kt
    refine XS.iloadN X12.here hx rfl (hb hby d9_29) rfl ?_
    refine XS.icmpYes X12.here hx rfl (pc0 := 30) (pc' := 42) rfl (hb hby d9_30) rfl (teq (rfl : p1 = p1)).1 (by decide) (by decide) ?_
    refine XS.aloadN X12.here hx rfl (hb hby d9_42) rfl rfl ?_
    refine XS.dup X12.here hx rfl (hb hby d9_43) rfl rfl ?_
    exact kt
  obtain ⟨T14, X14, e14, st14⟩ := getF X12 hx hZ hown (host := "") (Or.inl (own_w hw 62 rfl)) Via.refl e12 Fa_ (g := (mkF m 44 #[.val (.ref r0), .val (.int p1)] [(.ref r0), (.ref r0)])) rfl rfl (hb hby d9_44)
  have st15 : own_S p e below T14 (mkF m 49 #[.val (.ref r0), .val (.int p1)] [(.int (k + (1 : Int32))), (.ref r0)]) (mkF m 47 #[.val (.ref r0), .val (.int p1)] [(.int k), (.ref r0)]) := by
    intro target kt
    refine XS.iconst X14.here hx rfl (hb hby d9_47) ?_
    refine XS.iadd X14.here hx rfl (hb hby d9_48) rfl ?_
    exact kt
  obtain ⟨T16, h16, X16, e16, W16, st16⟩ := putF X14 hx hZ hown (host := "") (Or.inl (own_w hw 62 rfl)) Via.refl e14 Fa_ Ec_2 (Or.inl (own_w hw 63 rfl)) (own_w hw 6 rfl) (ty := .int) (by decide) rfl rfl (g := (mkF m 49 #[.val (.ref r0), .val (.int p1)] [(.int (k + (1 : Int32))), (.ref r0)])) rfl rfl (hb hby d9_49)
  have F_at_r0_16 : Fld Z h16 r0 "com/example/libbisim/libbisim/TextFormat$Cursor" "at" "I" (.int (k + (1 : Int32))) := Fa_.same W16
  have Od_16 := Od_2.wr W16 g_r0
  have Ec_16 := Ec_2.wr W16
  have Fv_16 := Fv_2.other W16 (Or.inl ne1)
  have Et_16 := Et_2.wr W16
  have SF_16 := SF_2.other W16 ne1 ne2
  have Ft__16 := Ft_.other W16 (Or.inr (slot_ne (Or.inr (own_w hw 46 rfl)) (Or.inl (own_w hw 63 rfl)) (by decide) (t := (.object "java/lang/String")) (t' := .int) (by decide) (by decide)))
  have Z_16 : n0 ≤ h16.size := Nat.le_trans Z_2 (Keep.of_wr W16).1
  have Kp_16 : Keep h0 h16 [r0] := Kp_2.wr W16 (Or.inl (List.mem_of_getElem? (i := 0) rfl))
  have N16 := Fr.snoc X16 N12 g_r0
  obtain ⟨fs, hr, hrun, hended, hW, hsame⟩ := X16.leave (v := none) (fun _ => rfl)
  refine ⟨_, _, pre0 _ (st1 _ (st2.trans (st3 _ (st4 _ (st5 _ (st6 _ (st7.trans (st8 _ (st9 _ (st10 _ (st11 _ (st12.trans (st13 _ (st14 _ (st15 _ (st16 _ ?_)))))))))))))))), hrun, hended, _, _, rfl, ?_, ⟨_, rfl⟩, hW, hsame.mono (by decide) (by decide)⟩
  · show Steps p.tables e below (T16.setTop (mkF m 52 #[.val (.ref r0), .val (.int p1)] [])) _
    exact X16.returnOut hx Bd.returns (hb hby d9_52) hr
  · show Q_rmExp Z r0 p1 cs fm t y ky c0 c1 c2 c3 k h0 n0 _ T16.heap _
    rw [e16]
    exact ⟨rfl, N16, Kp_16, Ft__16, F_at_r0_16⟩
theorem d19_0 : decode prog_69_method_11_code 0 = .ok (.aload_n 0, 1) := by decide +kernel
theorem d19_1 : decode prog_69_method_11_code 1 = .ok (.getfield 7, 3) := by decide +kernel
theorem d19_4 : decode prog_69_method_11_code 4 = .ok (.bipush 44, 2) := by decide +kernel
theorem d19_6 : decode prog_69_method_11_code 6 = .ok (.aload_n 0, 1) := by decide +kernel
theorem d19_7 : decode prog_69_method_11_code 7 = .ok (.getfield 31, 3) := by decide +kernel
theorem d19_10 : decode prog_69_method_11_code 10 = .ok (.invokevirtual 97, 3) := by decide +kernel
theorem d19_13 : decode prog_69_method_11_code 13 = .ok (.ifCond .lt 7, 3) := by decide +kernel
theorem d19_16 : decode prog_69_method_11_code 16 = .ok (.iconst 1, 1) := by decide +kernel
theorem d19_17 : decode prog_69_method_11_code 17 = .ok (.goto 4, 3) := by decide +kernel
theorem d19_20 : decode prog_69_method_11_code 20 = .ok (.iconst 0, 1) := by decide +kernel
theorem d19_21 : decode prog_69_method_11_code 21 = .ok (.ireturn, 1) := by decide +kernel
theorem ef_rmCf (m : MethodId) (x0 : Addr) : entryFrame m #[(.ref x0)] 1 = mkF m 0 #[.val (.ref x0)] [] := by first | (simp [entryFrame, mkF, argsToLocals, Value.category]; done) | rfl
def Q_rmCf (Z : State) (r0 : Addr) (cs : Int32) (fm : Value) (t : Addr) (y : Addr) (ky : ClassId) (c0 : Int32) (c1 : Int32) (c2 : Int32) (c3 : Int32) (a : Int32) (P : Prop) (h0 : Heap) (n0 : Nat) (v : Option Value) (h : Heap) (L : List Loc) : Prop := ∃ z : Int32, ((z = 0 ∧ ¬ P) ∨ (z = 1 ∧ P)) ∧ v = some (.int z) ∧ Fr n0 L ∧ h = h0
set_option maxRecDepth 65536 in
set_option maxHeartbeats 40000000 in
theorem rmCf (l : Launch) (Z : State) (a0 : Array Value) (hw : ∀ d ∈ tables_1, d.before a0 Z = true) (ws : List Jvm.Cond) (r0 : Addr) (cs : Int32) (fm : Value) (t : Addr) (y : Addr) (ky : ClassId) (c0 : Int32) (c1 : Int32) (c2 : Int32) (c3 : Int32) (a : Int32) (P : Prop) (h0 : Heap) (n0 : Nat) (Z0 : n0 ≤ h0.size) (SB : own_St Z cs fm) (Od : Old Z n0 h0) (Ft : Fld Z h0 r0 "com/example/libbisim/libbisim/TextFormat$Cursor" "text" "Ljava/lang/String;" (.ref t)) (Fa : Fld Z h0 r0 "com/example/libbisim/libbisim/TextFormat$Cursor" "at" "I" (.int a)) (Ec : Exa Z h0 r0 "com/example/libbisim/libbisim/TextFormat$Cursor") (Fv : Fld Z h0 t "java/lang/String" "value" "[B" (.ref y)) (Et : Exa Z h0 t "java/lang/String") (SF : own_SF Z h0 t y ky c0 c1 c2 c3) (hip : own_ip4 a P c0 c1 c2 c3) :
    MetFree l (⟨"com/example/libbisim/libbisim/TextFormat$Cursor", "commaFollows", "()Z"⟩ : MethodName) (head1 (Jvm.Cond.code (⟨"com/example/libbisim/libbisim/TextFormat$Cursor", "commaFollows", "()Z"⟩ : MethodName) prog_69_method_11_code 1 (some .boolean) :: ws) ({ frames := 6, cells := 0, slots := 0, locals := 87 } : Room)) (fun a U => a = #[(.ref r0)] ∧ Z.Warmed39 U.vm ∧ U.heap = h0) (fun _ _ _ _ _ => True) (fun _ U o U' => ∃ v L, o = .returned v ∧ Q_rmCf Z r0 cs fm t y ky c0 c1 c2 c3 a P h0 n0 v U'.heap L ∧ FrameEnd U o U' L ({ frames := 6, cells := 0, slots := 0, locals := 87 } : Room).cells ({ frames := 6, cells := 0, slots := 0, locals := 87 } : Room).slots) := by
  refine MetFree.of_bodySF (plainFor_of_name pn_4) hisR ?_
  intro p e s m args below meth c s₁ Bd hml0 hP hK
  obtain ⟨rfl, hZ, hh⟩ := hP
  have hx := Bd.exec
  have hby := Bd.bytes
  have hml : c.maxLocals = 1 := hml0
  have hown : s.vm.findClass "com/example/libbisim/libbisim/TextFormat$Cursor" = some m.cls := findClass_of_methodNamed Bd.named
  have hnm := (name_of_methodNamed Bd.named Bd.method).1
  have X0 : Stand p l e ({ frames := 6, cells := 0, slots := 0, locals := 87 } : Room) s m #[(.ref r0)] below meth c s₁ [] 0 0 := Stand.of_body Bd
  have e0 : s₁.heap = h0 := by rw [← hh, Bd.state]; rfl
  have N0 := Fr.nil n0
  have pre0 : ∀ t, Steps p.tables e below (s₁.setTop (mkF m 0 #[.val (.ref r0)] [])) t → Steps p.tables e below (s₁.setTop (entryFrame m #[(.ref r0)] 1)) t := fun t k => castTop (ef_rmCf m r0) k
  have st1 : own_S p e below s₁ (mkF m 1 #[.val (.ref r0)] [(.ref r0)]) (mkF m 0 #[.val (.ref r0)] []) := by
    intro target kt
    refine XS.aloadN X0.here hx rfl (hb hby d19_0) rfl rfl ?_
    exact kt
  obtain ⟨T2, X2, e2, st2⟩ := getF X0 hx hZ hown (host := "") (Or.inl (own_w hw 45 rfl)) Via.refl e0 Ft (g := (mkF m 1 #[.val (.ref r0)] [(.ref r0)])) rfl rfl (hb hby d19_1)
  have st3 : own_S p e below T2 (mkF m 7 #[.val (.ref r0)] [(.ref r0), (.int (44 : Int32)), (.ref t)]) (mkF m 4 #[.val (.ref r0)] [(.ref t)]) := by
    intro target kt
    refine XS.bipush X2.here hx rfl (hb hby d19_4) ?_
    refine XS.aloadN X2.here hx rfl (hb hby d19_6) rfl rfl ?_
    exact kt
  obtain ⟨T4, X4, e4, st4⟩ := getF X2 hx hZ hown (host := "") (Or.inl (own_w hw 62 rfl)) Via.refl e2 Fa (g := (mkF m 7 #[.val (.ref r0)] [(.ref r0), (.int (44 : Int32)), (.ref t)])) rfl rfl (hb hby d19_7)
  obtain ⟨cq5, kq5, qv5a, qv5b, qv5c⟩ := isOf hZ e4 Et
  obtain ⟨_, _, ⟨T5, L5, k5, n5⟩, -, X5, ⟨Lc5, hQ5, l5, y5, z5⟩, st5⟩ := X4.virtualBack hx (y := (⟨"java/lang/String", "indexOf", "(II)I"⟩ : MethodName)) (z := (⟨"java/lang/String", "indexOf", "(II)I"⟩ : MethodName)) hown (mvT hZ (own_w hw 105 rfl)) (mvT hZ (own_w hw 106 rfl)) (notFace_of_selects (args := #[]) (mvT hZ (own_w hw 108 rfl))) (mvT hZ (own_w hw 108 rfl)) (mvT hZ (own_w hw 107 rfl)) (by decide) (backOf (W := 0) (rmIoB l Z a0 hw [] t a cs fm y ky c0 c1 c2 c3 P h0 n0 Z0 SB Od Fv Et SF hip) hZ (own_w hw 109 rfl) (own_w hw 10 rfl) (by decide) (by decide)) qv5a qv5c (g := (mkF m 10 #[.val (.ref r0)] [(.int a), (.int (44 : Int32)), (.ref t)])) rfl (by rw [hml]; rfl) (Steps.refl _) (argsL := [(.int (44 : Int32)), (.int a)]) (rest := []) (lenOf pd_17 rfl) rfl (by show 2 * 0 + _ ≤ _; exact Nat.le_of_eq rfl) (hb hby d19_10) (fun _ _ => ⟨rfl, e4, (by decide : 0 + 0 ≤ _), (by decide : 0 + 0 ≤ _)⟩)
  dsimp only [Pt.U, Pt.locs, Pt.cells, Pt.slots] at X5 l5 y5 z5 st5 hQ5
  subst l5 y5 z5
  obtain ⟨z5, hz5, rfl, Nq5, e5⟩ := hQ5
  have N5 := Fr.app N0 Nq5
  obtain ⟨fs, hr, hrun, hended, hW, hsame⟩ := X5.leave (v := some (.int (if z5 < (0 : Int32) then (0 : Int32) else (1 : Int32)))) (fun h => by rw [Bd.returns] at h; cases h)
  refine ⟨_, _, pre0 _ (st1 _ (st2 _ (st3 _ (st4 _ (st5.trans ?_))))), hrun, hended, _, _, rfl, ?_, ⟨_, rfl⟩, hW, hsame.mono (by decide) (by decide)⟩
  · by_cases hc13 : z5 < (0 : Int32)
    · rw [if_pos hc13] at hr
      refine XS.ifYes X5.here hx rfl (pc0 := 13) (pc' := 20) rfl (hb hby d19_13) rfl ((if0 _ _).trans (tlt hc13).1) (by decide) (by decide) ?_
      refine XS.iconst X5.here hx rfl (hb hby d19_20) ?_
      show Steps p.tables e below (T5.setTop (mkF m 21 #[.val (.ref r0)] [(.int (0 : Int32))])) _
      exact retN X5 hx (t := .boolean) Bd.returns (by simp) (hb hby d19_21) hr
    · rw [if_neg hc13] at hr
      refine XS.ifNo X5.here hx rfl (hb hby d19_13) rfl ((if0 _ _).trans (flt hc13).1) ?_
      refine XS.iconst X5.here hx rfl (hb hby d19_16) ?_
      refine XS.goto X5.here hx rfl (pc0 := 17) (pc' := 21) rfl (hb hby d19_17) (by decide) (by decide) ?_
      show Steps p.tables e below (T5.setTop (mkF m 21 #[.val (.ref r0)] [(.int (1 : Int32))])) _
      exact retN X5 hx (t := .boolean) Bd.returns (by simp) (hb hby d19_21) hr
  · show Q_rmCf Z r0 cs fm t y ky c0 c1 c2 c3 a P h0 n0 _ T5.heap _
    rw [e5]
    exact ⟨_, own_cf hz5, rfl, N5, rfl⟩
def own_atv (p0 p1 p2 p3 p4 p5 p6 : Int32) : Int32 := (if p0 < p1 then (if ((p2 >>> (((2 : Int32) + p0) &&& 31)) &&& (1 : Int32)) = (0 : Int32) then (nar .char (32 : Int32)) else (nar .char (9 : Int32))) else (if p0 = p1 then (nar .char p3) else (if (p0 - p1) = (1 : Int32) then (nar .char p4) else (if (p0 - p1) = (2 : Int32) then (nar .char p5) else (nar .char p6)))))
theorem own_atx {p0 p1 p2 p3 p4 p5 p6 : Int32} (h3 : own_ch p3) (h4 : own_ch p4) (h5 : own_ch p5) (h6 : own_ch p6) : own_ch (own_atv p0 p1 p2 p3 p4 p5 p6) ∧ (p0 < p1 → own_bl (own_atv p0 p1 p2 p3 p4 p5 p6)) ∧ (p0 = p1 → own_atv p0 p1 p2 p3 p4 p5 p6 = p3) := by
  unfold own_atv
  have n32 : nar .char (32 : Int32) = 32 := rfl
  have n9 : nar .char (9 : Int32) = 9 := rfl
  rw [own_ncI h3, own_ncI h4, own_ncI h5, own_ncI h6, n32, n9]
  by_cases a : p0 < p1
  · rw [if_pos a]
    have ne : ¬ p0 = p1 := fun q => Int32.lt_irrefl (q ▸ a)
    split
    · exact ⟨⟨by decide, by decide⟩, fun _ => Or.inl rfl, fun q => absurd q ne⟩
    · exact ⟨⟨by decide, by decide⟩, fun _ => Or.inr rfl, fun q => absurd q ne⟩
  · rw [if_neg a]
    by_cases b : p0 = p1
    · rw [if_pos b]; exact ⟨h3, fun q => absurd q a, fun _ => rfl⟩
    · rw [if_neg b]
      refine ⟨?_, fun q => absurd q a, fun q => absurd q b⟩
      split
      · exact h4
      · split
        · exact h5
        · exact h6
theorem d1_0 : decode method_2_code 0 = .ok (.iload_n 0, 1) := by decide +kernel
theorem d1_1 : decode method_2_code 1 = .ok (.iload_n 1, 1) := by decide +kernel
theorem d1_2 : decode method_2_code 2 = .ok (.if_icmp .ge 21, 3) := by decide +kernel
theorem d1_5 : decode method_2_code 5 = .ok (.iload_n 2, 1) := by decide +kernel
theorem d1_6 : decode method_2_code 6 = .ok (.iconst 2, 1) := by decide +kernel
theorem d1_7 : decode method_2_code 7 = .ok (.iload_n 0, 1) := by decide +kernel
theorem d1_8 : decode method_2_code 8 = .ok (.iadd, 1) := by decide +kernel
theorem d1_9 : decode method_2_code 9 = .ok (.ishr, 1) := by decide +kernel
theorem d1_10 : decode method_2_code 10 = .ok (.iconst 1, 1) := by decide +kernel
theorem d1_11 : decode method_2_code 11 = .ok (.iand, 1) := by decide +kernel
theorem d1_12 : decode method_2_code 12 = .ok (.ifCond .ne 8, 3) := by decide +kernel
theorem d1_15 : decode method_2_code 15 = .ok (.bipush 32, 2) := by decide +kernel
theorem d1_17 : decode method_2_code 17 = .ok (.goto 5, 3) := by decide +kernel
theorem d1_20 : decode method_2_code 20 = .ok (.bipush 9, 2) := by decide +kernel
theorem d1_22 : decode method_2_code 22 = .ok (.ireturn, 1) := by decide +kernel
theorem d1_23 : decode method_2_code 23 = .ok (.iload_n 0, 1) := by decide +kernel
theorem d1_24 : decode method_2_code 24 = .ok (.iload_n 1, 1) := by decide +kernel
theorem d1_25 : decode method_2_code 25 = .ok (.if_icmp .ne 5, 3) := by decide +kernel
theorem d1_28 : decode method_2_code 28 = .ok (.iload_n 3, 1) := by decide +kernel
theorem d1_29 : decode method_2_code 29 = .ok (.ireturn, 1) := by decide +kernel
theorem d1_30 : decode method_2_code 30 = .ok (.iload_n 0, 1) := by decide +kernel
theorem d1_31 : decode method_2_code 31 = .ok (.iload_n 1, 1) := by decide +kernel
theorem d1_32 : decode method_2_code 32 = .ok (.isub, 1) := by decide +kernel
theorem d1_33 : decode method_2_code 33 = .ok (.istore 7, 2) := by decide +kernel
theorem d1_35 : decode method_2_code 35 = .ok (.iload 7, 2) := by decide +kernel
theorem d1_37 : decode method_2_code 37 = .ok (.iconst 1, 1) := by decide +kernel
theorem d1_38 : decode method_2_code 38 = .ok (.if_icmp .ne 6, 3) := by decide +kernel
theorem d1_41 : decode method_2_code 41 = .ok (.iload 4, 2) := by decide +kernel
theorem d1_43 : decode method_2_code 43 = .ok (.ireturn, 1) := by decide +kernel
theorem d1_44 : decode method_2_code 44 = .ok (.iload 7, 2) := by decide +kernel
theorem d1_46 : decode method_2_code 46 = .ok (.iconst 2, 1) := by decide +kernel
theorem d1_47 : decode method_2_code 47 = .ok (.if_icmp .ne 6, 3) := by decide +kernel
theorem d1_50 : decode method_2_code 50 = .ok (.iload 5, 2) := by decide +kernel
theorem d1_52 : decode method_2_code 52 = .ok (.ireturn, 1) := by decide +kernel
theorem d1_53 : decode method_2_code 53 = .ok (.iload 6, 2) := by decide +kernel
theorem d1_55 : decode method_2_code 55 = .ok (.ireturn, 1) := by decide +kernel
theorem pn_6 : plainName "com/example/libbisim/libbisim/CursorExpectPinLaw" = true := by first | (simp [plainName, overriddenIn]; done) | decide +kernel
theorem ef_rmAt (m : MethodId) (x0 : Int32) (x1 : Int32) (x2 : Int32) (x3 : Int32) (x4 : Int32) (x5 : Int32) (x6 : Int32) : entryFrame m #[(.int x0), (.int x1), (.int x2), (.int x3), (.int x4), (.int x5), (.int x6)] 8 = mkF m 0 #[.val (.int x0), .val (.int x1), .val (.int x2), .val (.int x3), .val (.int x4), .val (.int x5), .val (.int x6), .unset] [] := by first | (simp [entryFrame, mkF, argsToLocals, Value.category]; done) | rfl
def Q_rmAt (Z : State) (p0 : Int32) (p1 : Int32) (p2 : Int32) (p3 : Int32) (p4 : Int32) (p5 : Int32) (p6 : Int32) (h0 : Heap) (n0 : Nat) (v : Option Value) (h : Heap) (L : List Loc) : Prop := ∃ x : Int32, (own_ch x ∧ (p0 < p1 → own_bl x) ∧ (p0 = p1 → x = p3)) ∧ v = some (.int x) ∧ Fr n0 L ∧ h = h0
set_option maxRecDepth 65536 in
set_option maxHeartbeats 40000000 in
theorem rmAt (l : Launch) (Z : State) (a0 : Array Value) (hw : ∀ d ∈ tables_1, d.before a0 Z = true) (ws : List Jvm.Cond) (p0 : Int32) (p1 : Int32) (p2 : Int32) (p3 : Int32) (p4 : Int32) (p5 : Int32) (p6 : Int32) (h0 : Heap) (n0 : Nat) (Z0 : n0 ≤ h0.size) (h3 : own_ch p3) (h4 : own_ch p4) (h5 : own_ch p5) (h6 : own_ch p6) :
    MetFree l (⟨"com/example/libbisim/libbisim/CursorExpectPinLaw", "at", "(IIICCCC)C"⟩ : MethodName) (head1 (Jvm.Cond.code (⟨"com/example/libbisim/libbisim/CursorExpectPinLaw", "at", "(IIICCCC)C"⟩ : MethodName) method_2_code 8 (some .char) :: ws) ({ frames := 0, cells := 0, slots := 0, locals := 0 } : Room)) (fun a U => a = #[(.int p0), (.int p1), (.int p2), (.int p3), (.int p4), (.int p5), (.int p6)] ∧ Z.Warmed39 U.vm ∧ U.heap = h0) (fun _ _ _ _ _ => True) (fun _ U o U' => ∃ v L, o = .returned v ∧ Q_rmAt Z p0 p1 p2 p3 p4 p5 p6 h0 n0 v U'.heap L ∧ FrameEnd U o U' L ({ frames := 0, cells := 0, slots := 0, locals := 0 } : Room).cells ({ frames := 0, cells := 0, slots := 0, locals := 0 } : Room).slots) := by
  refine MetFree.of_bodySF (plainFor_of_name pn_6) hisR ?_
  intro p e s m args below meth c s₁ Bd hml0 hP hK
  obtain ⟨rfl, hZ, hh⟩ := hP
  have hx := Bd.exec
  have hby := Bd.bytes
  have hml : c.maxLocals = 8 := hml0
  have hown : s.vm.findClass "com/example/libbisim/libbisim/CursorExpectPinLaw" = some m.cls := findClass_of_methodNamed Bd.named
  have hnm := (name_of_methodNamed Bd.named Bd.method).1
  have X0 : Stand p l e ({ frames := 0, cells := 0, slots := 0, locals := 0 } : Room) s m #[(.int p0), (.int p1), (.int p2), (.int p3), (.int p4), (.int p5), (.int p6)] below meth c s₁ [] 0 0 := Stand.of_body Bd
  have e0 : s₁.heap = h0 := by rw [← hh, Bd.state]; rfl
  have N0 := Fr.nil n0
  have pre0 : ∀ t, Steps p.tables e below (s₁.setTop (mkF m 0 #[.val (.int p0), .val (.int p1), .val (.int p2), .val (.int p3), .val (.int p4), .val (.int p5), .val (.int p6), .unset] [])) t → Steps p.tables e below (s₁.setTop (entryFrame m #[(.int p0), (.int p1), (.int p2), (.int p3), (.int p4), (.int p5), (.int p6)] 8)) t := fun t k => castTop (ef_rmAt m p0 p1 p2 p3 p4 p5 p6) k
  obtain ⟨fs, hr, hrun, hended, hW, hsame⟩ := X0.leave (v := some (.int (if p0 < p1 then (if ((p2 >>> (((2 : Int32) + p0) &&& 31)) &&& (1 : Int32)) = (0 : Int32) then (nar .char (32 : Int32)) else (nar .char (9 : Int32))) else (if p0 = p1 then (nar .char p3) else (if (p0 - p1) = (1 : Int32) then (nar .char p4) else (if (p0 - p1) = (2 : Int32) then (nar .char p5) else (nar .char p6))))))) (fun h => by rw [Bd.returns] at h; cases h)
  refine ⟨_, _, pre0 _ ?_, hrun, hended, _, _, rfl, ?_, ⟨_, rfl⟩, hW, hsame.mono (by decide) (by decide)⟩
  · refine XS.iloadN X0.here hx rfl (hb hby d1_0) rfl ?_
    refine XS.iloadN X0.here hx rfl (hb hby d1_1) rfl ?_
    by_cases hc2 : p0 < p1
    · rw [if_pos hc2] at hr
      refine XS.icmpNo X0.here hx rfl (hb hby d1_2) rfl (tlt hc2).2.1 ?_
      refine XS.iloadN X0.here hx rfl (hb hby d1_5) rfl ?_
      refine XS.iconst X0.here hx rfl (hb hby d1_6) ?_
      refine XS.iloadN X0.here hx rfl (hb hby d1_7) rfl ?_
      refine XS.iadd X0.here hx rfl (hb hby d1_8) rfl ?_
      refine XS.ishr X0.here hx rfl (hb hby d1_9) rfl ?_
      refine XS.iconst X0.here hx rfl (hb hby d1_10) ?_
      refine XS.iand X0.here hx rfl (hb hby d1_11) rfl ?_
      by_cases hc12 : ((p2 >>> (((2 : Int32) + p0) &&& 31)) &&& (1 : Int32)) = (0 : Int32)
      · rw [if_pos hc12] at hr
        refine XS.ifNo X0.here hx rfl (hb hby d1_12) rfl ((if0 _ _).trans (teq hc12).2) ?_
        refine XS.bipush X0.here hx rfl (hb hby d1_15) ?_
        refine XS.goto X0.here hx rfl (pc0 := 17) (pc' := 22) rfl (hb hby d1_17) (by decide) (by decide) ?_
        show Steps p.tables e below (s₁.setTop (mkF m 22 #[.val (.int p0), .val (.int p1), .val (.int p2), .val (.int p3), .val (.int p4), .val (.int p5), .val (.int p6), .unset] [(.int (32 : Int32))])) _
        exact retN X0 hx (t := .char) Bd.returns (by simp) (hb hby d1_22) hr
      · rw [if_neg hc12] at hr
        refine XS.ifYes X0.here hx rfl (pc0 := 12) (pc' := 20) rfl (hb hby d1_12) rfl ((if0 _ _).trans (feq hc12).2) (by decide) (by decide) ?_
        refine XS.bipush X0.here hx rfl (hb hby d1_20) ?_
        show Steps p.tables e below (s₁.setTop (mkF m 22 #[.val (.int p0), .val (.int p1), .val (.int p2), .val (.int p3), .val (.int p4), .val (.int p5), .val (.int p6), .unset] [(.int (9 : Int32))])) _
        exact retN X0 hx (t := .char) Bd.returns (by simp) (hb hby d1_22) hr
    · rw [if_neg hc2] at hr
      refine XS.icmpYes X0.here hx rfl (pc0 := 2) (pc' := 23) rfl (hb hby d1_2) rfl (flt hc2).2.1 (by decide) (by decide) ?_
      refine XS.iloadN X0.here hx rfl (hb hby d1_23) rfl ?_
      refine XS.iloadN X0.here hx rfl (hb hby d1_24) rfl ?_
      by_cases hc25 : p0 = p1
      · rw [if_pos hc25] at hr
        refine XS.icmpNo X0.here hx rfl (hb hby d1_25) rfl (teq hc25).2 ?_
        refine XS.iloadN X0.here hx rfl (hb hby d1_28) rfl ?_
        show Steps p.tables e below (s₁.setTop (mkF m 29 #[.val (.int p0), .val (.int p1), .val (.int p2), .val (.int p3), .val (.int p4), .val (.int p5), .val (.int p6), .unset] [(.int p3)])) _
        exact retN X0 hx (t := .char) Bd.returns (by simp) (hb hby d1_29) hr
      · rw [if_neg hc25] at hr
        refine XS.icmpYes X0.here hx rfl (pc0 := 25) (pc' := 30) rfl (hb hby d1_25) rfl (feq hc25).2 (by decide) (by decide) ?_
        refine XS.iloadN X0.here hx rfl (hb hby d1_30) rfl ?_
        refine XS.iloadN X0.here hx rfl (hb hby d1_31) rfl ?_
        refine XS.isub X0.here hx rfl (hb hby d1_32) rfl ?_
        refine XS.istore X0.here hx rfl (hb hby d1_33) rfl (l' := #[.val (.int p0), .val (.int p1), .val (.int p2), .val (.int p3), .val (.int p4), .val (.int p5), .val (.int p6), .val (.int (p0 - p1))]) rfl ?_
        refine XS.iload X0.here hx rfl (hb hby d1_35) rfl ?_
        refine XS.iconst X0.here hx rfl (hb hby d1_37) ?_
        by_cases hc38 : (p0 - p1) = (1 : Int32)
        · rw [if_pos hc38] at hr
          refine XS.icmpNo X0.here hx rfl (hb hby d1_38) rfl (teq hc38).2 ?_
          refine XS.iload X0.here hx rfl (hb hby d1_41) rfl ?_
          show Steps p.tables e below (s₁.setTop (mkF m 43 #[.val (.int p0), .val (.int p1), .val (.int p2), .val (.int p3), .val (.int p4), .val (.int p5), .val (.int p6), .val (.int (p0 - p1))] [(.int p4)])) _
          exact retN X0 hx (t := .char) Bd.returns (by simp) (hb hby d1_43) hr
        · rw [if_neg hc38] at hr
          refine XS.icmpYes X0.here hx rfl (pc0 := 38) (pc' := 44) rfl (hb hby d1_38) rfl (feq hc38).2 (by decide) (by decide) ?_
          refine XS.iload X0.here hx rfl (hb hby d1_44) rfl ?_
          refine XS.iconst X0.here hx rfl (hb hby d1_46) ?_
          by_cases hc47 : (p0 - p1) = (2 : Int32)
          · rw [if_pos hc47] at hr
            refine XS.icmpNo X0.here hx rfl (hb hby d1_47) rfl (teq hc47).2 ?_
            refine XS.iload X0.here hx rfl (hb hby d1_50) rfl ?_
            show Steps p.tables e below (s₁.setTop (mkF m 52 #[.val (.int p0), .val (.int p1), .val (.int p2), .val (.int p3), .val (.int p4), .val (.int p5), .val (.int p6), .val (.int (p0 - p1))] [(.int p5)])) _
            exact retN X0 hx (t := .char) Bd.returns (by simp) (hb hby d1_52) hr
          · rw [if_neg hc47] at hr
            refine XS.icmpYes X0.here hx rfl (pc0 := 47) (pc' := 53) rfl (hb hby d1_47) rfl (feq hc47).2 (by decide) (by decide) ?_
            refine XS.iload X0.here hx rfl (hb hby d1_53) rfl ?_
            show Steps p.tables e below (s₁.setTop (mkF m 55 #[.val (.int p0), .val (.int p1), .val (.int p2), .val (.int p3), .val (.int p4), .val (.int p5), .val (.int p6), .val (.int (p0 - p1))] [(.int p6)])) _
            exact retN X0 hx (t := .char) Bd.returns (by simp) (hb hby d1_55) hr
  · show Q_rmAt Z p0 p1 p2 p3 p4 p5 p6 h0 n0 _ s₁.heap _
    rw [e0]
    exact ⟨_, own_atx h3 h4 h5 h6, rfl, N0, rfl⟩
theorem own_rf {k x1 x2 x3 rf : Int32} (h : rf = (if k < (1 : Int32) then (if x1 = (44 : Int32) then (1 : Int32) else (if k < (2 : Int32) then (if x2 = (44 : Int32) then (1 : Int32) else (if k < (3 : Int32) then (if x3 = (44 : Int32) then (1 : Int32) else (0 : Int32)) else (0 : Int32))) else (if k < (3 : Int32) then (if x3 = (44 : Int32) then (1 : Int32) else (0 : Int32)) else (0 : Int32)))) else (if k < (2 : Int32) then (if x2 = (44 : Int32) then (1 : Int32) else (if k < (3 : Int32) then (if x3 = (44 : Int32) then (1 : Int32) else (0 : Int32)) else (0 : Int32))) else (if k < (3 : Int32) then (if x3 = (44 : Int32) then (1 : Int32) else (0 : Int32)) else (0 : Int32))))) : (rf = 1 ∧ own_P k x1 x2 x3) ∨ (rf = 0 ∧ ¬ own_P k x1 x2 x3) := by
  subst h; unfold own_P
  by_cases a1 : k < 1 <;> by_cases a2 : k < 2 <;> by_cases a3 : k < 3 <;> by_cases b1 : x1 = 44 <;> by_cases b2 : x2 = 44 <;> by_cases b3 : x3 = 44 <;> simp only [a1, a2, a3, b1, b2, b3, if_true, if_false, true_and, and_true, false_and, and_false, true_or, or_true, false_or, or_false, not_true, not_false_iff] <;> first | exact Or.inl ⟨rfl, trivial⟩ | exact Or.inr ⟨rfl, trivial⟩ | simp
theorem own_all {k tok x0 x1 x2 x3 : Int32} (hk : k = 0 ∨ k = 1 ∨ k = 2 ∨ k = 3) (ht : ¬ own_bl tok) (h : ((0 < k → own_bl x0) ∧ (0 = k → x0 = tok)) ∧ ((1 < k → own_bl x1) ∧ (1 = k → x1 = tok)) ∧ ((2 < k → own_bl x2) ∧ (2 = k → x2 = tok)) ∧ ((3 < k → own_bl x3) ∧ (3 = k → x3 = tok))) :
    own_B k x0 x1 x2 x3 ∧ own_ix4 k tok x0 x1 x2 x3 ∧ ¬ k = (4 : Int32) ∧ own_ip4 (k + (1 : Int32)) (own_P k x1 x2 x3) x0 x1 x2 x3 := by
  obtain ⟨⟨a0, b0⟩, ⟨a1, b1⟩, ⟨a2, b2⟩, ⟨a3, b3⟩⟩ := h
  rcases hk with rfl | rfl | rfl | rfl
  · have e := b0 rfl
    exact ⟨Or.inl ⟨rfl, by rw [e]; exact ht⟩, Or.inl ⟨rfl, e.symm⟩, by decide, Or.inl ⟨rfl, propext (by simp +decide [own_P])⟩⟩
  · have e := b1 rfl
    exact ⟨Or.inr ⟨a0 (by decide), Or.inl ⟨rfl, by rw [e]; exact ht⟩⟩, Or.inr (Or.inl ⟨rfl, e.symm⟩), by decide, Or.inr (Or.inl ⟨rfl, propext (by simp +decide [own_P])⟩)⟩
  · have e := b2 rfl
    exact ⟨Or.inr ⟨a0 (by decide), Or.inr ⟨a1 (by decide), Or.inl ⟨rfl, by rw [e]; exact ht⟩⟩⟩, Or.inr (Or.inr (Or.inl ⟨rfl, e.symm⟩)), by decide, Or.inr (Or.inr (Or.inl ⟨rfl, propext (by simp +decide [own_P])⟩))⟩
  · have e := b3 rfl
    exact ⟨Or.inr ⟨a0 (by decide), Or.inr ⟨a1 (by decide), Or.inr ⟨a2 (by decide), rfl, by rw [e]; exact ht⟩⟩⟩, Or.inr (Or.inr (Or.inr ⟨rfl, e.symm⟩)), by decide, Or.inr (Or.inr (Or.inr ⟨rfl, propext (by simp +decide [own_P])⟩))⟩
theorem ef_rm0 (m : MethodId) (x0 : Int32) (x1 : Int32) (x2 : Int32) (x3 : Int32) (x4 : Int32) (x5 : Int64) : entryFrame m #[(.int x0), (.int x1), (.int x2), (.int x3), (.int x4), (.long x5)] maxLocals = mkF m 0 #[.val (.int x0), .val (.int x1), .val (.int x2), .val (.int x3), .val (.int x4), .val (.long x5), .second, .unset, .unset, .unset, .unset, .unset, .unset, .unset, .unset] [] := by first | (simp [entryFrame, mkF, argsToLocals, Value.category, maxLocals]; done) | rfl
def Q_rm0 (Z : State) (p0 : Int32) (p1 : Int32) (p2 : Int32) (p3 : Int32) (p4 : Int32) (q5 : Int64) (cs : Int32) (fm : Value) (h0 : Heap) (n0 : Nat) (v : Option Value) (h : Heap) (L : List Loc) : Prop := v = some (.int 1) ∧ Fr n0 L
set_option maxRecDepth 65536 in
set_option maxHeartbeats 40000000 in
theorem rm0 (l : Launch) (Z : State) (a0 : Array Value) (hw : ∀ d ∈ tables_1, d.before a0 Z = true) (ws : List Jvm.Cond) (p0 : Int32) (p1 : Int32) (p2 : Int32) (p3 : Int32) (p4 : Int32) (q5 : Int64) (cs : Int32) (fm : Value) (h0 : Heap) (n0 : Nat) (Z0 : n0 ≤ h0.size) (SB : own_St Z cs fm) (Od : Old Z n0 h0) :
    MetFree l x (head1 (Jvm.Cond.code x code maxLocals ret :: ws) room_1) (fun a U => a = #[(.int p0), (.int p1), (.int p2), (.int p3), (.int p4), (.long q5)] ∧ Z.Warmed39 U.vm ∧ U.heap = h0) (fun _ _ _ _ _ => True) (fun _ U o U' => ∃ v L, o = .returned v ∧ Q_rm0 Z p0 p1 p2 p3 p4 q5 cs fm h0 n0 v U'.heap L ∧ ReturnedEndW U o U' L room_1.cells room_1.slots) := by
  refine MetFree.of_bodySF (plainFor_of_name pn_6) hisR ?_
  intro p e s m args below meth c s₁ Bd hml0 hP hK
  obtain ⟨rfl, hZ, hh⟩ := hP
  have hx := Bd.exec
  have hby := Bd.bytes
  have hml : c.maxLocals = 15 := hml0
  have hown : s.vm.findClass "com/example/libbisim/libbisim/CursorExpectPinLaw" = some m.cls := findClass_of_methodNamed Bd.named
  have hnm := (name_of_methodNamed Bd.named Bd.method).1
  have X0 : Stand p l e room_1 s m #[(.int p0), (.int p1), (.int p2), (.int p3), (.int p4), (.long q5)] below meth c s₁ [] 0 0 := Stand.of_body Bd
  have e0 : s₁.heap = h0 := by rw [← hh, Bd.state]; rfl
  have N0 := Fr.nil n0
  have pre0 : ∀ t, Steps p.tables e below (s₁.setTop (mkF m 0 #[.val (.int p0), .val (.int p1), .val (.int p2), .val (.int p3), .val (.int p4), .val (.long q5), .second, .unset, .unset, .unset, .unset, .unset, .unset, .unset, .unset] [])) t → Steps p.tables e below (s₁.setTop (entryFrame m #[(.int p0), (.int p1), (.int p2), (.int p3), (.int p4), (.long q5)] maxLocals)) t := fun t k => castTop (ef_rm0 m p0 p1 p2 p3 p4 q5) k
  obtain ⟨tok, htok, st1⟩ : ∃ (tok : Int32), tok = (if (p0.toUInt32.toUInt16.toUInt32.toInt32) = (32 : Int32) then (44 : Int32) else (if (p0.toUInt32.toUInt16.toUInt32.toInt32) = (9 : Int32) then (44 : Int32) else (p0.toUInt32.toUInt16.toUInt32.toInt32))) ∧ own_S p e below s₁ (mkF m 22 #[.val (.int p0), .val (.int p1), .val (.int p2), .val (.int p3), .val (.int p4), .val (.long q5), .second, .val (.int tok), .unset, .unset, .unset, .unset, .unset, .unset, .unset] []) (mkF m 0 #[.val (.int p0), .val (.int p1), .val (.int p2), .val (.int p3), .val (.int p4), .val (.long q5), .second, .unset, .unset, .unset, .unset, .unset, .unset, .unset, .unset] []) := by
    refine ⟨_, rfl, fun target kt => ?_⟩
    refine XS.iloadN X0.here hx rfl (hb hby at_0) rfl ?_
    refine XS.i2c X0.here hx rfl (hb hby at_1) rfl ?_
    refine XS.istore X0.here hx rfl (hb hby at_2) rfl (l' := #[.val (.int p0), .val (.int p1), .val (.int p2), .val (.int p3), .val (.int p4), .val (.long q5), .second, .val (.int (p0.toUInt32.toUInt16.toUInt32.toInt32)), .unset, .unset, .unset, .unset, .unset, .unset, .unset]) rfl ?_
    refine XS.iload X0.here hx rfl (hb hby at_4) rfl ?_
    refine XS.bipush X0.here hx rfl (hb hby at_6) ?_
    by_cases hc8 : (p0.toUInt32.toUInt16.toUInt32.toInt32) = (32 : Int32)
    · rw [if_pos hc8] at kt
      refine XS.icmpYes X0.here hx rfl (pc0 := 8) (pc' := 18) rfl (hb hby at_8) rfl (teq hc8).1 (by decide) (by decide) ?_
      refine XS.bipush X0.here hx rfl (hb hby at_18) ?_
      refine XS.istore X0.here hx rfl (hb hby at_20) rfl (l' := #[.val (.int p0), .val (.int p1), .val (.int p2), .val (.int p3), .val (.int p4), .val (.long q5), .second, .val (.int (44 : Int32)), .unset, .unset, .unset, .unset, .unset, .unset, .unset]) rfl ?_
      exact kt
    · rw [if_neg hc8] at kt
      refine XS.icmpNo X0.here hx rfl (hb hby at_8) rfl (feq hc8).1 ?_
      refine XS.iload X0.here hx rfl (hb hby at_11) rfl ?_
      refine XS.bipush X0.here hx rfl (hb hby at_13) ?_
      by_cases hc15 : (p0.toUInt32.toUInt16.toUInt32.toInt32) = (9 : Int32)
      · rw [if_pos hc15] at kt
        refine XS.icmpNo X0.here hx rfl (hb hby at_15) rfl (teq hc15).2 ?_
        refine XS.bipush X0.here hx rfl (hb hby at_18) ?_
        refine XS.istore X0.here hx rfl (hb hby at_20) rfl (l' := #[.val (.int p0), .val (.int p1), .val (.int p2), .val (.int p3), .val (.int p4), .val (.long q5), .second, .val (.int (44 : Int32)), .unset, .unset, .unset, .unset, .unset, .unset, .unset]) rfl ?_
        exact kt
      · rw [if_neg hc15] at kt
        refine XS.icmpYes X0.here hx rfl (pc0 := 15) (pc' := 22) rfl (hb hby at_15) rfl (feq hc15).2 (by decide) (by decide) ?_
        exact kt
  have hT : own_ch tok ∧ ¬ own_bl tok := by rw [htok]; exact own_tok (own_chc p0)
  have st2 : own_S p e below s₁ (mkF m 27 #[.val (.int p0), .val (.int p1), .val (.int p2), .val (.int p3), .val (.int p4), .val (.long q5), .second, .val (.int tok), .val (.int (p1 &&& (3 : Int32))), .unset, .unset, .unset, .unset, .unset, .unset] []) (mkF m 22 #[.val (.int p0), .val (.int p1), .val (.int p2), .val (.int p3), .val (.int p4), .val (.long q5), .second, .val (.int tok), .unset, .unset, .unset, .unset, .unset, .unset, .unset] []) := by
    intro target kt
    refine XS.iloadN X0.here hx rfl (hb hby at_22) rfl ?_
    refine XS.iconst X0.here hx rfl (hb hby at_23) ?_
    refine XS.iand X0.here hx rfl (hb hby at_24) rfl ?_
    refine XS.istore X0.here hx rfl (hb hby at_25) rfl (l' := #[.val (.int p0), .val (.int p1), .val (.int p2), .val (.int p3), .val (.int p4), .val (.long q5), .second, .val (.int tok), .val (.int (p1 &&& (3 : Int32))), .unset, .unset, .unset, .unset, .unset, .unset]) rfl ?_
    exact kt
  obtain ⟨k, hk⟩ : ∃ z : Int32, z = (p1 &&& (3 : Int32)) := ⟨_, rfl⟩
  rw [← hk] at st2
  have hk4 := own_k4 hk
  have st3 : own_S p e below s₁ (mkF m 31 #[.val (.int p0), .val (.int p1), .val (.int p2), .val (.int p3), .val (.int p4), .val (.long q5), .second, .val (.int tok), .val (.int k), .val (.int (p2.toUInt32.toUInt16.toUInt32.toInt32)), .unset, .unset, .unset, .unset, .unset] []) (mkF m 27 #[.val (.int p0), .val (.int p1), .val (.int p2), .val (.int p3), .val (.int p4), .val (.long q5), .second, .val (.int tok), .val (.int k), .unset, .unset, .unset, .unset, .unset, .unset] []) := by
    intro target kt
    refine XS.iloadN X0.here hx rfl (hb hby at_27) rfl ?_
    refine XS.i2c X0.here hx rfl (hb hby at_28) rfl ?_
    refine XS.istore X0.here hx rfl (hb hby at_29) rfl (l' := #[.val (.int p0), .val (.int p1), .val (.int p2), .val (.int p3), .val (.int p4), .val (.long q5), .second, .val (.int tok), .val (.int k), .val (.int (p2.toUInt32.toUInt16.toUInt32.toInt32)), .unset, .unset, .unset, .unset, .unset]) rfl ?_
    exact kt
  obtain ⟨d1, hd1⟩ : ∃ z : Int32, z = (p2.toUInt32.toUInt16.toUInt32.toInt32) := ⟨_, rfl⟩
  rw [← hd1] at st3
  have hd1c : own_ch d1 := by rw [hd1]; exact own_chc p2
  have st4 : own_S p e below s₁ (mkF m 35 #[.val (.int p0), .val (.int p1), .val (.int p2), .val (.int p3), .val (.int p4), .val (.long q5), .second, .val (.int tok), .val (.int k), .val (.int d1), .val (.int (p3.toUInt32.toUInt16.toUInt32.toInt32)), .unset, .unset, .unset, .unset] []) (mkF m 31 #[.val (.int p0), .val (.int p1), .val (.int p2), .val (.int p3), .val (.int p4), .val (.long q5), .second, .val (.int tok), .val (.int k), .val (.int d1), .unset, .unset, .unset, .unset, .unset] []) := by
    intro target kt
    refine XS.iloadN X0.here hx rfl (hb hby at_31) rfl ?_
    refine XS.i2c X0.here hx rfl (hb hby at_32) rfl ?_
    refine XS.istore X0.here hx rfl (hb hby at_33) rfl (l' := #[.val (.int p0), .val (.int p1), .val (.int p2), .val (.int p3), .val (.int p4), .val (.long q5), .second, .val (.int tok), .val (.int k), .val (.int d1), .val (.int (p3.toUInt32.toUInt16.toUInt32.toInt32)), .unset, .unset, .unset, .unset]) rfl ?_
    exact kt
  obtain ⟨d2, hd2⟩ : ∃ z : Int32, z = (p3.toUInt32.toUInt16.toUInt32.toInt32) := ⟨_, rfl⟩
  rw [← hd2] at st4
  have hd2c : own_ch d2 := by rw [hd2]; exact own_chc p3
  have st5 : own_S p e below s₁ (mkF m 40 #[.val (.int p0), .val (.int p1), .val (.int p2), .val (.int p3), .val (.int p4), .val (.long q5), .second, .val (.int tok), .val (.int k), .val (.int d1), .val (.int d2), .val (.int (p4.toUInt32.toUInt16.toUInt32.toInt32)), .unset, .unset, .unset] []) (mkF m 35 #[.val (.int p0), .val (.int p1), .val (.int p2), .val (.int p3), .val (.int p4), .val (.long q5), .second, .val (.int tok), .val (.int k), .val (.int d1), .val (.int d2), .unset, .unset, .unset, .unset] []) := by
    intro target kt
    refine XS.iload X0.here hx rfl (hb hby at_35) rfl ?_
    refine XS.i2c X0.here hx rfl (hb hby at_37) rfl ?_
    refine XS.istore X0.here hx rfl (hb hby at_38) rfl (l' := #[.val (.int p0), .val (.int p1), .val (.int p2), .val (.int p3), .val (.int p4), .val (.long q5), .second, .val (.int tok), .val (.int k), .val (.int d1), .val (.int d2), .val (.int (p4.toUInt32.toUInt16.toUInt32.toInt32)), .unset, .unset, .unset]) rfl ?_
    exact kt
  obtain ⟨d3, hd3⟩ : ∃ z : Int32, z = (p4.toUInt32.toUInt16.toUInt32.toInt32) := ⟨_, rfl⟩
  rw [← hd3] at st5
  have hd3c : own_ch d3 := by rw [hd3]; exact own_chc p4
  have st6 : own_S p e below s₁ (mkF m 41 #[.val (.int p0), .val (.int p1), .val (.int p2), .val (.int p3), .val (.int p4), .val (.long q5), .second, .val (.int tok), .val (.int k), .val (.int d1), .val (.int d2), .val (.int d3), .unset, .unset, .unset] [(.int (4 : Int32))]) (mkF m 40 #[.val (.int p0), .val (.int p1), .val (.int p2), .val (.int p3), .val (.int p4), .val (.long q5), .second, .val (.int tok), .val (.int k), .val (.int d1), .val (.int d2), .val (.int d3), .unset, .unset, .unset] []) := by
    intro target kt
    refine XS.iconst X0.here hx rfl (hb hby at_40) ?_
    exact kt
  obtain ⟨T7, h7, k7, X7, e7, E7, A7, st7⟩ := newP X0 hx hZ (own_w hw 0 rfl) e0 (g := (mkF m 41 #[.val (.int p0), .val (.int p1), .val (.int p2), .val (.int p3), .val (.int p4), .val (.long q5), .second, .val (.int tok), .val (.int k), .val (.int d1), .val (.int d2), .val (.int d3), .unset, .unset, .unset] [(.int (4 : Int32))])) rfl (hb hby at_41) rfl (by decide) (cap := 4) (by decide) (by decide) (by decide) (by decide)
  obtain ⟨c, g7⟩ : ∃ z, z = h0.size := ⟨_, rfl⟩
  rw [← g7] at A7 st7
  have g_c : n0 ≤ c := Nat.le_trans Z0 (Nat.le_of_eq g7.symm)
  have Od_7 := Od.ext E7
  have Z_7 : n0 ≤ h7.size := Nat.le_trans Z0 E7.1
  have V_c : Arv Z h7 c k7 .char (4 : Int32) [(.int (0 : Int32)), (.int (0 : Int32)), (.int (0 : Int32)), (.int (0 : Int32))] (.int (0 : Int32)) := (Arv.new A7 (by decide)).pad (pad_rep [] (.int (0 : Int32)) 4)
  have st8 : own_S p e below T7 (mkF m 60 #[.val (.int p0), .val (.int p1), .val (.int p2), .val (.int p3), .val (.int p4), .val (.long q5), .second, .val (.int tok), .val (.int k), .val (.int d1), .val (.int d2), .val (.int d3), .val (.ref c), .unset, .unset] [(.int d3), (.int d2), (.int d1), (.int tok), (.int p1), (.int k), (.int (0 : Int32)), (.int (0 : Int32)), (.ref c)]) (mkF m 43 #[.val (.int p0), .val (.int p1), .val (.int p2), .val (.int p3), .val (.int p4), .val (.long q5), .second, .val (.int tok), .val (.int k), .val (.int d1), .val (.int d2), .val (.int d3), .unset, .unset, .unset] [(.ref c)]) := by
    intro target kt
    refine XS.astore X7.here hx rfl (hb hby at_43) rfl rfl (l' := #[.val (.int p0), .val (.int p1), .val (.int p2), .val (.int p3), .val (.int p4), .val (.long q5), .second, .val (.int tok), .val (.int k), .val (.int d1), .val (.int d2), .val (.int d3), .val (.ref c), .unset, .unset]) rfl ?_
    refine XS.aload X7.here hx rfl (hb hby at_45) rfl rfl ?_
    refine XS.iconst X7.here hx rfl (hb hby at_47) ?_
    refine XS.iconst X7.here hx rfl (hb hby at_48) ?_
    refine XS.iload X7.here hx rfl (hb hby at_49) rfl ?_
    refine XS.iloadN X7.here hx rfl (hb hby at_51) rfl ?_
    refine XS.iload X7.here hx rfl (hb hby at_52) rfl ?_
    refine XS.iload X7.here hx rfl (hb hby at_54) rfl ?_
    refine XS.iload X7.here hx rfl (hb hby at_56) rfl ?_
    refine XS.iload X7.here hx rfl (hb hby at_58) rfl ?_
    exact kt
  obtain ⟨_, _, ⟨T9, L9, k9, n9⟩, -, X9, ⟨Lc9, hQ9, l9, y9, z9⟩, st9⟩ := Jvm.LawKit.callS X7 hx (y := (⟨"com/example/libbisim/libbisim/CursorExpectPinLaw", "at", "(IIICCCC)C"⟩ : MethodName)) hown (mvT hZ (own_w hw 1 rfl)) (mvT hZ (own_w hw 2 rfl)) (mvT hZ (own_w hw 3 rfl)) (mvT hZ (own_w hw 4 rfl)) (by decide) (backOf (W := 2) (rmAt l Z a0 hw [] (0 : Int32) k p1 tok d1 d2 d3  h7 n0 Z_7 hT.1 hd1c hd2c hd3c) hZ (own_w hw 4 rfl) (own_w hw 3 rfl) (by decide) (by decide)) (g := (mkF m 60 #[.val (.int p0), .val (.int p1), .val (.int p2), .val (.int p3), .val (.int p4), .val (.long q5), .second, .val (.int tok), .val (.int k), .val (.int d1), .val (.int d2), .val (.int d3), .val (.ref c), .unset, .unset] [(.int d3), (.int d2), (.int d1), (.int tok), (.int p1), (.int k), (.int (0 : Int32)), (.int (0 : Int32)), (.ref c)])) rfl (by rw [hml]; rfl) (argsL := [(.int (0 : Int32)), (.int k), (.int p1), (.int tok), (.int d1), (.int d2), (.int d3)]) (rest := [(.int (0 : Int32)), (.ref c)]) (lenOf pd_0 rfl) rfl (by show 2 * 0 + _ ≤ _; exact Nat.le_of_eq rfl) (hb hby at_60) (fun _ _ => ⟨rfl, e7, (by decide : 1 + 0 ≤ _), (by decide : 4 + 0 ≤ _)⟩)
  dsimp only [Pt.U, Pt.locs, Pt.cells, Pt.slots] at X9 l9 y9 z9 st9 hQ9
  subst l9 y9 z9
  obtain ⟨xa9, hxa9, rfl, Nq9, e9⟩ := hQ9
  have N9 := Fr.app N0 Nq9
  obtain ⟨cl10, Ar10, qc10, Sz10, Mn10, Hs10, Gs10⟩ := id V_c
  have hin10 : ¬ ((0 : Int32) < 0 ∨ cl10.slots.size ≤ ((0 : Int32)).toNatClampNeg) := inb_of Sz10 ⟨by decide, by decide⟩
  obtain ⟨T10, h10, X10, e10, W10, st10⟩ := stC X9 hx hZ e9 Ar10 (j := (0 : Int32)) hin10 (g := (mkF m 63 #[.val (.int p0), .val (.int p1), .val (.int p2), .val (.int p3), .val (.int p4), .val (.long q5), .second, .val (.int tok), .val (.int k), .val (.int d1), .val (.int d2), .val (.int d3), .val (.ref c), .unset, .unset] [(.int xa9), (.int (0 : Int32)), (.ref c)])) rfl rfl (hb hby at_63)
  have V_c_10 : Arv Z h10 c k7 .char (4 : Int32) [(.int (nar .char xa9)), (.int (0 : Int32)), (.int (0 : Int32)), (.int (0 : Int32))] (.int (0 : Int32)) := Arv.set Ar10 qc10 Sz10 Mn10 Hs10 Gs10 (fits_nar_char _) W10 0 rfl (Nat.le_of_ble_eq_true rfl)
  have Od_10 := Od_7.wr W10 g_c
  have Z_10 : n0 ≤ h10.size := Nat.le_trans Z_7 (Keep.of_wr W10).1
  have N10 := Fr.snoc X10 N9 g_c
  rw [own_ncI hxa9.1] at V_c_10
  have st11 : own_S p e below T10 (mkF m 79 #[.val (.int p0), .val (.int p1), .val (.int p2), .val (.int p3), .val (.int p4), .val (.long q5), .second, .val (.int tok), .val (.int k), .val (.int d1), .val (.int d2), .val (.int d3), .val (.ref c), .unset, .unset] [(.int d3), (.int d2), (.int d1), (.int tok), (.int p1), (.int k), (.int (1 : Int32)), (.int (1 : Int32)), (.ref c)]) (mkF m 64 #[.val (.int p0), .val (.int p1), .val (.int p2), .val (.int p3), .val (.int p4), .val (.long q5), .second, .val (.int tok), .val (.int k), .val (.int d1), .val (.int d2), .val (.int d3), .val (.ref c), .unset, .unset] []) := by
    intro target kt
    refine XS.aload X10.here hx rfl (hb hby at_64) rfl rfl ?_
    refine XS.iconst X10.here hx rfl (hb hby at_66) ?_
    refine XS.iconst X10.here hx rfl (hb hby at_67) ?_
    refine XS.iload X10.here hx rfl (hb hby at_68) rfl ?_
    refine XS.iloadN X10.here hx rfl (hb hby at_70) rfl ?_
    refine XS.iload X10.here hx rfl (hb hby at_71) rfl ?_
    refine XS.iload X10.here hx rfl (hb hby at_73) rfl ?_
    refine XS.iload X10.here hx rfl (hb hby at_75) rfl ?_
    refine XS.iload X10.here hx rfl (hb hby at_77) rfl ?_
    exact kt
  obtain ⟨_, _, ⟨T12, L12, k12, n12⟩, -, X12, ⟨Lc12, hQ12, l12, y12, z12⟩, st12⟩ := Jvm.LawKit.callS X10 hx (y := (⟨"com/example/libbisim/libbisim/CursorExpectPinLaw", "at", "(IIICCCC)C"⟩ : MethodName)) hown (mvT hZ (own_w hw 1 rfl)) (mvT hZ (own_w hw 2 rfl)) (mvT hZ (own_w hw 3 rfl)) (mvT hZ (own_w hw 4 rfl)) (by decide) (backOf (W := 2) (rmAt l Z a0 hw [] (1 : Int32) k p1 tok d1 d2 d3  h10 n0 Z_10 hT.1 hd1c hd2c hd3c) hZ (own_w hw 4 rfl) (own_w hw 3 rfl) (by decide) (by decide)) (g := (mkF m 79 #[.val (.int p0), .val (.int p1), .val (.int p2), .val (.int p3), .val (.int p4), .val (.long q5), .second, .val (.int tok), .val (.int k), .val (.int d1), .val (.int d2), .val (.int d3), .val (.ref c), .unset, .unset] [(.int d3), (.int d2), (.int d1), (.int tok), (.int p1), (.int k), (.int (1 : Int32)), (.int (1 : Int32)), (.ref c)])) rfl (by rw [hml]; rfl) (argsL := [(.int (1 : Int32)), (.int k), (.int p1), (.int tok), (.int d1), (.int d2), (.int d3)]) (rest := [(.int (1 : Int32)), (.ref c)]) (lenOf pd_0 rfl) rfl (by show 2 * 0 + _ ≤ _; exact Nat.le_of_eq rfl) (hb hby at_79) (fun _ _ => ⟨rfl, e10, (by decide : 1 + 0 ≤ _), (by decide : 4 + 0 ≤ _)⟩)
  dsimp only [Pt.U, Pt.locs, Pt.cells, Pt.slots] at X12 l12 y12 z12 st12 hQ12
  subst l12 y12 z12
  obtain ⟨xa12, hxa12, rfl, Nq12, e12⟩ := hQ12
  have N12 := Fr.app N10 Nq12
  obtain ⟨cl13, Ar13, qc13, Sz13, Mn13, Hs13, Gs13⟩ := id V_c_10
  have hin13 : ¬ ((1 : Int32) < 0 ∨ cl13.slots.size ≤ ((1 : Int32)).toNatClampNeg) := inb_of Sz13 ⟨by decide, by decide⟩
  obtain ⟨T13, h13, X13, e13, W13, st13⟩ := stC X12 hx hZ e12 Ar13 (j := (1 : Int32)) hin13 (g := (mkF m 82 #[.val (.int p0), .val (.int p1), .val (.int p2), .val (.int p3), .val (.int p4), .val (.long q5), .second, .val (.int tok), .val (.int k), .val (.int d1), .val (.int d2), .val (.int d3), .val (.ref c), .unset, .unset] [(.int xa12), (.int (1 : Int32)), (.ref c)])) rfl rfl (hb hby at_82)
  have V_c_13 : Arv Z h13 c k7 .char (4 : Int32) [(.int xa9), (.int (nar .char xa12)), (.int (0 : Int32)), (.int (0 : Int32))] (.int (0 : Int32)) := Arv.set Ar13 qc13 Sz13 Mn13 Hs13 Gs13 (fits_nar_char _) W13 1 rfl (Nat.le_of_ble_eq_true rfl)
  have Od_13 := Od_10.wr W13 g_c
  have Z_13 : n0 ≤ h13.size := Nat.le_trans Z_10 (Keep.of_wr W13).1
  have N13 := Fr.snoc X13 N12 g_c
  rw [own_ncI hxa12.1] at V_c_13
  have st14 : own_S p e below T13 (mkF m 98 #[.val (.int p0), .val (.int p1), .val (.int p2), .val (.int p3), .val (.int p4), .val (.long q5), .second, .val (.int tok), .val (.int k), .val (.int d1), .val (.int d2), .val (.int d3), .val (.ref c), .unset, .unset] [(.int d3), (.int d2), (.int d1), (.int tok), (.int p1), (.int k), (.int (2 : Int32)), (.int (2 : Int32)), (.ref c)]) (mkF m 83 #[.val (.int p0), .val (.int p1), .val (.int p2), .val (.int p3), .val (.int p4), .val (.long q5), .second, .val (.int tok), .val (.int k), .val (.int d1), .val (.int d2), .val (.int d3), .val (.ref c), .unset, .unset] []) := by
    intro target kt
    refine XS.aload X13.here hx rfl (hb hby at_83) rfl rfl ?_
    refine XS.iconst X13.here hx rfl (hb hby at_85) ?_
    refine XS.iconst X13.here hx rfl (hb hby at_86) ?_
    refine XS.iload X13.here hx rfl (hb hby at_87) rfl ?_
    refine XS.iloadN X13.here hx rfl (hb hby at_89) rfl ?_
    refine XS.iload X13.here hx rfl (hb hby at_90) rfl ?_
    refine XS.iload X13.here hx rfl (hb hby at_92) rfl ?_
    refine XS.iload X13.here hx rfl (hb hby at_94) rfl ?_
    refine XS.iload X13.here hx rfl (hb hby at_96) rfl ?_
    exact kt
  obtain ⟨_, _, ⟨T15, L15, k15, n15⟩, -, X15, ⟨Lc15, hQ15, l15, y15, z15⟩, st15⟩ := Jvm.LawKit.callS X13 hx (y := (⟨"com/example/libbisim/libbisim/CursorExpectPinLaw", "at", "(IIICCCC)C"⟩ : MethodName)) hown (mvT hZ (own_w hw 1 rfl)) (mvT hZ (own_w hw 2 rfl)) (mvT hZ (own_w hw 3 rfl)) (mvT hZ (own_w hw 4 rfl)) (by decide) (backOf (W := 2) (rmAt l Z a0 hw [] (2 : Int32) k p1 tok d1 d2 d3  h13 n0 Z_13 hT.1 hd1c hd2c hd3c) hZ (own_w hw 4 rfl) (own_w hw 3 rfl) (by decide) (by decide)) (g := (mkF m 98 #[.val (.int p0), .val (.int p1), .val (.int p2), .val (.int p3), .val (.int p4), .val (.long q5), .second, .val (.int tok), .val (.int k), .val (.int d1), .val (.int d2), .val (.int d3), .val (.ref c), .unset, .unset] [(.int d3), (.int d2), (.int d1), (.int tok), (.int p1), (.int k), (.int (2 : Int32)), (.int (2 : Int32)), (.ref c)])) rfl (by rw [hml]; rfl) (argsL := [(.int (2 : Int32)), (.int k), (.int p1), (.int tok), (.int d1), (.int d2), (.int d3)]) (rest := [(.int (2 : Int32)), (.ref c)]) (lenOf pd_0 rfl) rfl (by show 2 * 0 + _ ≤ _; exact Nat.le_of_eq rfl) (hb hby at_98) (fun _ _ => ⟨rfl, e13, (by decide : 1 + 0 ≤ _), (by decide : 4 + 0 ≤ _)⟩)
  dsimp only [Pt.U, Pt.locs, Pt.cells, Pt.slots] at X15 l15 y15 z15 st15 hQ15
  subst l15 y15 z15
  obtain ⟨xa15, hxa15, rfl, Nq15, e15⟩ := hQ15
  have N15 := Fr.app N13 Nq15
  obtain ⟨cl16, Ar16, qc16, Sz16, Mn16, Hs16, Gs16⟩ := id V_c_13
  have hin16 : ¬ ((2 : Int32) < 0 ∨ cl16.slots.size ≤ ((2 : Int32)).toNatClampNeg) := inb_of Sz16 ⟨by decide, by decide⟩
  obtain ⟨T16, h16, X16, e16, W16, st16⟩ := stC X15 hx hZ e15 Ar16 (j := (2 : Int32)) hin16 (g := (mkF m 101 #[.val (.int p0), .val (.int p1), .val (.int p2), .val (.int p3), .val (.int p4), .val (.long q5), .second, .val (.int tok), .val (.int k), .val (.int d1), .val (.int d2), .val (.int d3), .val (.ref c), .unset, .unset] [(.int xa15), (.int (2 : Int32)), (.ref c)])) rfl rfl (hb hby at_101)
  have V_c_16 : Arv Z h16 c k7 .char (4 : Int32) [(.int xa9), (.int xa12), (.int (nar .char xa15)), (.int (0 : Int32))] (.int (0 : Int32)) := Arv.set Ar16 qc16 Sz16 Mn16 Hs16 Gs16 (fits_nar_char _) W16 2 rfl (Nat.le_of_ble_eq_true rfl)
  have Od_16 := Od_13.wr W16 g_c
  have Z_16 : n0 ≤ h16.size := Nat.le_trans Z_13 (Keep.of_wr W16).1
  have N16 := Fr.snoc X16 N15 g_c
  rw [own_ncI hxa15.1] at V_c_16
  have st17 : own_S p e below T16 (mkF m 117 #[.val (.int p0), .val (.int p1), .val (.int p2), .val (.int p3), .val (.int p4), .val (.long q5), .second, .val (.int tok), .val (.int k), .val (.int d1), .val (.int d2), .val (.int d3), .val (.ref c), .unset, .unset] [(.int d3), (.int d2), (.int d1), (.int tok), (.int p1), (.int k), (.int (3 : Int32)), (.int (3 : Int32)), (.ref c)]) (mkF m 102 #[.val (.int p0), .val (.int p1), .val (.int p2), .val (.int p3), .val (.int p4), .val (.long q5), .second, .val (.int tok), .val (.int k), .val (.int d1), .val (.int d2), .val (.int d3), .val (.ref c), .unset, .unset] []) := by
    intro target kt
    refine XS.aload X16.here hx rfl (hb hby at_102) rfl rfl ?_
    refine XS.iconst X16.here hx rfl (hb hby at_104) ?_
    refine XS.iconst X16.here hx rfl (hb hby at_105) ?_
    refine XS.iload X16.here hx rfl (hb hby at_106) rfl ?_
    refine XS.iloadN X16.here hx rfl (hb hby at_108) rfl ?_
    refine XS.iload X16.here hx rfl (hb hby at_109) rfl ?_
    refine XS.iload X16.here hx rfl (hb hby at_111) rfl ?_
    refine XS.iload X16.here hx rfl (hb hby at_113) rfl ?_
    refine XS.iload X16.here hx rfl (hb hby at_115) rfl ?_
    exact kt
  obtain ⟨_, _, ⟨T18, L18, k18, n18⟩, -, X18, ⟨Lc18, hQ18, l18, y18, z18⟩, st18⟩ := Jvm.LawKit.callS X16 hx (y := (⟨"com/example/libbisim/libbisim/CursorExpectPinLaw", "at", "(IIICCCC)C"⟩ : MethodName)) hown (mvT hZ (own_w hw 1 rfl)) (mvT hZ (own_w hw 2 rfl)) (mvT hZ (own_w hw 3 rfl)) (mvT hZ (own_w hw 4 rfl)) (by decide) (backOf (W := 2) (rmAt l Z a0 hw [] (3 : Int32) k p1 tok d1 d2 d3  h16 n0 Z_16 hT.1 hd1c hd2c hd3c) hZ (own_w hw 4 rfl) (own_w hw 3 rfl) (by decide) (by decide)) (g := (mkF m 117 #[.val (.int p0), .val (.int p1), .val (.int p2), .val (.int p3), .val (.int p4), .val (.long q5), .second, .val (.int tok), .val (.int k), .val (.int d1), .val (.int d2), .val (.int d3), .val (.ref c), .unset, .unset] [(.int d3), (.int d2), (.int d1), (.int tok), (.int p1), (.int k), (.int (3 : Int32)), (.int (3 : Int32)), (.ref c)])) rfl (by rw [hml]; rfl) (argsL := [(.int (3 : Int32)), (.int k), (.int p1), (.int tok), (.int d1), (.int d2), (.int d3)]) (rest := [(.int (3 : Int32)), (.ref c)]) (lenOf pd_0 rfl) rfl (by show 2 * 0 + _ ≤ _; exact Nat.le_of_eq rfl) (hb hby at_117) (fun _ _ => ⟨rfl, e16, (by decide : 1 + 0 ≤ _), (by decide : 4 + 0 ≤ _)⟩)
  dsimp only [Pt.U, Pt.locs, Pt.cells, Pt.slots] at X18 l18 y18 z18 st18 hQ18
  subst l18 y18 z18
  obtain ⟨xa18, hxa18, rfl, Nq18, e18⟩ := hQ18
  have N18 := Fr.app N16 Nq18
  obtain ⟨cl19, Ar19, qc19, Sz19, Mn19, Hs19, Gs19⟩ := id V_c_16
  have hin19 : ¬ ((3 : Int32) < 0 ∨ cl19.slots.size ≤ ((3 : Int32)).toNatClampNeg) := inb_of Sz19 ⟨by decide, by decide⟩
  obtain ⟨T19, h19, X19, e19, W19, st19⟩ := stC X18 hx hZ e18 Ar19 (j := (3 : Int32)) hin19 (g := (mkF m 120 #[.val (.int p0), .val (.int p1), .val (.int p2), .val (.int p3), .val (.int p4), .val (.long q5), .second, .val (.int tok), .val (.int k), .val (.int d1), .val (.int d2), .val (.int d3), .val (.ref c), .unset, .unset] [(.int xa18), (.int (3 : Int32)), (.ref c)])) rfl rfl (hb hby at_120)
  have V_c_19 : Arv Z h19 c k7 .char (4 : Int32) [(.int xa9), (.int xa12), (.int xa15), (.int (nar .char xa18))] (.int (0 : Int32)) := Arv.set Ar19 qc19 Sz19 Mn19 Hs19 Gs19 (fits_nar_char _) W19 3 rfl (Nat.le_of_ble_eq_true rfl)
  have Od_19 := Od_16.wr W19 g_c
  have Z_19 : n0 ≤ h19.size := Nat.le_trans Z_16 (Keep.of_wr W19).1
  have N19 := Fr.snoc X19 N18 g_c
  rw [own_ncI hxa18.1] at V_c_19
  obtain ⟨cl20, Ar20, qc20, Sz20, Mn20, Hs20, Gs20⟩ := id V_c_19
  obtain ⟨rf, hrf, st21⟩ : ∃ (rf : Int32), rf = (if k < (1 : Int32) then (if xa12 = (44 : Int32) then (1 : Int32) else (if k < (2 : Int32) then (if xa15 = (44 : Int32) then (1 : Int32) else (if k < (3 : Int32) then (if xa18 = (44 : Int32) then (1 : Int32) else (0 : Int32)) else (0 : Int32))) else (if k < (3 : Int32) then (if xa18 = (44 : Int32) then (1 : Int32) else (0 : Int32)) else (0 : Int32)))) else (if k < (2 : Int32) then (if xa15 = (44 : Int32) then (1 : Int32) else (if k < (3 : Int32) then (if xa18 = (44 : Int32) then (1 : Int32) else (0 : Int32)) else (0 : Int32))) else (if k < (3 : Int32) then (if xa18 = (44 : Int32) then (1 : Int32) else (0 : Int32)) else (0 : Int32)))) ∧ own_S p e below T19 (mkF m 171 #[.val (.int p0), .val (.int p1), .val (.int p2), .val (.int p3), .val (.int p4), .val (.long q5), .second, .val (.int tok), .val (.int k), .val (.int d1), .val (.int d2), .val (.int d3), .val (.ref c), .unset, .unset] [(.int rf)]) (mkF m 121 #[.val (.int p0), .val (.int p1), .val (.int p2), .val (.int p3), .val (.int p4), .val (.long q5), .second, .val (.int tok), .val (.int k), .val (.int d1), .val (.int d2), .val (.int d3), .val (.ref c), .unset, .unset] []) := by
    refine ⟨_, rfl, fun target kt => ?_⟩
    refine XS.iload X19.here hx rfl (hb hby at_121) rfl ?_
    refine XS.iconst X19.here hx rfl (hb hby at_123) ?_
    by_cases hc124 : k < (1 : Int32)
    · rw [if_pos hc124] at kt
      refine XS.icmpNo X19.here hx rfl (hb hby at_124) rfl (tlt hc124).2.1 ?_
      refine XS.aload X19.here hx rfl (hb hby at_127) rfl rfl ?_
      refine XS.iconst X19.here hx rfl (hb hby at_129) ?_
      refine X19.caload hx (j := (1 : Int32)) (v := (.int xa12)) (by rw [e19]; exact Ar20.1) (State.isArrayOf_alike hZ.alike Ar20.2.1) Ar20.2.2 (inb_of (j := (1 : Int32)) Sz20 ⟨by decide, by decide⟩) (Hs20.at (inb_of (j := (1 : Int32)) Sz20 ⟨by decide, by decide⟩) rfl) (g := (mkF m 130 #[.val (.int p0), .val (.int p1), .val (.int p2), .val (.int p3), .val (.int p4), .val (.long q5), .second, .val (.int tok), .val (.int k), .val (.int d1), .val (.int d2), .val (.int d3), .val (.ref c), .unset, .unset] [(.int (1 : Int32)), (.ref c)])) rfl rfl (hb hby at_130) _ ?_
      refine XS.bipush X19.here hx rfl (hb hby at_131) ?_
      by_cases hc133 : xa12 = (44 : Int32)
      · rw [if_pos hc133] at kt
        refine XS.icmpYes X19.here hx rfl (pc0 := 133) (pc' := 166) rfl (hb hby at_133) rfl (teq hc133).1 (by decide) (by decide) ?_
        refine XS.iconst X19.here hx rfl (hb hby at_166) ?_
        refine XS.goto X19.here hx rfl (pc0 := 167) (pc' := 171) rfl (hb hby at_167) (by decide) (by decide) ?_
        exact kt
      · rw [if_neg hc133] at kt
        refine XS.icmpNo X19.here hx rfl (hb hby at_133) rfl (feq hc133).1 ?_
        refine XS.iload X19.here hx rfl (hb hby at_136) rfl ?_
        refine XS.iconst X19.here hx rfl (hb hby at_138) ?_
        by_cases hc139 : k < (2 : Int32)
        · rw [if_pos hc139] at kt
          refine XS.icmpNo X19.here hx rfl (hb hby at_139) rfl (tlt hc139).2.1 ?_
          refine XS.aload X19.here hx rfl (hb hby at_142) rfl rfl ?_
          refine XS.iconst X19.here hx rfl (hb hby at_144) ?_
          refine X19.caload hx (j := (2 : Int32)) (v := (.int xa15)) (by rw [e19]; exact Ar20.1) (State.isArrayOf_alike hZ.alike Ar20.2.1) Ar20.2.2 (inb_of (j := (2 : Int32)) Sz20 ⟨by decide, by decide⟩) (Hs20.at (inb_of (j := (2 : Int32)) Sz20 ⟨by decide, by decide⟩) rfl) (g := (mkF m 145 #[.val (.int p0), .val (.int p1), .val (.int p2), .val (.int p3), .val (.int p4), .val (.long q5), .second, .val (.int tok), .val (.int k), .val (.int d1), .val (.int d2), .val (.int d3), .val (.ref c), .unset, .unset] [(.int (2 : Int32)), (.ref c)])) rfl rfl (hb hby at_145) _ ?_
          refine XS.bipush X19.here hx rfl (hb hby at_146) ?_
          by_cases hc148 : xa15 = (44 : Int32)
          · rw [if_pos hc148] at kt
            refine XS.icmpYes X19.here hx rfl (pc0 := 148) (pc' := 166) rfl (hb hby at_148) rfl (teq hc148).1 (by decide) (by decide) ?_
            refine XS.iconst X19.here hx rfl (hb hby at_166) ?_
            refine XS.goto X19.here hx rfl (pc0 := 167) (pc' := 171) rfl (hb hby at_167) (by decide) (by decide) ?_
            exact kt
          · rw [if_neg hc148] at kt
            refine XS.icmpNo X19.here hx rfl (hb hby at_148) rfl (feq hc148).1 ?_
            refine XS.iload X19.here hx rfl (hb hby at_151) rfl ?_
            refine XS.iconst X19.here hx rfl (hb hby at_153) ?_
            by_cases hc154 : k < (3 : Int32)
            · rw [if_pos hc154] at kt
              refine XS.icmpNo X19.here hx rfl (hb hby at_154) rfl (tlt hc154).2.1 ?_
              refine XS.aload X19.here hx rfl (hb hby at_157) rfl rfl ?_
              refine XS.iconst X19.here hx rfl (hb hby at_159) ?_
              refine X19.caload hx (j := (3 : Int32)) (v := (.int xa18)) (by rw [e19]; exact Ar20.1) (State.isArrayOf_alike hZ.alike Ar20.2.1) Ar20.2.2 (inb_of (j := (3 : Int32)) Sz20 ⟨by decide, by decide⟩) (Hs20.at (inb_of (j := (3 : Int32)) Sz20 ⟨by decide, by decide⟩) rfl) (g := (mkF m 160 #[.val (.int p0), .val (.int p1), .val (.int p2), .val (.int p3), .val (.int p4), .val (.long q5), .second, .val (.int tok), .val (.int k), .val (.int d1), .val (.int d2), .val (.int d3), .val (.ref c), .unset, .unset] [(.int (3 : Int32)), (.ref c)])) rfl rfl (hb hby at_160) _ ?_
              refine XS.bipush X19.here hx rfl (hb hby at_161) ?_
              by_cases hc163 : xa18 = (44 : Int32)
              · rw [if_pos hc163] at kt
                refine XS.icmpNo X19.here hx rfl (hb hby at_163) rfl (teq hc163).2 ?_
                refine XS.iconst X19.here hx rfl (hb hby at_166) ?_
                refine XS.goto X19.here hx rfl (pc0 := 167) (pc' := 171) rfl (hb hby at_167) (by decide) (by decide) ?_
                exact kt
              · rw [if_neg hc163] at kt
                refine XS.icmpYes X19.here hx rfl (pc0 := 163) (pc' := 170) rfl (hb hby at_163) rfl (feq hc163).2 (by decide) (by decide) ?_
                refine XS.iconst X19.here hx rfl (hb hby at_170) ?_
                exact kt
            · rw [if_neg hc154] at kt
              refine XS.icmpYes X19.here hx rfl (pc0 := 154) (pc' := 170) rfl (hb hby at_154) rfl (flt hc154).2.1 (by decide) (by decide) ?_
              refine XS.iconst X19.here hx rfl (hb hby at_170) ?_
              exact kt
        · rw [if_neg hc139] at kt
          refine XS.icmpYes X19.here hx rfl (pc0 := 139) (pc' := 151) rfl (hb hby at_139) rfl (flt hc139).2.1 (by decide) (by decide) ?_
          refine XS.iload X19.here hx rfl (hb hby at_151) rfl ?_
          refine XS.iconst X19.here hx rfl (hb hby at_153) ?_
          by_cases hc154 : k < (3 : Int32)
          · rw [if_pos hc154] at kt
            refine XS.icmpNo X19.here hx rfl (hb hby at_154) rfl (tlt hc154).2.1 ?_
            refine XS.aload X19.here hx rfl (hb hby at_157) rfl rfl ?_
            refine XS.iconst X19.here hx rfl (hb hby at_159) ?_
            refine X19.caload hx (j := (3 : Int32)) (v := (.int xa18)) (by rw [e19]; exact Ar20.1) (State.isArrayOf_alike hZ.alike Ar20.2.1) Ar20.2.2 (inb_of (j := (3 : Int32)) Sz20 ⟨by decide, by decide⟩) (Hs20.at (inb_of (j := (3 : Int32)) Sz20 ⟨by decide, by decide⟩) rfl) (g := (mkF m 160 #[.val (.int p0), .val (.int p1), .val (.int p2), .val (.int p3), .val (.int p4), .val (.long q5), .second, .val (.int tok), .val (.int k), .val (.int d1), .val (.int d2), .val (.int d3), .val (.ref c), .unset, .unset] [(.int (3 : Int32)), (.ref c)])) rfl rfl (hb hby at_160) _ ?_
            refine XS.bipush X19.here hx rfl (hb hby at_161) ?_
            by_cases hc163 : xa18 = (44 : Int32)
            · rw [if_pos hc163] at kt
              refine XS.icmpNo X19.here hx rfl (hb hby at_163) rfl (teq hc163).2 ?_
              refine XS.iconst X19.here hx rfl (hb hby at_166) ?_
              refine XS.goto X19.here hx rfl (pc0 := 167) (pc' := 171) rfl (hb hby at_167) (by decide) (by decide) ?_
              exact kt
            · rw [if_neg hc163] at kt
              refine XS.icmpYes X19.here hx rfl (pc0 := 163) (pc' := 170) rfl (hb hby at_163) rfl (feq hc163).2 (by decide) (by decide) ?_
              refine XS.iconst X19.here hx rfl (hb hby at_170) ?_
              exact kt
          · rw [if_neg hc154] at kt
            refine XS.icmpYes X19.here hx rfl (pc0 := 154) (pc' := 170) rfl (hb hby at_154) rfl (flt hc154).2.1 (by decide) (by decide) ?_
            refine XS.iconst X19.here hx rfl (hb hby at_170) ?_
            exact kt
    · rw [if_neg hc124] at kt
      refine XS.icmpYes X19.here hx rfl (pc0 := 124) (pc' := 136) rfl (hb hby at_124) rfl (flt hc124).2.1 (by decide) (by decide) ?_
      refine XS.iload X19.here hx rfl (hb hby at_136) rfl ?_
      refine XS.iconst X19.here hx rfl (hb hby at_138) ?_
      by_cases hc139 : k < (2 : Int32)
      · rw [if_pos hc139] at kt
        refine XS.icmpNo X19.here hx rfl (hb hby at_139) rfl (tlt hc139).2.1 ?_
        refine XS.aload X19.here hx rfl (hb hby at_142) rfl rfl ?_
        refine XS.iconst X19.here hx rfl (hb hby at_144) ?_
        refine X19.caload hx (j := (2 : Int32)) (v := (.int xa15)) (by rw [e19]; exact Ar20.1) (State.isArrayOf_alike hZ.alike Ar20.2.1) Ar20.2.2 (inb_of (j := (2 : Int32)) Sz20 ⟨by decide, by decide⟩) (Hs20.at (inb_of (j := (2 : Int32)) Sz20 ⟨by decide, by decide⟩) rfl) (g := (mkF m 145 #[.val (.int p0), .val (.int p1), .val (.int p2), .val (.int p3), .val (.int p4), .val (.long q5), .second, .val (.int tok), .val (.int k), .val (.int d1), .val (.int d2), .val (.int d3), .val (.ref c), .unset, .unset] [(.int (2 : Int32)), (.ref c)])) rfl rfl (hb hby at_145) _ ?_
        refine XS.bipush X19.here hx rfl (hb hby at_146) ?_
        by_cases hc148 : xa15 = (44 : Int32)
        · rw [if_pos hc148] at kt
          refine XS.icmpYes X19.here hx rfl (pc0 := 148) (pc' := 166) rfl (hb hby at_148) rfl (teq hc148).1 (by decide) (by decide) ?_
          refine XS.iconst X19.here hx rfl (hb hby at_166) ?_
          refine XS.goto X19.here hx rfl (pc0 := 167) (pc' := 171) rfl (hb hby at_167) (by decide) (by decide) ?_
          exact kt
        · rw [if_neg hc148] at kt
          refine XS.icmpNo X19.here hx rfl (hb hby at_148) rfl (feq hc148).1 ?_
          refine XS.iload X19.here hx rfl (hb hby at_151) rfl ?_
          refine XS.iconst X19.here hx rfl (hb hby at_153) ?_
          by_cases hc154 : k < (3 : Int32)
          · rw [if_pos hc154] at kt
            refine XS.icmpNo X19.here hx rfl (hb hby at_154) rfl (tlt hc154).2.1 ?_
            refine XS.aload X19.here hx rfl (hb hby at_157) rfl rfl ?_
            refine XS.iconst X19.here hx rfl (hb hby at_159) ?_
            refine X19.caload hx (j := (3 : Int32)) (v := (.int xa18)) (by rw [e19]; exact Ar20.1) (State.isArrayOf_alike hZ.alike Ar20.2.1) Ar20.2.2 (inb_of (j := (3 : Int32)) Sz20 ⟨by decide, by decide⟩) (Hs20.at (inb_of (j := (3 : Int32)) Sz20 ⟨by decide, by decide⟩) rfl) (g := (mkF m 160 #[.val (.int p0), .val (.int p1), .val (.int p2), .val (.int p3), .val (.int p4), .val (.long q5), .second, .val (.int tok), .val (.int k), .val (.int d1), .val (.int d2), .val (.int d3), .val (.ref c), .unset, .unset] [(.int (3 : Int32)), (.ref c)])) rfl rfl (hb hby at_160) _ ?_
            refine XS.bipush X19.here hx rfl (hb hby at_161) ?_
            by_cases hc163 : xa18 = (44 : Int32)
            · rw [if_pos hc163] at kt
              refine XS.icmpNo X19.here hx rfl (hb hby at_163) rfl (teq hc163).2 ?_
              refine XS.iconst X19.here hx rfl (hb hby at_166) ?_
              refine XS.goto X19.here hx rfl (pc0 := 167) (pc' := 171) rfl (hb hby at_167) (by decide) (by decide) ?_
              exact kt
            · rw [if_neg hc163] at kt
              refine XS.icmpYes X19.here hx rfl (pc0 := 163) (pc' := 170) rfl (hb hby at_163) rfl (feq hc163).2 (by decide) (by decide) ?_
              refine XS.iconst X19.here hx rfl (hb hby at_170) ?_
              exact kt
          · rw [if_neg hc154] at kt
            refine XS.icmpYes X19.here hx rfl (pc0 := 154) (pc' := 170) rfl (hb hby at_154) rfl (flt hc154).2.1 (by decide) (by decide) ?_
            refine XS.iconst X19.here hx rfl (hb hby at_170) ?_
            exact kt
      · rw [if_neg hc139] at kt
        refine XS.icmpYes X19.here hx rfl (pc0 := 139) (pc' := 151) rfl (hb hby at_139) rfl (flt hc139).2.1 (by decide) (by decide) ?_
        refine XS.iload X19.here hx rfl (hb hby at_151) rfl ?_
        refine XS.iconst X19.here hx rfl (hb hby at_153) ?_
        by_cases hc154 : k < (3 : Int32)
        · rw [if_pos hc154] at kt
          refine XS.icmpNo X19.here hx rfl (hb hby at_154) rfl (tlt hc154).2.1 ?_
          refine XS.aload X19.here hx rfl (hb hby at_157) rfl rfl ?_
          refine XS.iconst X19.here hx rfl (hb hby at_159) ?_
          refine X19.caload hx (j := (3 : Int32)) (v := (.int xa18)) (by rw [e19]; exact Ar20.1) (State.isArrayOf_alike hZ.alike Ar20.2.1) Ar20.2.2 (inb_of (j := (3 : Int32)) Sz20 ⟨by decide, by decide⟩) (Hs20.at (inb_of (j := (3 : Int32)) Sz20 ⟨by decide, by decide⟩) rfl) (g := (mkF m 160 #[.val (.int p0), .val (.int p1), .val (.int p2), .val (.int p3), .val (.int p4), .val (.long q5), .second, .val (.int tok), .val (.int k), .val (.int d1), .val (.int d2), .val (.int d3), .val (.ref c), .unset, .unset] [(.int (3 : Int32)), (.ref c)])) rfl rfl (hb hby at_160) _ ?_
          refine XS.bipush X19.here hx rfl (hb hby at_161) ?_
          by_cases hc163 : xa18 = (44 : Int32)
          · rw [if_pos hc163] at kt
            refine XS.icmpNo X19.here hx rfl (hb hby at_163) rfl (teq hc163).2 ?_
            refine XS.iconst X19.here hx rfl (hb hby at_166) ?_
            refine XS.goto X19.here hx rfl (pc0 := 167) (pc' := 171) rfl (hb hby at_167) (by decide) (by decide) ?_
            exact kt
          · rw [if_neg hc163] at kt
            refine XS.icmpYes X19.here hx rfl (pc0 := 163) (pc' := 170) rfl (hb hby at_163) rfl (feq hc163).2 (by decide) (by decide) ?_
            refine XS.iconst X19.here hx rfl (hb hby at_170) ?_
            exact kt
        · rw [if_neg hc154] at kt
          refine XS.icmpYes X19.here hx rfl (pc0 := 154) (pc' := 170) rfl (hb hby at_154) rfl (flt hc154).2.1 (by decide) (by decide) ?_
          refine XS.iconst X19.here hx rfl (hb hby at_170) ?_
          exact kt
  have hR : (rf = 1 ∧ own_P k xa12 xa15 xa18) ∨ (rf = 0 ∧ ¬ own_P k xa12 xa15 xa18) := own_rf hrf
  have hBk : own_B k xa9 xa12 xa15 xa18 ∧ own_ix4 k tok xa9 xa12 xa15 xa18 ∧ ¬ k = (4 : Int32) ∧ own_ip4 (k + (1 : Int32)) (own_P k xa12 xa15 xa18) xa9 xa12 xa15 xa18 := own_all hk4 hT.2 ⟨hxa9.2, hxa12.2, hxa15.2, hxa18.2⟩
  have st22 : own_S p e below T19 (mkF m 173 #[.val (.int p0), .val (.int p1), .val (.int p2), .val (.int p3), .val (.int p4), .val (.long q5), .second, .val (.int tok), .val (.int k), .val (.int d1), .val (.int d2), .val (.int d3), .val (.ref c), .val (.int rf), .unset] []) (mkF m 171 #[.val (.int p0), .val (.int p1), .val (.int p2), .val (.int p3), .val (.int p4), .val (.long q5), .second, .val (.int tok), .val (.int k), .val (.int d1), .val (.int d2), .val (.int d3), .val (.ref c), .unset, .unset] [(.int rf)]) := by
    intro target kt
    refine XS.istore X19.here hx rfl (hb hby at_171) rfl (l' := #[.val (.int p0), .val (.int p1), .val (.int p2), .val (.int p3), .val (.int p4), .val (.long q5), .second, .val (.int tok), .val (.int k), .val (.int d1), .val (.int d2), .val (.int d3), .val (.ref c), .val (.int rf), .unset]) rfl ?_
    exact kt
  obtain ⟨T23, h23, X23, e23, E23, A23, D23, -, st23⟩ := newO X19 hx hZ hown (own_w hw 5 rfl) (own_w hw 6 rfl) (own_w hw 7 rfl) e19 (g := (mkF m 173 #[.val (.int p0), .val (.int p1), .val (.int p2), .val (.int p3), .val (.int p4), .val (.long q5), .second, .val (.int tok), .val (.int k), .val (.int d1), .val (.int d2), .val (.int d3), .val (.ref c), .val (.int rf), .unset] [])) rfl (hb hby at_173) (by decide) (by decide)
  obtain ⟨cu, g23⟩ : ∃ z, z = h19.size := ⟨_, rfl⟩
  rw [← g23] at A23 D23 st23
  have g_cu : n0 ≤ cu := Nat.le_trans Z_19 (Nat.le_of_eq g23.symm)
  have ne_c_cu : c ≠ cu := Nat.ne_of_lt (Nat.lt_of_lt_of_le V_c_19.lt (Nat.le_of_eq g23.symm))
  have Od_23 := Od_19.ext E23
  have V_c_23 := V_c_19.ext E23
  have Z_23 : n0 ≤ h23.size := Nat.le_trans Z_19 E23.1
  have E_cu : Exa Z h23 cu "com/example/libbisim/libbisim/TextFormat$Cursor" := A23
  have F_text_cu : Fld Z h23 cu "com/example/libbisim/libbisim/TextFormat$Cursor" "text" "Ljava/lang/String;" .null := D23 (Or.inr (own_w hw 46 rfl)) (ty := (.object "java/lang/String")) (by decide)
  have F_source_cu : Fld Z h23 cu "com/example/libbisim/libbisim/TextFormat$Cursor" "source" "Ljava/lang/String;" .null := D23 (Or.inr (own_w hw 48 rfl)) (ty := (.object "java/lang/String")) (by decide)
  have F_line_cu : Fld Z h23 cu "com/example/libbisim/libbisim/TextFormat$Cursor" "line" "J" (.long (0 : Int64)) := D23 (Or.inr (own_w hw 50 rfl)) (ty := .long) (by decide)
  have F_expected_cu : Fld Z h23 cu "com/example/libbisim/libbisim/TextFormat$Cursor" "expected" "Ljava/lang/String;" .null := D23 (Or.inr (own_w hw 52 rfl)) (ty := (.object "java/lang/String")) (by decide)
  have F_at_cu : Fld Z h23 cu "com/example/libbisim/libbisim/TextFormat$Cursor" "at" "I" (.int (0 : Int32)) := D23 (Or.inl (own_w hw 63 rfl)) (ty := .int) (by decide)
  have st24 : own_S p e below T23 (mkF m 177 #[.val (.int p0), .val (.int p1), .val (.int p2), .val (.int p3), .val (.int p4), .val (.long q5), .second, .val (.int tok), .val (.int k), .val (.int d1), .val (.int d2), .val (.int d3), .val (.ref c), .val (.int rf), .unset] [(.ref cu), (.ref cu)]) (mkF m 176 #[.val (.int p0), .val (.int p1), .val (.int p2), .val (.int p3), .val (.int p4), .val (.long q5), .second, .val (.int tok), .val (.int k), .val (.int d1), .val (.int d2), .val (.int d3), .val (.ref c), .val (.int rf), .unset] [(.ref cu)]) := by
    intro target kt
    refine XS.dup X23.here hx rfl (hb hby at_176) rfl rfl ?_
    exact kt
  obtain ⟨T25, h25, X25, e25, E25, A25, D25, -, st25⟩ := newO X23 hx hZ hown (own_w hw 8 rfl) (own_w hw 9 rfl) (own_w hw 10 rfl) e23 (g := (mkF m 177 #[.val (.int p0), .val (.int p1), .val (.int p2), .val (.int p3), .val (.int p4), .val (.long q5), .second, .val (.int tok), .val (.int k), .val (.int d1), .val (.int d2), .val (.int d3), .val (.ref c), .val (.int rf), .unset] [(.ref cu), (.ref cu)])) rfl (hb hby at_177) (by decide) (by decide)
  obtain ⟨t, g25⟩ : ∃ z, z = h23.size := ⟨_, rfl⟩
  rw [← g25] at A25 D25 st25
  have g_t : n0 ≤ t := Nat.le_trans Z_23 (Nat.le_of_eq g25.symm)
  have ne_c_t : c ≠ t := Nat.ne_of_lt (Nat.lt_of_lt_of_le V_c_23.lt (Nat.le_of_eq g25.symm))
  have ne_cu_t : cu ≠ t := Nat.ne_of_lt (Nat.lt_of_lt_of_le E_cu.lt (Nat.le_of_eq g25.symm))
  have Od_25 := Od_23.ext E25
  have V_c_25 := V_c_23.ext E25
  have E_cu_25 := E_cu.ext E25
  have F_text_cu_25 := F_text_cu.ext E25
  have F_source_cu_25 := F_source_cu.ext E25
  have F_line_cu_25 := F_line_cu.ext E25
  have F_expected_cu_25 := F_expected_cu.ext E25
  have F_at_cu_25 := F_at_cu.ext E25
  have Z_25 : n0 ≤ h25.size := Nat.le_trans Z_23 E25.1
  have E_t : Exa Z h25 t "java/lang/String" := A25
  have F_coder_t : Fld Z h25 t "java/lang/String" "coder" "B" (.int (0 : Int32)) := D25 (Or.inr (own_w hw 34 rfl)) (ty := .byte) (by decide)
  have F_value_t : Fld Z h25 t "java/lang/String" "value" "[B" .null := D25 (Or.inr (own_w hw 36 rfl)) (ty := (.array .byte)) (by decide)
  have st26 : own_S p e below T25 (mkF m 183 #[.val (.int p0), .val (.int p1), .val (.int p2), .val (.int p3), .val (.int p4), .val (.long q5), .second, .val (.int tok), .val (.int k), .val (.int d1), .val (.int d2), .val (.int d3), .val (.ref c), .val (.int rf), .unset] [(.ref c), (.ref t), (.ref t), (.ref cu), (.ref cu)]) (mkF m 180 #[.val (.int p0), .val (.int p1), .val (.int p2), .val (.int p3), .val (.int p4), .val (.long q5), .second, .val (.int tok), .val (.int k), .val (.int d1), .val (.int d2), .val (.int d3), .val (.ref c), .val (.int rf), .unset] [(.ref t), (.ref cu), (.ref cu)]) := by
    intro target kt
    refine XS.dup X25.here hx rfl (hb hby at_180) rfl rfl ?_
    refine XS.aload X25.here hx rfl (hb hby at_181) rfl rfl ?_
    exact kt
  by_cases hL : ¬ (255 : Int32) < xa9 ∧ ¬ (255 : Int32) < xa12 ∧ ¬ (255 : Int32) < xa15 ∧ ¬ (255 : Int32) < xa18
  · have hws : ∀ d ∈ StrChars.Road.words, d.before a0 Z = true := fun d hd => hw d ((by decide +kernel : ∀ d ∈ StrChars.Road.words, d ∈ tables_1) d hd)
    have hp : ∀ c ∈ ([xa9, xa12, xa15, xa18] : List Int32), ¬ c < 0 ∧ ¬ (255 : Int32) < c := by
      intro c hc
      simp only [List.mem_cons, List.not_mem_nil, or_false] at hc
      rcases hc with rfl | rfl | rfl | rfl
      · exact ⟨own_nlt0 hxa9.1.1, hL.1⟩
      · exact ⟨own_nlt0 hxa12.1.1, hL.2.1⟩
      · exact ⟨own_nlt0 hxa15.1.1, hL.2.2.1⟩
      · exact ⟨own_nlt0 hxa18.1.1, hL.2.2.2⟩
    obtain ⟨_, _, ⟨T27, L27, k27, n27⟩, -, X27, ⟨Lc27, hQ27, l27, y27, z27⟩, st27⟩ := X25.specialBack hx (y := (⟨"java/lang/String", "<init>", "([C)V"⟩ : MethodName)) rfl hown (mvT hZ (own_w hw 11 rfl)) (mvT hZ (own_w hw 12 rfl)) (mvT hZ (own_w hw 13 rfl)) (by decide) (StrChars.Road.backV (W := 3) hZ hws (kI := 4) (own_w hw 9 rfl) (cs := ([xa9, xa12, xa15, xa18] : List Int32)) (bs := ([xa9, xa12, xa15, xa18] : List Int32).map (fun c => c.toInt8.toInt32)) (n := 4) g_t Z_25 E_t F_value_t F_coder_t V_c_25 (SB.1.ext Od_25.2) SB.2.1 rfl rfl (by decide) (by decide) hp rfl (by decide) (by decide)) (g := (mkF m 183 #[.val (.int p0), .val (.int p1), .val (.int p2), .val (.int p3), .val (.int p4), .val (.long q5), .second, .val (.int tok), .val (.int k), .val (.int d1), .val (.int d2), .val (.int d3), .val (.ref c), .val (.int rf), .unset] [(.ref c), (.ref t), (.ref t), (.ref cu), (.ref cu)])) rfl (by rw [hml]; rfl) (Steps.refl _) (a := t) (argsL := [(.ref c)]) (rest := [(.ref t), (.ref cu), (.ref cu)]) (lenOf pd_1 rfl) rfl (by show 2 * 0 + _ ≤ _; exact Nat.le_of_eq rfl) (hb hby at_183) (fun _ _ => ⟨rfl, e25, (by decide : 3 + 1 ≤ _), (by decide : 13 + 4 ≤ _)⟩)
    dsimp only [Pt.U, Pt.locs, Pt.cells, Pt.slots] at X27 l27 y27 z27 st27 hQ27
    subst l27 y27 z27
    obtain ⟨rfl, Nq27, K27, Et, Ct, yy, ky, u1, szy, u3, Fvt, Vy⟩ := hQ27
    have N27 := Fr.app N19 Nq27
    have g_yy : n0 ≤ yy := Nat.le_trans Z_25 szy
    have ne_c_yy : c ≠ yy := Nat.ne_of_lt (Nat.lt_of_lt_of_le V_c_25.lt szy)
    have ne_cu_yy : cu ≠ yy := Nat.ne_of_lt (Nat.lt_of_lt_of_le E_cu_25.lt szy)
    have ne_t_yy : t ≠ yy := Nat.ne_of_lt (Nat.lt_of_lt_of_le E_t.lt szy)
    have Od_27 := Od_25.keep K27 (allS g_t (all0))
    have V_c_27 := V_c_25.keep K27 (ninS ne_c_t nin0)
    have E_cu_27 := E_cu_25.keep K27
    have F_text_cu_27 := F_text_cu_25.keep K27 (ninS ne_cu_t nin0)
    have F_source_cu_27 := F_source_cu_25.keep K27 (ninS ne_cu_t nin0)
    have F_line_cu_27 := F_line_cu_25.keep K27 (ninS ne_cu_t nin0)
    have F_expected_cu_27 := F_expected_cu_25.keep K27 (ninS ne_cu_t nin0)
    have F_at_cu_27 := F_at_cu_25.keep K27 (ninS ne_cu_t nin0)
    have E_t_27 := E_t.keep K27
    have Z_27 : n0 ≤ T27.heap.size := Nat.le_trans Z_25 K27.1
    have SFt : own_SF Z T27.heap t yy ky xa9 xa12 xa15 xa18 := Or.inl ⟨Ct, Vy, ⟨hxa9.1.1, own_lt256 hL.1⟩, ⟨hxa12.1.1, own_lt256 hL.2.1⟩, ⟨hxa15.1.1, own_lt256 hL.2.2.1⟩, ⟨hxa18.1.1, own_lt256 hL.2.2.2⟩⟩
    have wS : ∀ a ∈ Bundle.stringAtoms, a.before a0 Z = true := fun d hd => hw d ((by decide +kernel : ∀ d ∈ Bundle.stringAtoms, d ∈ tables_1) d hd)
    obtain ⟨sl, T28, h28, k1_28, X28, e28, E28, hS, kz_28, hZ, hown, st28⟩ := Jvm.RoadKit.ldcS (s := s) (vm0 := s.vm) X27 hx hZ hown (own_w hw 37 rfl) wS rfl ((State.WarmedH.refl s).since 0) (Nat.zero_le _) (g := (mkF m 186 #[.val (.int p0), .val (.int p1), .val (.int p2), .val (.int p3), .val (.int p4), .val (.long q5), .second, .val (.int tok), .val (.int k), .val (.int d1), .val (.int d2), .val (.int d3), .val (.ref c), .val (.int rf), .unset] [(.ref t), (.ref cu), (.ref cu)])) rfl (hb hby at_186) (n := 4) (by decide) (by decide) (by decide) (by decide)
    have Od_28 := Od_27.ext E28
    have E_cu_28 := E_cu_27.ext E28
    have F_text_cu_28 := F_text_cu_27.ext E28
    have F_source_cu_28 := F_source_cu_27.ext E28
    have F_line_cu_28 := F_line_cu_27.ext E28
    have F_expected_cu_28 := F_expected_cu_27.ext E28
    have F_at_cu_28 := F_at_cu_27.ext E28
    have Et_28 := Et.ext E28
    have Fvt_28 := Fvt.ext E28
    have SFt_28 := SFt.ext E28
    have Z_28 : n0 ≤ h28.size := Nat.le_trans Z_27 E28.1
    have st29 : own_S p e below T28 (mkF m 190 #[.val (.int p0), .val (.int p1), .val (.int p2), .val (.int p3), .val (.int p4), .val (.long q5), .second, .val (.int tok), .val (.int k), .val (.int d1), .val (.int d2), .val (.int d3), .val (.ref c), .val (.int rf), .unset] [(.long q5), (.ref sl), (.ref t), (.ref cu), (.ref cu)]) (mkF m 188 #[.val (.int p0), .val (.int p1), .val (.int p2), .val (.int p3), .val (.int p4), .val (.long q5), .second, .val (.int tok), .val (.int k), .val (.int d1), .val (.int d2), .val (.int d3), .val (.ref c), .val (.int rf), .unset] [(.ref sl), (.ref t), (.ref cu), (.ref cu)]) := by
      intro target kt
      refine XS.lload X28.here hx rfl (hb hby at_188) rfl ?_
      exact kt
    obtain ⟨el, T30, h30, k1_30, X30, e30, E30, hS, kz_30, hZ, hown, st30⟩ := Jvm.RoadKit.ldcS (s := s) (vm0 := T28.vm) X28 hx hZ hown (own_w hw 40 rfl) wS e28 hS kz_28 (g := (mkF m 190 #[.val (.int p0), .val (.int p1), .val (.int p2), .val (.int p3), .val (.int p4), .val (.long q5), .second, .val (.int tok), .val (.int k), .val (.int d1), .val (.int d2), .val (.int d3), .val (.ref c), .val (.int rf), .unset] [(.long q5), (.ref sl), (.ref t), (.ref cu), (.ref cu)])) rfl (hb hby at_190) (n := 4) (by decide) (by decide) (by decide) (by decide)
    have Od_30 := Od_28.ext E30
    have E_cu_30 := E_cu_28.ext E30
    have F_text_cu_30 := F_text_cu_28.ext E30
    have F_source_cu_30 := F_source_cu_28.ext E30
    have F_line_cu_30 := F_line_cu_28.ext E30
    have F_expected_cu_30 := F_expected_cu_28.ext E30
    have F_at_cu_30 := F_at_cu_28.ext E30
    have Et_30 := Et_28.ext E30
    have Fvt_30 := Fvt_28.ext E30
    have SFt_30 := SFt_28.ext E30
    have Z_30 : n0 ≤ h30.size := Nat.le_trans Z_28 E30.1
    obtain ⟨_, _, ⟨T31, L31, k31, n31⟩, -, X31, ⟨Lc31, hQ31, l31, y31, z31⟩, st31⟩ := X30.specialBack hx (y := (⟨"com/example/libbisim/libbisim/TextFormat$Cursor", "<init>", "(Ljava/lang/String;Ljava/lang/String;JLjava/lang/String;)V"⟩ : MethodName)) rfl hown (mvT hZ (own_w hw 41 rfl)) (mvT hZ (own_w hw 42 rfl)) (mvT hZ (own_w hw 43 rfl)) (by decide) (backOf (W := 1) (rmCur l Z a0 hw [] cu t sl q5 el  h30 n0 Z_30 F_text_cu_30 F_source_cu_30 F_line_cu_30 F_expected_cu_30 F_at_cu_30 E_cu_30 g_cu) hZ (own_w hw 43 rfl) (own_w hw 7 rfl) (by decide) (by decide)) (g := (mkF m 192 #[.val (.int p0), .val (.int p1), .val (.int p2), .val (.int p3), .val (.int p4), .val (.long q5), .second, .val (.int tok), .val (.int k), .val (.int d1), .val (.int d2), .val (.int d3), .val (.ref c), .val (.int rf), .unset] [(.ref el), (.long q5), (.ref sl), (.ref t), (.ref cu), (.ref cu)])) rfl (by rw [hml]; rfl) (Steps.refl _) (a := cu) (argsL := [(.ref t), (.ref sl), (.long q5), (.ref el)]) (rest := [(.ref cu)]) (lenOf pd_7 rfl) rfl (by show 2 * 0 + _ ≤ _; exact Nat.le_of_eq rfl) (hb hby at_192) (fun _ _ => ⟨rfl, e30, (by decide : 8 + 0 ≤ _), (by decide : 33 + 0 ≤ _)⟩)
    dsimp only [Pt.U, Pt.locs, Pt.cells, Pt.slots] at X31 l31 y31 z31 st31 hQ31
    subst l31 y31 z31
    obtain ⟨rfl, Nq31, K31, E_cu_i, F_text_cu_i, F_source_cu_i, F_line_cu_i, F_expected_cu_i, F_at_cu_i⟩ := hQ31
    have N31 := Fr.app N27 Nq31
    have Od_31 := Od_30.keep K31 (allS g_cu (all0))
    have E_cu_31 := E_cu_30.keep K31
    have Et_31 := Et_30.keep K31
    have Fvt_31 := Fvt_30.keep K31 (ninS (Ne.symm ne_cu_t) nin0)
    have SFt_31 := SFt_30.keep K31 (ninS (Ne.symm ne_cu_t) nin0) (ninS (Ne.symm ne_cu_yy) nin0)
    have Z_31 : n0 ≤ T31.heap.size := Nat.le_trans Z_30 K31.1
    have kz_31 : k1_30 ≤ T31.heap.size := Nat.le_trans kz_30 K31.1
    have st32 : own_S p e below T31 (mkF m 201 #[.val (.int p0), .val (.int p1), .val (.int p2), .val (.int p3), .val (.int p4), .val (.long q5), .second, .val (.int tok), .val (.int k), .val (.int d1), .val (.int d2), .val (.int d3), .val (.ref c), .val (.int rf), .val (.ref cu)] [(.int tok), (.ref cu)]) (mkF m 195 #[.val (.int p0), .val (.int p1), .val (.int p2), .val (.int p3), .val (.int p4), .val (.long q5), .second, .val (.int tok), .val (.int k), .val (.int d1), .val (.int d2), .val (.int d3), .val (.ref c), .val (.int rf), .unset] [(.ref cu)]) := by
      intro target kt
      refine XS.astore X31.here hx rfl (hb hby at_195) rfl rfl (l' := #[.val (.int p0), .val (.int p1), .val (.int p2), .val (.int p3), .val (.int p4), .val (.long q5), .second, .val (.int tok), .val (.int k), .val (.int d1), .val (.int d2), .val (.int d3), .val (.ref c), .val (.int rf), .val (.ref cu)]) rfl ?_
      refine XS.aload X31.here hx rfl (hb hby at_197) rfl rfl ?_
      refine XS.iload X31.here hx rfl (hb hby at_199) rfl ?_
      exact kt
    obtain ⟨cq33, kq33, qv33a, qv33b, qv33c⟩ := isOf hZ rfl E_cu_i
    obtain ⟨_, _, ⟨T33, L33, k33, n33⟩, -, X33, ⟨Lc33, hQ33, l33, y33, z33⟩, st33⟩ := X31.virtualBack hx (y := (⟨"com/example/libbisim/libbisim/TextFormat$Cursor", "expect", "(C)V"⟩ : MethodName)) (z := (⟨"com/example/libbisim/libbisim/TextFormat$Cursor", "expect", "(C)V"⟩ : MethodName)) hown (mvT hZ (own_w hw 53 rfl)) (mvT hZ (own_w hw 54 rfl)) (notFace_of_selects (args := #[]) (mvT hZ (own_w hw 56 rfl))) (mvT hZ (own_w hw 56 rfl)) (mvT hZ (own_w hw 55 rfl)) (by decide) (backOf (W := 0) (rmExp l Z a0 hw [] cu tok cs fm t yy ky xa9 xa12 xa15 xa18 k T31.heap n0 Z_31 SB Od_31 F_text_cu_i F_at_cu_i E_cu_i g_cu Fvt_31 Et_31 SFt_31 (Ne.symm ne_cu_t) (Ne.symm ne_cu_yy) hBk.1 hBk.2.1 hBk.2.2.1) hZ (own_w hw 57 rfl) (own_w hw 7 rfl) (by decide) (by decide)) qv33a qv33c (g := (mkF m 201 #[.val (.int p0), .val (.int p1), .val (.int p2), .val (.int p3), .val (.int p4), .val (.long q5), .second, .val (.int tok), .val (.int k), .val (.int d1), .val (.int d2), .val (.int d3), .val (.ref c), .val (.int rf), .val (.ref cu)] [(.int tok), (.ref cu)])) rfl (by rw [hml]; rfl) (Steps.refl _) (argsL := [(.int tok)]) (rest := []) (lenOf pd_8 rfl) rfl (by show 2 * 0 + _ ≤ _; exact Nat.le_of_eq rfl) (hb hby at_201) (fun _ _ => ⟨rfl, rfl, (by decide : 8 + 0 ≤ _), (by decide : 33 + 0 ≤ _)⟩)
    dsimp only [Pt.U, Pt.locs, Pt.cells, Pt.slots] at X33 l33 y33 z33 st33 hQ33
    subst l33 y33 z33
    obtain ⟨rfl, Nq33, K33, Ftx, Fax⟩ := hQ33
    have N33 := Fr.app N31 Nq33
    have Od_33 := Od_31.keep K33 (allS g_cu (all0))
    have E_cu_i_33 := E_cu_i.keep K33
    have Et_33 := Et_31.keep K33
    have Fvt_33 := Fvt_31.keep K33 (ninS (Ne.symm ne_cu_t) nin0)
    have SFt_33 := SFt_31.keep K33 (ninS (Ne.symm ne_cu_t) nin0) (ninS (Ne.symm ne_cu_yy) nin0)
    have Z_33 : n0 ≤ T33.heap.size := Nat.le_trans Z_31 K33.1
    have kz_33 : k1_30 ≤ T33.heap.size := Nat.le_trans kz_31 K33.1
    have st34 : own_S p e below T33 (mkF m 206 #[.val (.int p0), .val (.int p1), .val (.int p2), .val (.int p3), .val (.int p4), .val (.long q5), .second, .val (.int tok), .val (.int k), .val (.int d1), .val (.int d2), .val (.int d3), .val (.ref c), .val (.int rf), .val (.ref cu)] [(.ref cu)]) (mkF m 204 #[.val (.int p0), .val (.int p1), .val (.int p2), .val (.int p3), .val (.int p4), .val (.long q5), .second, .val (.int tok), .val (.int k), .val (.int d1), .val (.int d2), .val (.int d3), .val (.ref c), .val (.int rf), .val (.ref cu)] []) := by
      intro target kt
      refine XS.aload X33.here hx rfl (hb hby at_204) rfl rfl ?_
      exact kt
    obtain ⟨cq35, kq35, qv35a, qv35b, qv35c⟩ := isOf hZ rfl E_cu_i_33
    obtain ⟨_, _, ⟨T35, L35, k35, n35⟩, -, X35, ⟨Lc35, hQ35, l35, y35, z35⟩, st35⟩ := X33.virtualBack hx (y := (⟨"com/example/libbisim/libbisim/TextFormat$Cursor", "commaFollows", "()Z"⟩ : MethodName)) (z := (⟨"com/example/libbisim/libbisim/TextFormat$Cursor", "commaFollows", "()Z"⟩ : MethodName)) hown (mvT hZ (own_w hw 100 rfl)) (mvT hZ (own_w hw 101 rfl)) (notFace_of_selects (args := #[]) (mvT hZ (own_w hw 103 rfl))) (mvT hZ (own_w hw 103 rfl)) (mvT hZ (own_w hw 102 rfl)) (by decide) (backOf (W := 0) (rmCf l Z a0 hw [] cu cs fm t yy ky xa9 xa12 xa15 xa18 (k + (1 : Int32)) (own_P k xa12 xa15 xa18) T33.heap n0 Z_33 SB Od_33 Ftx Fax E_cu_i_33 Fvt_33 Et_33 SFt_33 hBk.2.2.2) hZ (own_w hw 104 rfl) (own_w hw 7 rfl) (by decide) (by decide)) qv35a qv35c (g := (mkF m 206 #[.val (.int p0), .val (.int p1), .val (.int p2), .val (.int p3), .val (.int p4), .val (.long q5), .second, .val (.int tok), .val (.int k), .val (.int d1), .val (.int d2), .val (.int d3), .val (.ref c), .val (.int rf), .val (.ref cu)] [(.ref cu)])) rfl (by rw [hml]; rfl) (Steps.refl _) (argsL := []) (rest := []) (lenOf pd_12 rfl) rfl (by show 2 * 0 + _ ≤ _; exact Nat.le_of_eq rfl) (hb hby at_206) (fun _ _ => ⟨rfl, rfl, (by decide : 8 + 0 ≤ _), (by decide : 33 + 0 ≤ _)⟩)
    dsimp only [Pt.U, Pt.locs, Pt.cells, Pt.slots] at X35 l35 y35 z35 st35 hQ35
    subst l35 y35 z35
    obtain ⟨z35, hz35, rfl, Nq35, e35⟩ := hQ35
    have N35 := Fr.app N33 Nq35
    obtain ⟨fs, hr, hrun, hended, hRW⟩ := Jvm.Stand.leaveW (s := s) X35 hS (by rw [e35]; exact kz_33) (v := some (.int (1 : Int32))) (fun h => by rw [Bd.returns] at h; cases h)
    refine ⟨_, _, pre0 _ (st1 _ (st2 _ (st3 _ (st4 _ (st5 _ (st6 _ (st7 _ (st8 _ (st9 _ (st10 _ (st11 _ (st12 _ (st13 _ (st14 _ (st15 _ (st16 _ (st17 _ (st18 _ (st19 _ (st21 _ (st22 _ (st23 _ (st24 _ (st25 _ (st26 _ (st27.trans (st28 _ (st29 _ (st30 _ (st31.trans (st32 _ (st33.trans (st34 _ (st35.trans ?_)))))))))))))))))))))))))))))))))), hrun, hended, _, _, rfl, ?_, hRW.1, hRW.2.1, hRW.2.2.1, hRW.2.2.2.mono (by decide) (by decide)⟩
    · refine XS.iload X35.here hx rfl (hb hby at_209) rfl ?_
      refine XS.icmpNo X35.here hx rfl (hb hby at_211) rfl (teq (own_zr hz35 hR)).2 ?_
      refine XS.iconst X35.here hx rfl (hb hby at_214) ?_
      refine XS.goto X35.here hx rfl (pc0 := 215) (pc' := 219) rfl (hb hby at_215) (by decide) (by decide) ?_
      show Steps p.tables e below (T35.setTop (mkF m 219 #[.val (.int p0), .val (.int p1), .val (.int p2), .val (.int p3), .val (.int p4), .val (.long q5), .second, .val (.int tok), .val (.int k), .val (.int d1), .val (.int d2), .val (.int d3), .val (.ref c), .val (.int rf), .val (.ref cu)] [(.int (1 : Int32))])) _
      exact retN X35 hx (t := .boolean) Bd.returns (by simp) (hb hby at_219) hr
    · show Q_rm0 Z p0 p1 p2 p3 p4 q5 cs fm h0 n0 _ T35.heap _
      rw [e35]
      exact ⟨rfl, N35⟩
  · obtain ⟨_, _, ⟨T36, L36, k36, n36⟩, -, X36, ⟨Lc36, hQ36, l36, y36, z36⟩, st36⟩ := X25.specialBack hx (y := (⟨"java/lang/String", "<init>", "([C)V"⟩ : MethodName)) rfl hown (mvT hZ (own_w hw 11 rfl)) (mvT hZ (own_w hw 12 rfl)) (mvT hZ (own_w hw 13 rfl)) (by decide) (backOf (W := 3) (rmI1_4 l Z a0 hw [] t c cs fm k7 xa9 xa12 xa15 xa18 h25 n0 Z_25 SB Od_25 F_value_t F_coder_t E_t g_t V_c_25 (Ne.symm ne_c_t) hxa9.1 hxa12.1 hxa15.1 hxa18.1 (own_alt hL)) hZ (own_w hw 13 rfl) (own_w hw 10 rfl) (by decide) (by decide)) (g := (mkF m 183 #[.val (.int p0), .val (.int p1), .val (.int p2), .val (.int p3), .val (.int p4), .val (.long q5), .second, .val (.int tok), .val (.int k), .val (.int d1), .val (.int d2), .val (.int d3), .val (.ref c), .val (.int rf), .unset] [(.ref c), (.ref t), (.ref t), (.ref cu), (.ref cu)])) rfl (by rw [hml]; rfl) (Steps.refl _) (a := t) (argsL := [(.ref c)]) (rest := [(.ref t), (.ref cu), (.ref cu)]) (lenOf pd_1 rfl) rfl (by show 2 * 0 + _ ≤ _; exact Nat.le_of_eq rfl) (hb hby at_183) (fun _ _ => ⟨rfl, e25, (by decide : 3 + 2 ≤ _), (by decide : 13 + 12 ≤ _)⟩)
    dsimp only [Pt.U, Pt.locs, Pt.cells, Pt.slots] at X36 l36 y36 z36 st36 hQ36
    subst l36 y36 z36
    obtain ⟨rfl, Nq36, K36, Et, yy, ky, szy, Fvt, Ct, Vy⟩ := hQ36
    have N36 := Fr.app N19 Nq36
    have g_yy : n0 ≤ yy := Nat.le_trans Z_25 szy
    have ne_c_yy : c ≠ yy := Nat.ne_of_lt (Nat.lt_of_lt_of_le V_c_25.lt szy)
    have ne_cu_yy : cu ≠ yy := Nat.ne_of_lt (Nat.lt_of_lt_of_le E_cu_25.lt szy)
    have ne_t_yy : t ≠ yy := Nat.ne_of_lt (Nat.lt_of_lt_of_le E_t.lt szy)
    have Od_36 := Od_25.keep K36 (allS g_t (all0))
    have V_c_36 := V_c_25.keep K36 (ninS ne_c_t nin0)
    have E_cu_36 := E_cu_25.keep K36
    have F_text_cu_36 := F_text_cu_25.keep K36 (ninS ne_cu_t nin0)
    have F_source_cu_36 := F_source_cu_25.keep K36 (ninS ne_cu_t nin0)
    have F_line_cu_36 := F_line_cu_25.keep K36 (ninS ne_cu_t nin0)
    have F_expected_cu_36 := F_expected_cu_25.keep K36 (ninS ne_cu_t nin0)
    have F_at_cu_36 := F_at_cu_25.keep K36 (ninS ne_cu_t nin0)
    have E_t_36 := E_t.keep K36
    have Z_36 : n0 ≤ T36.heap.size := Nat.le_trans Z_25 K36.1
    have SFt : own_SF Z T36.heap t yy ky xa9 xa12 xa15 xa18 := Or.inr ⟨Ct, Vy, hxa9.1, hxa12.1, hxa15.1, hxa18.1⟩
    have wS : ∀ a ∈ Bundle.stringAtoms, a.before a0 Z = true := fun d hd => hw d ((by decide +kernel : ∀ d ∈ Bundle.stringAtoms, d ∈ tables_1) d hd)
    obtain ⟨sl, T37, h37, k1_37, X37, e37, E37, hS, kz_37, hZ, hown, st37⟩ := Jvm.RoadKit.ldcS (s := s) (vm0 := s.vm) X36 hx hZ hown (own_w hw 37 rfl) wS rfl ((State.WarmedH.refl s).since 0) (Nat.zero_le _) (g := (mkF m 186 #[.val (.int p0), .val (.int p1), .val (.int p2), .val (.int p3), .val (.int p4), .val (.long q5), .second, .val (.int tok), .val (.int k), .val (.int d1), .val (.int d2), .val (.int d3), .val (.ref c), .val (.int rf), .unset] [(.ref t), (.ref cu), (.ref cu)])) rfl (hb hby at_186) (n := 4) (by decide) (by decide) (by decide) (by decide)
    have Od_37 := Od_36.ext E37
    have E_cu_37 := E_cu_36.ext E37
    have F_text_cu_37 := F_text_cu_36.ext E37
    have F_source_cu_37 := F_source_cu_36.ext E37
    have F_line_cu_37 := F_line_cu_36.ext E37
    have F_expected_cu_37 := F_expected_cu_36.ext E37
    have F_at_cu_37 := F_at_cu_36.ext E37
    have Et_37 := Et.ext E37
    have Fvt_37 := Fvt.ext E37
    have SFt_37 := SFt.ext E37
    have Z_37 : n0 ≤ h37.size := Nat.le_trans Z_36 E37.1
    have st38 : own_S p e below T37 (mkF m 190 #[.val (.int p0), .val (.int p1), .val (.int p2), .val (.int p3), .val (.int p4), .val (.long q5), .second, .val (.int tok), .val (.int k), .val (.int d1), .val (.int d2), .val (.int d3), .val (.ref c), .val (.int rf), .unset] [(.long q5), (.ref sl), (.ref t), (.ref cu), (.ref cu)]) (mkF m 188 #[.val (.int p0), .val (.int p1), .val (.int p2), .val (.int p3), .val (.int p4), .val (.long q5), .second, .val (.int tok), .val (.int k), .val (.int d1), .val (.int d2), .val (.int d3), .val (.ref c), .val (.int rf), .unset] [(.ref sl), (.ref t), (.ref cu), (.ref cu)]) := by
      intro target kt
      refine XS.lload X37.here hx rfl (hb hby at_188) rfl ?_
      exact kt
    obtain ⟨el, T39, h39, k1_39, X39, e39, E39, hS, kz_39, hZ, hown, st39⟩ := Jvm.RoadKit.ldcS (s := s) (vm0 := T37.vm) X37 hx hZ hown (own_w hw 40 rfl) wS e37 hS kz_37 (g := (mkF m 190 #[.val (.int p0), .val (.int p1), .val (.int p2), .val (.int p3), .val (.int p4), .val (.long q5), .second, .val (.int tok), .val (.int k), .val (.int d1), .val (.int d2), .val (.int d3), .val (.ref c), .val (.int rf), .unset] [(.long q5), (.ref sl), (.ref t), (.ref cu), (.ref cu)])) rfl (hb hby at_190) (n := 4) (by decide) (by decide) (by decide) (by decide)
    have Od_39 := Od_37.ext E39
    have E_cu_39 := E_cu_37.ext E39
    have F_text_cu_39 := F_text_cu_37.ext E39
    have F_source_cu_39 := F_source_cu_37.ext E39
    have F_line_cu_39 := F_line_cu_37.ext E39
    have F_expected_cu_39 := F_expected_cu_37.ext E39
    have F_at_cu_39 := F_at_cu_37.ext E39
    have Et_39 := Et_37.ext E39
    have Fvt_39 := Fvt_37.ext E39
    have SFt_39 := SFt_37.ext E39
    have Z_39 : n0 ≤ h39.size := Nat.le_trans Z_37 E39.1
    obtain ⟨_, _, ⟨T40, L40, k40, n40⟩, -, X40, ⟨Lc40, hQ40, l40, y40, z40⟩, st40⟩ := X39.specialBack hx (y := (⟨"com/example/libbisim/libbisim/TextFormat$Cursor", "<init>", "(Ljava/lang/String;Ljava/lang/String;JLjava/lang/String;)V"⟩ : MethodName)) rfl hown (mvT hZ (own_w hw 41 rfl)) (mvT hZ (own_w hw 42 rfl)) (mvT hZ (own_w hw 43 rfl)) (by decide) (backOf (W := 1) (rmCur l Z a0 hw [] cu t sl q5 el  h39 n0 Z_39 F_text_cu_39 F_source_cu_39 F_line_cu_39 F_expected_cu_39 F_at_cu_39 E_cu_39 g_cu) hZ (own_w hw 43 rfl) (own_w hw 7 rfl) (by decide) (by decide)) (g := (mkF m 192 #[.val (.int p0), .val (.int p1), .val (.int p2), .val (.int p3), .val (.int p4), .val (.long q5), .second, .val (.int tok), .val (.int k), .val (.int d1), .val (.int d2), .val (.int d3), .val (.ref c), .val (.int rf), .unset] [(.ref el), (.long q5), (.ref sl), (.ref t), (.ref cu), (.ref cu)])) rfl (by rw [hml]; rfl) (Steps.refl _) (a := cu) (argsL := [(.ref t), (.ref sl), (.long q5), (.ref el)]) (rest := [(.ref cu)]) (lenOf pd_7 rfl) rfl (by show 2 * 0 + _ ≤ _; exact Nat.le_of_eq rfl) (hb hby at_192) (fun _ _ => ⟨rfl, e39, (by decide : 9 + 0 ≤ _), (by decide : 41 + 0 ≤ _)⟩)
    dsimp only [Pt.U, Pt.locs, Pt.cells, Pt.slots] at X40 l40 y40 z40 st40 hQ40
    subst l40 y40 z40
    obtain ⟨rfl, Nq40, K40, E_cu_i, F_text_cu_i, F_source_cu_i, F_line_cu_i, F_expected_cu_i, F_at_cu_i⟩ := hQ40
    have N40 := Fr.app N36 Nq40
    have Od_40 := Od_39.keep K40 (allS g_cu (all0))
    have E_cu_40 := E_cu_39.keep K40
    have Et_40 := Et_39.keep K40
    have Fvt_40 := Fvt_39.keep K40 (ninS (Ne.symm ne_cu_t) nin0)
    have SFt_40 := SFt_39.keep K40 (ninS (Ne.symm ne_cu_t) nin0) (ninS (Ne.symm ne_cu_yy) nin0)
    have Z_40 : n0 ≤ T40.heap.size := Nat.le_trans Z_39 K40.1
    have kz_40 : k1_39 ≤ T40.heap.size := Nat.le_trans kz_39 K40.1
    have st41 : own_S p e below T40 (mkF m 201 #[.val (.int p0), .val (.int p1), .val (.int p2), .val (.int p3), .val (.int p4), .val (.long q5), .second, .val (.int tok), .val (.int k), .val (.int d1), .val (.int d2), .val (.int d3), .val (.ref c), .val (.int rf), .val (.ref cu)] [(.int tok), (.ref cu)]) (mkF m 195 #[.val (.int p0), .val (.int p1), .val (.int p2), .val (.int p3), .val (.int p4), .val (.long q5), .second, .val (.int tok), .val (.int k), .val (.int d1), .val (.int d2), .val (.int d3), .val (.ref c), .val (.int rf), .unset] [(.ref cu)]) := by
      intro target kt
      refine XS.astore X40.here hx rfl (hb hby at_195) rfl rfl (l' := #[.val (.int p0), .val (.int p1), .val (.int p2), .val (.int p3), .val (.int p4), .val (.long q5), .second, .val (.int tok), .val (.int k), .val (.int d1), .val (.int d2), .val (.int d3), .val (.ref c), .val (.int rf), .val (.ref cu)]) rfl ?_
      refine XS.aload X40.here hx rfl (hb hby at_197) rfl rfl ?_
      refine XS.iload X40.here hx rfl (hb hby at_199) rfl ?_
      exact kt
    obtain ⟨cq42, kq42, qv42a, qv42b, qv42c⟩ := isOf hZ rfl E_cu_i
    obtain ⟨_, _, ⟨T42, L42, k42, n42⟩, -, X42, ⟨Lc42, hQ42, l42, y42, z42⟩, st42⟩ := X40.virtualBack hx (y := (⟨"com/example/libbisim/libbisim/TextFormat$Cursor", "expect", "(C)V"⟩ : MethodName)) (z := (⟨"com/example/libbisim/libbisim/TextFormat$Cursor", "expect", "(C)V"⟩ : MethodName)) hown (mvT hZ (own_w hw 53 rfl)) (mvT hZ (own_w hw 54 rfl)) (notFace_of_selects (args := #[]) (mvT hZ (own_w hw 56 rfl))) (mvT hZ (own_w hw 56 rfl)) (mvT hZ (own_w hw 55 rfl)) (by decide) (backOf (W := 0) (rmExp l Z a0 hw [] cu tok cs fm t yy ky xa9 xa12 xa15 xa18 k T40.heap n0 Z_40 SB Od_40 F_text_cu_i F_at_cu_i E_cu_i g_cu Fvt_40 Et_40 SFt_40 (Ne.symm ne_cu_t) (Ne.symm ne_cu_yy) hBk.1 hBk.2.1 hBk.2.2.1) hZ (own_w hw 57 rfl) (own_w hw 7 rfl) (by decide) (by decide)) qv42a qv42c (g := (mkF m 201 #[.val (.int p0), .val (.int p1), .val (.int p2), .val (.int p3), .val (.int p4), .val (.long q5), .second, .val (.int tok), .val (.int k), .val (.int d1), .val (.int d2), .val (.int d3), .val (.ref c), .val (.int rf), .val (.ref cu)] [(.int tok), (.ref cu)])) rfl (by rw [hml]; rfl) (Steps.refl _) (argsL := [(.int tok)]) (rest := []) (lenOf pd_8 rfl) rfl (by show 2 * 0 + _ ≤ _; exact Nat.le_of_eq rfl) (hb hby at_201) (fun _ _ => ⟨rfl, rfl, (by decide : 9 + 0 ≤ _), (by decide : 41 + 0 ≤ _)⟩)
    dsimp only [Pt.U, Pt.locs, Pt.cells, Pt.slots] at X42 l42 y42 z42 st42 hQ42
    subst l42 y42 z42
    obtain ⟨rfl, Nq42, K42, Ftx, Fax⟩ := hQ42
    have N42 := Fr.app N40 Nq42
    have Od_42 := Od_40.keep K42 (allS g_cu (all0))
    have E_cu_i_42 := E_cu_i.keep K42
    have Et_42 := Et_40.keep K42
    have Fvt_42 := Fvt_40.keep K42 (ninS (Ne.symm ne_cu_t) nin0)
    have SFt_42 := SFt_40.keep K42 (ninS (Ne.symm ne_cu_t) nin0) (ninS (Ne.symm ne_cu_yy) nin0)
    have Z_42 : n0 ≤ T42.heap.size := Nat.le_trans Z_40 K42.1
    have kz_42 : k1_39 ≤ T42.heap.size := Nat.le_trans kz_40 K42.1
    have st43 : own_S p e below T42 (mkF m 206 #[.val (.int p0), .val (.int p1), .val (.int p2), .val (.int p3), .val (.int p4), .val (.long q5), .second, .val (.int tok), .val (.int k), .val (.int d1), .val (.int d2), .val (.int d3), .val (.ref c), .val (.int rf), .val (.ref cu)] [(.ref cu)]) (mkF m 204 #[.val (.int p0), .val (.int p1), .val (.int p2), .val (.int p3), .val (.int p4), .val (.long q5), .second, .val (.int tok), .val (.int k), .val (.int d1), .val (.int d2), .val (.int d3), .val (.ref c), .val (.int rf), .val (.ref cu)] []) := by
      intro target kt
      refine XS.aload X42.here hx rfl (hb hby at_204) rfl rfl ?_
      exact kt
    obtain ⟨cq44, kq44, qv44a, qv44b, qv44c⟩ := isOf hZ rfl E_cu_i_42
    obtain ⟨_, _, ⟨T44, L44, k44, n44⟩, -, X44, ⟨Lc44, hQ44, l44, y44, z44⟩, st44⟩ := X42.virtualBack hx (y := (⟨"com/example/libbisim/libbisim/TextFormat$Cursor", "commaFollows", "()Z"⟩ : MethodName)) (z := (⟨"com/example/libbisim/libbisim/TextFormat$Cursor", "commaFollows", "()Z"⟩ : MethodName)) hown (mvT hZ (own_w hw 100 rfl)) (mvT hZ (own_w hw 101 rfl)) (notFace_of_selects (args := #[]) (mvT hZ (own_w hw 103 rfl))) (mvT hZ (own_w hw 103 rfl)) (mvT hZ (own_w hw 102 rfl)) (by decide) (backOf (W := 0) (rmCf l Z a0 hw [] cu cs fm t yy ky xa9 xa12 xa15 xa18 (k + (1 : Int32)) (own_P k xa12 xa15 xa18) T42.heap n0 Z_42 SB Od_42 Ftx Fax E_cu_i_42 Fvt_42 Et_42 SFt_42 hBk.2.2.2) hZ (own_w hw 104 rfl) (own_w hw 7 rfl) (by decide) (by decide)) qv44a qv44c (g := (mkF m 206 #[.val (.int p0), .val (.int p1), .val (.int p2), .val (.int p3), .val (.int p4), .val (.long q5), .second, .val (.int tok), .val (.int k), .val (.int d1), .val (.int d2), .val (.int d3), .val (.ref c), .val (.int rf), .val (.ref cu)] [(.ref cu)])) rfl (by rw [hml]; rfl) (Steps.refl _) (argsL := []) (rest := []) (lenOf pd_12 rfl) rfl (by show 2 * 0 + _ ≤ _; exact Nat.le_of_eq rfl) (hb hby at_206) (fun _ _ => ⟨rfl, rfl, (by decide : 9 + 0 ≤ _), (by decide : 41 + 0 ≤ _)⟩)
    dsimp only [Pt.U, Pt.locs, Pt.cells, Pt.slots] at X44 l44 y44 z44 st44 hQ44
    subst l44 y44 z44
    obtain ⟨z44, hz44, rfl, Nq44, e44⟩ := hQ44
    have N44 := Fr.app N42 Nq44
    obtain ⟨fs, hr, hrun, hended, hRW⟩ := Jvm.Stand.leaveW (s := s) X44 hS (by rw [e44]; exact kz_42) (v := some (.int (1 : Int32))) (fun h => by rw [Bd.returns] at h; cases h)
    refine ⟨_, _, pre0 _ (st1 _ (st2 _ (st3 _ (st4 _ (st5 _ (st6 _ (st7 _ (st8 _ (st9 _ (st10 _ (st11 _ (st12 _ (st13 _ (st14 _ (st15 _ (st16 _ (st17 _ (st18 _ (st19 _ (st21 _ (st22 _ (st23 _ (st24 _ (st25 _ (st26 _ (st36.trans (st37 _ (st38 _ (st39 _ (st40.trans (st41 _ (st42.trans (st43 _ (st44.trans ?_)))))))))))))))))))))))))))))))))), hrun, hended, _, _, rfl, ?_, hRW.1, hRW.2.1, hRW.2.2.1, hRW.2.2.2.mono (by decide) (by decide)⟩
    · refine XS.iload X44.here hx rfl (hb hby at_209) rfl ?_
      refine XS.icmpNo X44.here hx rfl (hb hby at_211) rfl (teq (own_zr hz44 hR)).2 ?_
      refine XS.iconst X44.here hx rfl (hb hby at_214) ?_
      refine XS.goto X44.here hx rfl (pc0 := 215) (pc' := 219) rfl (hb hby at_215) (by decide) (by decide) ?_
      show Steps p.tables e below (T44.setTop (mkF m 219 #[.val (.int p0), .val (.int p1), .val (.int p2), .val (.int p3), .val (.int p4), .val (.long q5), .second, .val (.int tok), .val (.int k), .val (.int d1), .val (.int d2), .val (.int d3), .val (.ref c), .val (.int rf), .val (.ref cu)] [(.int (1 : Int32))])) _
      exact retN X44 hx (t := .boolean) Bd.returns (by simp) (hb hby at_219) hr
    · show Q_rm0 Z p0 p1 p2 p3 p4 q5 cs fm h0 n0 _ T44.heap _
      rw [e44]
      exact ⟨rfl, N44⟩
set_option maxRecDepth 65536 in
set_option maxHeartbeats 40000000 in
theorem comes_1 {Post : Tables → Env → Array Value → State → Outcome → State → Prop} (hpost : ∀ tb e args s v u, (limb_1_1.after args s (.returned v) u = true ∧ limb_1_2.after args s (.returned v) u = true ∧ True) → FramedW s (.returned v) u (Jvm.fieldLocs frame_1_writes args s ++ Jvm.arrayLocs frame_1_arrays args s ++ Jvm.staticLocs frame_1_statics s) 24 2176 → Post tb e args s (.returned v) u) :
    ArmFor flags0 classFile x code maxLocals ret World_1 tables_1 room_1 Calls_1 rest_1 Pre_1 Post := by
  intro l hfl _ _ p e ha hc hk s m args below hf hA hF happ hP
  obtain ⟨hcalls, hrest, hpre⟩ := hP
  obtain ⟨-, -, -, hnamed, -, -, -, hat⟩ := (Spec.applies_iff hf).mp happ
  obtain ⟨hg, hn⟩ := and_e (Cond.before_iff.mp (show (Jvm.Cond.and given_1 narrow_1).before args s = true from hpre))
  obtain ⟨gg1, gg2⟩ := and_e hg
  obtain ⟨gg3, gg4⟩ := and_e gg2
  obtain ⟨gg5, gg6⟩ := and_e gg4
  obtain ⟨gg7, gg8⟩ := and_e gg6
  obtain ⟨gg9, gg10⟩ := and_e gg8
  obtain ⟨gg11, gg12⟩ := and_e gg10
  obtain ⟨w0, w1, w2, w3, w4, w5, rfl⟩ : ∃ w0 w1 w2 w3 w4 w5 : Value, args = #[w0, w1, w2, w3, w4, w5] := by
    have hs : args.size = 6 := by simpa [Cond.value, given_1] using gg1
    obtain ⟨L⟩ := args
    match L, hs with
    | [w0, w1, w2, w3, w4, w5], _ => exact ⟨w0, w1, w2, w3, w4, w5, rfl⟩
  have hw := fun d (hd : d ∈ tables_1) => atoms_spec (ws := Jvm.Cond.code x code maxLocals ret :: tables_1) hat d (List.mem_cons_of_mem _ hd)
  have hfit : Fit s := fun {y c} hc i hi => by
    obtain ⟨ha, rfl⟩ := Array.getElem?_eq_some_iff.mp hc
    have q := List.all_eq_true.mp ((Array.all_eq_true_iff_forall_mem.mp hF) _ (Array.getElem_mem ha)) i (List.mem_range.mpr hi)
    simpa [Array.getElem?_eq_getElem hi] using q
  obtain ⟨hsets, hown0⟩ := atoms_of _ (rest_1_c_eq ▸ (show rest_1_c.before _ s = true from hrest))
  have hr0 := Cond.before_iff.mp hown0
  obtain ⟨i0, ei0⟩ := is_v gg3
  obtain rfl : w0 = (.int i0) := Option.some.inj ei0
  obtain ⟨i1, ei1⟩ := is_v gg5
  obtain rfl : w1 = (.int i1) := Option.some.inj ei1
  obtain ⟨i2, ei2⟩ := is_v gg7
  obtain rfl : w2 = (.int i2) := Option.some.inj ei2
  obtain ⟨i3, ei3⟩ := is_v gg9
  obtain rfl : w3 = (.int i3) := Option.some.inj ei3
  obtain ⟨i4, ei4⟩ := is_v gg11
  obtain rfl : w4 = (.int i4) := Option.some.inj ei4
  obtain ⟨i5, ei5⟩ := isL_v gg12
  obtain rfl : w5 = (.long i5) := Option.some.inj ei5
  obtain ⟨cs, ev_cs⟩ := is_v (Cond.before_iff.mp (hsets _ (List.mem_of_getElem? (i := 1) rfl)))
  have S_cs : Sta s s.heap "java/lang/String" "COMPACT_STRINGS" "Z" (.int cs) := Sta.start ev_cs (Or.inl (hsets _ (List.mem_of_getElem? (i := 0) rfl)))
  have hcs : ¬ cs = 0 := by
    intro q
    have u := not_v (Cond.before_iff.mp (hsets _ (List.mem_of_getElem? (i := 2) rfl)))
    have u2 := eq_i (o := none) (idx := []) ev_cs (Term.int_eval (0 : Int32)) (by rw [q])
    rw [u2] at u; cases u
  obtain ⟨fm, ev_fm, r_fm⟩ := isR_v (Cond.before_iff.mp (hsets _ (List.mem_of_getElem? (i := 8) rfl)))
  have S_fm : Sta s s.heap "jdk/internal/util/Preconditions" "SIOOBE_FORMATTER" "Ljava/util/function/BiFunction;" fm := Sta.start ev_fm (Or.inl (hsets _ (List.mem_of_getElem? (i := 7) rfl)))
  have S_ad : Sta s s.heap "java/lang/StringUTF16" "$assertionsDisabled" "Z" (.int (1 : Int32)) := Sta.start (eqv_i (Term.int_eval (1 : Int32)) (Cond.before_iff.mp (hsets _ (List.mem_of_getElem? (i := 12) rfl)))) (Or.inl (hsets _ (List.mem_of_getElem? (i := 11) rfl)))
  have S_hi : Sta s s.heap "java/lang/StringUTF16" "HI_BYTE_SHIFT" "I" (.int (0 : Int32)) := Sta.start (eqv_i (Term.int_eval (0 : Int32)) (Cond.before_iff.mp (hsets _ (List.mem_of_getElem? (i := 15) rfl)))) (Or.inl (hsets _ (List.mem_of_getElem? (i := 14) rfl)))
  have S_lo : Sta s s.heap "java/lang/StringUTF16" "LO_BYTE_SHIFT" "I" (.int (8 : Int32)) := Sta.start (eqv_i (Term.int_eval (8 : Int32)) (Cond.before_iff.mp (hsets _ (List.mem_of_getElem? (i := 18) rfl)))) (Or.inl (hsets _ (List.mem_of_getElem? (i := 17) rfl)))
  obtain ⟨n, o, h1, h2, h3, _, L, rfl, ⟨rfl, N⟩, hq⟩ := rm0 l s _ hw tables_1 i0 i1 i2 i3 i4 i5 cs fm s.heap s.heap.size (Nat.le_refl _) ⟨S_cs, hcs, S_fm, r_fm, S_ad, S_hi, S_lo⟩ (Old.start s) p e ha hc hk s m _ below hf ((Spec.applies_iff_loose hf).mp happ).1 ⟨rfl, State.Warmed39.refl s, rfl⟩ trivial
  refine ⟨n, _, h1, h2, h3, hpost _ _ _ _ _ _ ⟨Cond.after_iff.mpr rfl, Cond.after_iff.mpr (eq_i res_at (Term.int_eval (1)) rfl), trivial⟩ ⟨hq.1, hq.2.1, hq.2.2.1, (hq.2.2.2.sift fun y hy => Or.inr (N y hy)).mono (by decide) (by decide)⟩⟩
theorem main_1_1 : Claimed_1_1 := comes_1 fun _ _ _ _ _ _ h hF => ⟨h.1, hF⟩
theorem main_1_2 : Claimed_1_2 := comes_1 fun _ _ _ _ _ _ h hF => ⟨h.2.1, hF⟩
end Jvm.Pilot.@@N@@
namespace Jvm.Pilot.@@N@@
open Jvm Jvm.ClassFile Sem Op Lib Jvm.Free Jvm.Stand Jvm.Pilot.@@N@@.Jvm.D
/-! MADE BY PROGRAM (witnessworld.py) out of the Statement's table words and the real class files: 22 classes; the members and pool entries that the words name. The judged class is class 1, her method 2. -/
namespace start1
open Jvm.ClassFile
def u (s : String) : CpInfo := .utf8 (stringToUtf16 s)
/-- a pool by its gaps: so many unusable entries, then the entry; so many at the end -/
def gap : Nat → List CpInfo → List CpInfo
  | 0, r => r
  | n + 1, r => .unusable :: gap n r
def poolList (es : List (Nat × CpInfo)) (last : Nat) : List CpInfo := es.foldr (fun e r => gap e.1 (e.2 :: r)) (gap last [])
def pool (es : List (Nat × CpInfo)) (last : Nat) : Array CpInfo := ⟨poolList es last⟩
def fileOf (pool : Array CpInfo) (this : Nat) (attrs : Array Attribute := #[]) (ms : Array MethodInfo := #[]) (fl : Nat := 33) (sup : Nat := 0) (ifs : Array Nat := #[]) (fds : Array FieldInfo := #[]) : ClassFile where
  minorVersion := 0
  majorVersion := 65
  constantPool := pool
  accessFlags := fl
  thisClass := this
  superClass := sup
  interfaces := ifs
  fields := fds
  methods := ms
  attributes := attrs
def plain (name : String) (sup : Option ClassId) : Class where
  name := name
  kind := .ordinary
  loader := none
  accessFlags := 33
  super := sup
  interfaces := #[]
  cf := none
  fields := #[]
  methods := #[]
  instanceTypes := #[]
  staticTypes := #[]
  resolved := #[]
  callSites := []
  init := .initialized
  statics := none
  mirror := none

def pool0 : Array CpInfo := pool [(5, u "<init>"), (0, u "()V"), (1, .class_ 10), (1, u "java/lang/Object")] 113

def k0c0 : Code := { maxStack := 0, maxLocals := 1, code := object_method_1_code, exceptionTable := #[], attributes := #[] }
def k0m0 : Method := { name := "<init>", desc := "()V", sig := { parameters := [], returnType := none }, accessFlags := 1, code := some k0c0 }
/-- java/lang/Object -/
def k0 : Class := { plain "java/lang/Object" none with
  accessFlags := 33
  interfaces := #[]
  cf := some (fileOf pool0 8 #[] #[{ accessFlags := 1, nameIndex := 5, descriptorIndex := 6, attributes := #[] }] 33 0 #[] #[])
  fields := #[]
  methods := #[k0m0]
  instanceTypes := #[]
  staticTypes := #[]
  resolved := Array.replicate 124 none
  statics := none }

def pool1 : Array CpInfo := pool [(2, .class_ 4), (1, u "java/lang/Object"), (0, u "<init>"), (0, u "()V"), (0, .methodref 8 9), (0, .class_ 10), (0, .nameAndType 11 12), (0, u "com/example/libbisim/libbisim/CursorExpectPinLaw"), (0, u "at"), (0, u "(IIICCCC)C"), (0, .class_ 14), (0, u "com/example/libbisim/libbisim/TextFormat$Cursor"), (0, .class_ 16), (0, u "java/lang/String"), (0, .methodref 15 18), (0, .nameAndType 5 19), (0, u "([C)V"), (0, .string 21), (0, u "s"), (0, .string 23), (0, u "e"), (0, .methodref 13 25), (0, .nameAndType 5 26), (0, u "(Ljava/lang/String;Ljava/lang/String;JLjava/lang/String;)V"), (0, .methodref 13 28), (0, .nameAndType 29 30), (0, u "expect"), (0, u "(C)V"), (0, .methodref 13 32), (0, .nameAndType 33 34), (0, u "commaFollows"), (0, u "()Z"), (3, u "law"), (0, u "(IIIIIJ)Z")] 11

def k1m0 : Method := { name := "<init>", desc := "()V", sig := { parameters := [], returnType := none }, accessFlags := 2, code := none }
def k1c1 : Code := { maxStack := 3, maxLocals := 8, code := method_2_code, exceptionTable := #[], attributes := #[] }
def k1m1 : Method := { name := "at", desc := "(IIICCCC)C", sig := { parameters := [.int, .int, .int, .char, .char, .char, .char], returnType := some .char }, accessFlags := 10, code := some k1c1 }
def k1c2 : Code := { maxStack := 9, maxLocals := 15, code := code, exceptionTable := #[], attributes := #[] }
def k1m2 : Method := { name := "law", desc := "(IIIIIJ)Z", sig := { parameters := [.int, .int, .int, .int, .int, .long], returnType := some .boolean }, accessFlags := 9, code := some k1c2 }
/-- com/example/libbisim/libbisim/CursorExpectPinLaw -/
def k1 : Class := { plain "com/example/libbisim/libbisim/CursorExpectPinLaw" (some 0) with
  accessFlags := 49
  interfaces := #[]
  cf := some (fileOf pool1 8 #[] #[{ accessFlags := 2, nameIndex := 5, descriptorIndex := 6, attributes := #[] }, { accessFlags := 10, nameIndex := 11, descriptorIndex := 12, attributes := #[] }, { accessFlags := 9, nameIndex := 38, descriptorIndex := 39, attributes := #[] }] 49 2 #[] #[])
  fields := #[]
  methods := #[k1m0, k1m1, k1m2]
  instanceTypes := #[]
  staticTypes := #[]
  resolved := Array.replicate 51 none
  statics := none }

def pool2 : Array CpInfo := pool [(1, .methodref 2 3), (0, .class_ 4), (0, .nameAndType 5 6), (0, u "java/lang/Object"), (0, u "<init>"), (0, u "()V"), (0, .fieldref 8 9), (0, .class_ 10), (0, .nameAndType 11 12), (0, u "com/example/libbisim/libbisim/TextFormat$Cursor"), (0, u "text"), (0, u "Ljava/lang/String;"), (0, .fieldref 8 14), (0, .nameAndType 15 12), (0, u "source"), (0, .fieldref 8 17), (0, .nameAndType 18 19), (0, u "line"), (0, u "J"), (0, .fieldref 8 21), (0, .nameAndType 22 12), (0, u "expected"), (5, .methodref 8 29), (0, .nameAndType 30 6), (0, u "skipBlanks"), (0, .fieldref 8 32), (0, .nameAndType 33 34), (0, u "at"), (0, u "I"), (0, .methodref 36 37), (0, .class_ 38), (0, .nameAndType 39 40), (0, u "java/lang/String"), (0, u "length"), (0, u "()I"), (0, .methodref 36 42), (0, .nameAndType 43 44), (0, u "charAt"), (0, u "(I)C"), (29, .class_ 76), (1, u "com/example/libbisim/libbisim/TextFormat"), (7, u "expect"), (0, u "(C)V"), (11, .methodref 36 98), (0, .nameAndType 99 100), (0, u "indexOf"), (0, u "(II)I"), (0, .methodref 74 102), (0, .nameAndType 103 104), (0, u "isBlank"), (0, u "(C)Z"), (6, u "(Ljava/lang/String;Ljava/lang/String;JLjava/lang/String;)V"), (9, u "commaFollows"), (0, u "()Z")] 20

def k2c0 : Code := { maxStack := 3, maxLocals := 6, code := prog_69_method_1_code, exceptionTable := #[], attributes := #[] }
def k2m0 : Method := { name := "<init>", desc := "(Ljava/lang/String;Ljava/lang/String;JLjava/lang/String;)V", sig := { parameters := [(.object "java/lang/String"), (.object "java/lang/String"), .long, (.object "java/lang/String")], returnType := none }, accessFlags := 0, code := some k2c0 }
def k2c1 : Code := { maxStack := 3, maxLocals := 2, code := prog_69_method_3_code, exceptionTable := #[], attributes := #[] }
def k2m1 : Method := { name := "expect", desc := "(C)V", sig := { parameters := [.char], returnType := none }, accessFlags := 0, code := some k2c1 }
def k2c2 : Code := { maxStack := 3, maxLocals := 1, code := prog_69_method_11_code, exceptionTable := #[], attributes := #[] }
def k2m2 : Method := { name := "commaFollows", desc := "()Z", sig := { parameters := [], returnType := some .boolean }, accessFlags := 0, code := some k2c2 }
def k2c3 : Code := { maxStack := 3, maxLocals := 1, code := prog_69_method_14_code, exceptionTable := #[], attributes := #[] }
def k2m3 : Method := { name := "skipBlanks", desc := "()V", sig := { parameters := [], returnType := none }, accessFlags := 2, code := some k2c3 }
/-- com/example/libbisim/libbisim/TextFormat$Cursor -/
def k2 : Class := { plain "com/example/libbisim/libbisim/TextFormat$Cursor" (some 0) with
  accessFlags := 48
  interfaces := #[]
  cf := some (fileOf pool2 8 #[.nestHost 74] #[{ accessFlags := 0, nameIndex := 5, descriptorIndex := 111, attributes := #[] }, { accessFlags := 0, nameIndex := 84, descriptorIndex := 85, attributes := #[] }, { accessFlags := 0, nameIndex := 121, descriptorIndex := 122, attributes := #[] }, { accessFlags := 2, nameIndex := 30, descriptorIndex := 6, attributes := #[] }] 48 2 #[] #[{ accessFlags := 18, nameIndex := 11, descriptorIndex := 12, attributes := #[] }, { accessFlags := 18, nameIndex := 15, descriptorIndex := 12, attributes := #[] }, { accessFlags := 18, nameIndex := 18, descriptorIndex := 19, attributes := #[] }, { accessFlags := 18, nameIndex := 22, descriptorIndex := 12, attributes := #[] }, { accessFlags := 2, nameIndex := 33, descriptorIndex := 34, attributes := #[] }])
  fields := #[{ name := "text", type := (.object "java/lang/String"), accessFlags := 18, slot := 0, constantValue := 0 }, { name := "source", type := (.object "java/lang/String"), accessFlags := 18, slot := 1, constantValue := 0 }, { name := "line", type := .long, accessFlags := 18, slot := 2, constantValue := 0 }, { name := "expected", type := (.object "java/lang/String"), accessFlags := 18, slot := 3, constantValue := 0 }, { name := "at", type := .int, accessFlags := 2, slot := 4, constantValue := 0 }]
  methods := #[k2m0, k2m1, k2m2, k2m3]
  instanceTypes := #[(.object "java/lang/String"), (.object "java/lang/String"), .long, (.object "java/lang/String"), .int]
  staticTypes := #[]
  resolved := Array.replicate 143 none
  statics := none }

def pool3 : Array CpInfo := pool [(1, .class_ 2), (0, u "java/io/Serializable"), (0, .class_ 4), (0, u "java/lang/Object")] 2

/-- java/io/Serializable -/
def k3 : Class := { plain "java/io/Serializable" (some 0) with
  accessFlags := 1537
  interfaces := #[]
  cf := some (fileOf pool3 1 #[] #[] 1537 3 #[] #[])
  fields := #[]
  methods := #[]
  instanceTypes := #[]
  staticTypes := #[]
  resolved := Array.replicate 7 none
  statics := none }

def pool4 : Array CpInfo := pool [(1, .class_ 2), (0, u "java/lang/Comparable"), (0, .class_ 4), (0, u "java/lang/Object")] 7

/-- java/lang/Comparable -/
def k4 : Class := { plain "java/lang/Comparable" (some 0) with
  accessFlags := 1537
  interfaces := #[]
  cf := some (fileOf pool4 1 #[] #[] 1537 3 #[] #[])
  fields := #[]
  methods := #[]
  instanceTypes := #[]
  staticTypes := #[]
  resolved := Array.replicate 12 none
  statics := none }

def pool5 : Array CpInfo := pool [(2, .class_ 4), (1, u "java/lang/CharSequence"), (42, .class_ 48), (0, u "java/lang/CharSequence$1CodePointIterator"), (10, .class_ 60), (0, u "java/lang/CharSequence$1CharIterator"), (5, .class_ 67), (0, u "java/lang/Object")] 63

/-- java/lang/CharSequence -/
def k5 : Class := { plain "java/lang/CharSequence" (some 0) with
  accessFlags := 1537
  interfaces := #[]
  cf := some (fileOf pool5 2 #[.nestMembers #[47, 59]] #[] 1537 66 #[] #[])
  fields := #[]
  methods := #[]
  instanceTypes := #[]
  staticTypes := #[]
  resolved := Array.replicate 131 none
  statics := none }

def pool6 : Array CpInfo := pool [(1, .class_ 2), (0, u "java/lang/constant/Constable"), (0, .class_ 4), (0, u "java/lang/Object")] 6

/-- java/lang/constant/Constable -/
def k6 : Class := { plain "java/lang/constant/Constable" (some 0) with
  accessFlags := 1537
  interfaces := #[]
  cf := some (fileOf pool6 1 #[] #[] 1537 3 #[] #[])
  fields := #[]
  methods := #[]
  instanceTypes := #[]
  staticTypes := #[]
  resolved := Array.replicate 11 none
  statics := none }

def pool7 : Array CpInfo := pool [(1, .class_ 2), (0, u "java/lang/constant/ConstantDesc"), (0, .class_ 4), (0, u "java/lang/Object")] 32

/-- java/lang/constant/ConstantDesc -/
def k7 : Class := { plain "java/lang/constant/ConstantDesc" (some 0) with
  accessFlags := 1537
  interfaces := #[]
  cf := some (fileOf pool7 1 #[] #[] 1537 3 #[] #[])
  fields := #[]
  methods := #[]
  instanceTypes := #[]
  staticTypes := #[]
  resolved := Array.replicate 37 none
  statics := none }

def pool8 : Array CpInfo := pool [(1, .methodref 2 3), (0, .class_ 4), (0, .nameAndType 5 6), (0, u "java/lang/Object"), (0, u "<init>"), (0, u "()V"), (2, .fieldref 10 11), (0, .class_ 12), (0, .nameAndType 13 14), (0, u "java/lang/String"), (0, u "value"), (0, u "[B"), (0, .fieldref 10 16), (0, .nameAndType 17 18), (0, u "coder"), (0, u "B"), (2, u "hash"), (0, u "I"), (2, u "hashIsZero"), (0, u "Z"), (0, .methodref 10 28), (0, .nameAndType 5 29), (0, u "([CIILjava/lang/Void;)V"), (8, .fieldref 10 39), (0, .nameAndType 40 26), (0, u "COMPACT_STRINGS"), (1, .class_ 44), (1, u "java/lang/StringUTF16"), (0, u "compress"), (1, .methodref 42 48), (0, .nameAndType 49 50), (0, u "coderFromArrayLen"), (0, u "([BI)B"), (56, .class_ 109), (1, u "java/lang/StringLatin1"), (32, u "()Z"), (34, .methodref 42 178), (0, .nameAndType 45 179), (0, u "([CII)[B"), (154, u "()I"), (0, .methodref 10 336), (0, .nameAndType 17 337), (0, u "()B"), (25, u "([BI)C"), (27, u "(II)V"), (35, u "(I)C"), (64, .methodref 10 493), (0, .nameAndType 494 142), (0, u "isLatin1"), (0, .methodref 107 496), (0, .nameAndType 497 363), (0, u "charAt"), (0, .methodref 42 496), (2, u "checkIndex"), (3, .methodref 10 506), (0, .nameAndType 507 334), (0, u "length"), (5, u "checkFromToIndex"), (9, u "checkBoundsBeginEnd"), (0, u "(III)V"), (50, .class_ 576), (0, u "java/lang/CharSequence"), (22, u "CASE_INSENSITIVE_ORDER"), (0, u "Ljava/util/Comparator;"), (34, u "indexOf"), (0, u "(II)I"), (0, .methodref 107 638), (0, .nameAndType 635 639), (0, u "([BIII)I"), (0, .methodref 42 638), (369, u "([C)V"), (42, .fieldref 1054 1055), (0, .class_ 1056), (0, .nameAndType 1057 1058), (0, u "jdk/internal/util/Preconditions"), (0, u "SIOOBE_FORMATTER"), (0, u "Ljava/util/function/BiFunction;"), (0, .methodref 1054 1060), (0, .nameAndType 501 1061), (0, u "(IILjava/util/function/BiFunction;)I"), (0, .methodref 1054 1063), (0, .nameAndType 513 1064), (0, u "(IIILjava/util/function/BiFunction;)I"), (36, u "serialPersistentFields"), (0, u "[Ljava/io/ObjectStreamField;"), (0, .class_ 1104), (0, u "java/lang/String$CaseInsensitiveComparator"), (1, .class_ 1107), (0, u "java/io/Serializable"), (0, .class_ 1109), (0, u "java/lang/Comparable"), (0, .class_ 1111), (0, u "java/lang/constant/Constable"), (0, .class_ 1113), (0, u "java/lang/constant/ConstantDesc"), (2, u "serialVersionUID"), (0, u "J"), (3, u "REPL"), (0, u "C"), (2, u "LATIN1"), (1, u "UTF16")] 323

def k8m0 : Method := { name := "<init>", desc := "()V", sig := { parameters := [], returnType := none }, accessFlags := 1, code := none }
def k8c1 : Code := { maxStack := 5, maxLocals := 2, code := jdk_42_method_3_code, exceptionTable := #[], attributes := #[] }
def k8m1 : Method := { name := "<init>", desc := "([C)V", sig := { parameters := [(.array .char)], returnType := none }, accessFlags := 1, code := some k8c1 }
def k8c2 : Code := { maxStack := 2, maxLocals := 1, code := jdk_42_method_54_code, exceptionTable := #[], attributes := #[] }
def k8m2 : Method := { name := "length", desc := "()I", sig := { parameters := [], returnType := some .int }, accessFlags := 1, code := some k8c2 }
def k8c3 : Code := { maxStack := 2, maxLocals := 2, code := jdk_42_method_56_code, exceptionTable := #[], attributes := #[] }
def k8m3 : Method := { name := "charAt", desc := "(I)C", sig := { parameters := [.int], returnType := some .char }, accessFlags := 1, code := some k8c3 }
def k8c4 : Code := { maxStack := 4, maxLocals := 3, code := jdk_42_method_80_code, exceptionTable := #[], attributes := #[] }
def k8m4 : Method := { name := "indexOf", desc := "(II)I", sig := { parameters := [.int, .int], returnType := some .int }, accessFlags := 1, code := some k8c4 }
def k8c5 : Code := { maxStack := 4, maxLocals := 6, code := jdk_42_method_149_code, exceptionTable := #[], attributes := #[] }
def k8m5 : Method := { name := "<init>", desc := "([CIILjava/lang/Void;)V", sig := { parameters := [(.array .char), .int, .int, (.object "java/lang/Void")], returnType := none }, accessFlags := 2, code := some k8c5 }
def k8c6 : Code := { maxStack := 1, maxLocals := 1, code := jdk_42_method_152_code, exceptionTable := #[], attributes := #[] }
def k8m6 : Method := { name := "coder", desc := "()B", sig := { parameters := [], returnType := some .byte }, accessFlags := 0, code := some k8c6 }
def k8c7 : Code := { maxStack := 1, maxLocals := 1, code := jdk_42_method_154_code, exceptionTable := #[], attributes := #[] }
def k8m7 : Method := { name := "isLatin1", desc := "()Z", sig := { parameters := [], returnType := some .boolean }, accessFlags := 0, code := some k8c7 }
def k8c8 : Code := { maxStack := 3, maxLocals := 2, code := jdk_42_method_155_code, exceptionTable := #[], attributes := #[] }
def k8m8 : Method := { name := "checkIndex", desc := "(II)V", sig := { parameters := [.int, .int], returnType := none }, accessFlags := 8, code := some k8c8 }
def k8c9 : Code := { maxStack := 4, maxLocals := 3, code := jdk_42_method_158_code, exceptionTable := #[], attributes := #[] }
def k8m9 : Method := { name := "checkBoundsBeginEnd", desc := "(III)V", sig := { parameters := [.int, .int, .int], returnType := none }, accessFlags := 8, code := some k8c9 }
/-- java/lang/String -/
def k8 : Class := { plain "java/lang/String" (some 0) with
  accessFlags := 49
  interfaces := #[3, 4, 5, 6, 7]
  cf := some (fileOf pool8 10 #[.nestMembers #[1103]] #[{ accessFlags := 1, nameIndex := 5, descriptorIndex := 6, attributes := #[] }, { accessFlags := 1, nameIndex := 5, descriptorIndex := 1010, attributes := #[] }, { accessFlags := 1, nameIndex := 507, descriptorIndex := 334, attributes := #[] }, { accessFlags := 1, nameIndex := 497, descriptorIndex := 427, attributes := #[] }, { accessFlags := 1, nameIndex := 635, descriptorIndex := 636, attributes := #[] }, { accessFlags := 2, nameIndex := 5, descriptorIndex := 29, attributes := #[] }, { accessFlags := 0, nameIndex := 17, descriptorIndex := 337, attributes := #[] }, { accessFlags := 0, nameIndex := 494, descriptorIndex := 142, attributes := #[] }, { accessFlags := 8, nameIndex := 501, descriptorIndex := 391, attributes := #[] }, { accessFlags := 8, nameIndex := 523, descriptorIndex := 524, attributes := #[] }] 49 2 #[1106, 1108, 575, 1110, 1112] #[{ accessFlags := 18, nameIndex := 13, descriptorIndex := 14, attributes := #[] }, { accessFlags := 18, nameIndex := 17, descriptorIndex := 18, attributes := #[] }, { accessFlags := 2, nameIndex := 21, descriptorIndex := 22, attributes := #[] }, { accessFlags := 2, nameIndex := 25, descriptorIndex := 26, attributes := #[] }, { accessFlags := 26, nameIndex := 1116, descriptorIndex := 1117, attributes := #[] }, { accessFlags := 24, nameIndex := 40, descriptorIndex := 26, attributes := #[] }, { accessFlags := 26, nameIndex := 1101, descriptorIndex := 1102, attributes := #[] }, { accessFlags := 26, nameIndex := 1121, descriptorIndex := 1122, attributes := #[] }, { accessFlags := 25, nameIndex := 599, descriptorIndex := 600, attributes := #[] }, { accessFlags := 24, nameIndex := 1125, descriptorIndex := 18, attributes := #[] }, { accessFlags := 24, nameIndex := 1127, descriptorIndex := 18, attributes := #[] }])
  fields := #[{ name := "value", type := (.array .byte), accessFlags := 18, slot := 0, constantValue := 0 }, { name := "coder", type := .byte, accessFlags := 18, slot := 1, constantValue := 0 }, { name := "hash", type := .int, accessFlags := 2, slot := 2, constantValue := 0 }, { name := "hashIsZero", type := .boolean, accessFlags := 2, slot := 3, constantValue := 0 }, { name := "serialVersionUID", type := .long, accessFlags := 26, slot := 0, constantValue := 0 }, { name := "COMPACT_STRINGS", type := .boolean, accessFlags := 24, slot := 1, constantValue := 0 }, { name := "serialPersistentFields", type := (.array (.object "java/io/ObjectStreamField")), accessFlags := 26, slot := 2, constantValue := 0 }, { name := "REPL", type := .char, accessFlags := 26, slot := 3, constantValue := 0 }, { name := "CASE_INSENSITIVE_ORDER", type := (.object "java/util/Comparator"), accessFlags := 25, slot := 4, constantValue := 0 }, { name := "LATIN1", type := .byte, accessFlags := 24, slot := 5, constantValue := 0 }, { name := "UTF16", type := .byte, accessFlags := 24, slot := 6, constantValue := 0 }]
  methods := #[k8m0, k8m1, k8m2, k8m3, k8m4, k8m5, k8m6, k8m7, k8m8, k8m9]
  instanceTypes := #[(.array .byte), .byte, .int, .boolean]
  staticTypes := #[.long, .boolean, (.array (.object "java/io/ObjectStreamField")), .char, (.object "java/util/Comparator"), .byte, .byte]
  resolved := Array.replicate 1451 none
  statics := some 0 }

def pool9 : Array CpInfo := pool [(3, .class_ 4), (0, u "java/lang/String"), (1, .class_ 8), (1, u "java/lang/Object"), (0, u "<init>"), (0, u "()V"), (0, .methodref 12 13), (0, .class_ 14), (0, .nameAndType 15 16), (0, u "java/lang/StringUTF16"), (0, u "newBytesLength"), (0, u "(I)I"), (3, .integer 1073741823), (23, .fieldref 12 45), (0, .nameAndType 46 47), (0, u "$assertionsDisabled"), (0, u "Z"), (0, .methodref 12 49), (0, .nameAndType 50 51), (0, u "length"), (0, u "([B)I"), (7, .fieldref 12 60), (0, .nameAndType 61 62), (0, u "HI_BYTE_SHIFT"), (0, u "I"), (0, .fieldref 12 64), (0, .nameAndType 65 62), (0, u "LO_BYTE_SHIFT"), (1, .methodref 12 68), (0, .nameAndType 69 70), (0, u "checkIndex"), (0, u "(I[B)V"), (0, .methodref 12 72), (0, .nameAndType 73 74), (0, u "getChar"), (0, u "([BI)C"), (21, .methodref 12 97), (0, .nameAndType 98 99), (0, u "checkBoundsBeginEnd"), (0, u "(II[B)V"), (7, .methodref 12 108), (0, .nameAndType 109 110), (0, u "newBytesFor"), (0, u "(I)[B"), (0, .methodref 12 112), (0, .nameAndType 113 114), (0, u "putChar"), (0, u "([BII)V"), (0, .methodref 12 116), (0, .nameAndType 117 118), (0, u "compress"), (0, u "([CI[BII)I"), (0, .methodref 12 120), (0, .nameAndType 121 122), (0, u "toBytes"), (0, u "([CII)[B"), (60, .methodref 184 185), (0, .class_ 186), (0, .nameAndType 187 188), (0, u "java/lang/Math"), (0, u "min"), (0, u "(II)I"), (35, .methodref 184 225), (0, .nameAndType 226 188), (0, u "max"), (0, .integer 65536), (0, .methodref 12 229), (0, .nameAndType 230 231), (0, u "indexOfChar"), (0, u "([BIII)I"), (9, .methodref 3 242), (0, .nameAndType 98 243), (0, u "(III)V"), (0, .methodref 12 245), (0, .nameAndType 246 231), (0, u "indexOfCharUnsafe"), (14, u "coderFromArrayLen"), (0, u "([BI)B"), (5, u "indexOf"), (100, .class_ 371), (1, u "java/lang/StringUTF16$LinesSpliterator"), (20, u "charAt"), (21, .methodref 3 415), (0, .nameAndType 69 416), (0, u "(II)V"), (13, u "MAX_LENGTH"), (196, .class_ 628), (0, u "java/lang/StringUTF16$CodePointsSpliterator"), (0, .class_ 630), (0, u "java/lang/StringUTF16$CharsSpliterator")] 4

def k9m0 : Method := { name := "<init>", desc := "()V", sig := { parameters := [], returnType := none }, accessFlags := 0, code := none }
def k9c1 : Code := { maxStack := 1, maxLocals := 1, code := jdk_52_method_2_code, exceptionTable := #[], attributes := #[] }
def k9m1 : Method := { name := "newBytesFor", desc := "(I)[B", sig := { parameters := [.int], returnType := some (.array .byte) }, accessFlags := 9, code := some k9c1 }
def k9c2 : Code := { maxStack := 4, maxLocals := 1, code := jdk_52_method_3_code, exceptionTable := #[], attributes := #[] }
def k9m2 : Method := { name := "newBytesLength", desc := "(I)I", sig := { parameters := [.int], returnType := some .int }, accessFlags := 9, code := some k9c2 }
def k9c3 : Code := { maxStack := 4, maxLocals := 3, code := jdk_52_method_4_code, exceptionTable := #[], attributes := #[] }
def k9m3 : Method := { name := "putChar", desc := "([BII)V", sig := { parameters := [(.array .byte), .int, .int], returnType := none }, accessFlags := 8, code := some k9c3 }
def k9c4 : Code := { maxStack := 3, maxLocals := 2, code := jdk_52_method_5_code, exceptionTable := #[], attributes := #[] }
def k9m4 : Method := { name := "getChar", desc := "([BI)C", sig := { parameters := [(.array .byte), .int], returnType := some .char }, accessFlags := 8, code := some k9c4 }
def k9c5 : Code := { maxStack := 2, maxLocals := 1, code := jdk_52_method_6_code, exceptionTable := #[], attributes := #[] }
def k9m5 : Method := { name := "length", desc := "([B)I", sig := { parameters := [(.array .byte)], returnType := some .int }, accessFlags := 9, code := some k9c5 }
def k9c6 : Code := { maxStack := 4, maxLocals := 5, code := jdk_52_method_14_code, exceptionTable := #[], attributes := #[] }
def k9m6 : Method := { name := "toBytes", desc := "([CII)[B", sig := { parameters := [(.array .char), .int, .int], returnType := some (.array .byte) }, accessFlags := 9, code := some k9c6 }
def k9c7 : Code := { maxStack := 2, maxLocals := 2, code := jdk_52_method_15_code, exceptionTable := #[], attributes := #[] }
def k9m7 : Method := { name := "coderFromArrayLen", desc := "([BI)B", sig := { parameters := [(.array .byte), .int], returnType := some .byte }, accessFlags := 8, code := some k9c7 }
def k9c8 : Code := { maxStack := 5, maxLocals := 6, code := jdk_52_method_16_code, exceptionTable := #[], attributes := #[] }
def k9m8 : Method := { name := "compress", desc := "([CII)[B", sig := { parameters := [(.array .char), .int, .int], returnType := some (.array .byte) }, accessFlags := 9, code := some k9c8 }
def k9c9 : Code := { maxStack := 3, maxLocals := 7, code := jdk_52_method_21_code, exceptionTable := #[], attributes := #[] }
def k9m9 : Method := { name := "compress", desc := "([CI[BII)I", sig := { parameters := [(.array .char), .int, (.array .byte), .int, .int], returnType := some .int }, accessFlags := 9, code := some k9c9 }
def k9c10 : Code := { maxStack := 4, maxLocals := 4, code := jdk_52_method_40_code, exceptionTable := #[], attributes := #[] }
def k9m10 : Method := { name := "indexOf", desc := "([BIII)I", sig := { parameters := [(.array .byte), .int, .int, .int], returnType := some .int }, accessFlags := 9, code := some k9c10 }
def k9c11 : Code := { maxStack := 4, maxLocals := 4, code := jdk_52_method_47_code, exceptionTable := #[], attributes := #[] }
def k9m11 : Method := { name := "indexOfChar", desc := "([BIII)I", sig := { parameters := [(.array .byte), .int, .int, .int], returnType := some .int }, accessFlags := 10, code := some k9c11 }
def k9c12 : Code := { maxStack := 2, maxLocals := 5, code := jdk_52_method_48_code, exceptionTable := #[], attributes := #[] }
def k9m12 : Method := { name := "indexOfCharUnsafe", desc := "([BIII)I", sig := { parameters := [(.array .byte), .int, .int, .int], returnType := some .int }, accessFlags := 10, code := some k9c12 }
def k9c13 : Code := { maxStack := 2, maxLocals := 2, code := jdk_52_method_83_code, exceptionTable := #[], attributes := #[] }
def k9m13 : Method := { name := "charAt", desc := "([BI)C", sig := { parameters := [(.array .byte), .int], returnType := some .char }, accessFlags := 9, code := some k9c13 }
def k9c14 : Code := { maxStack := 2, maxLocals := 2, code := jdk_52_method_91_code, exceptionTable := #[], attributes := #[] }
def k9m14 : Method := { name := "checkIndex", desc := "(I[B)V", sig := { parameters := [.int, (.array .byte)], returnType := none }, accessFlags := 9, code := some k9c14 }
def k9c15 : Code := { maxStack := 3, maxLocals := 3, code := jdk_52_method_93_code, exceptionTable := #[], attributes := #[] }
def k9m15 : Method := { name := "checkBoundsBeginEnd", desc := "(II[B)V", sig := { parameters := [.int, .int, (.array .byte)], returnType := none }, accessFlags := 9, code := some k9c15 }
/-- java/lang/StringUTF16 -/
def k9 : Class := { plain "java/lang/StringUTF16" (some 0) with
  accessFlags := 48
  interfaces := #[]
  cf := some (fileOf pool9 12 #[.nestMembers #[627, 629, 369]] #[{ accessFlags := 0, nameIndex := 9, descriptorIndex := 10, attributes := #[] }, { accessFlags := 9, nameIndex := 109, descriptorIndex := 110, attributes := #[] }, { accessFlags := 9, nameIndex := 15, descriptorIndex := 16, attributes := #[] }, { accessFlags := 8, nameIndex := 113, descriptorIndex := 114, attributes := #[] }, { accessFlags := 8, nameIndex := 73, descriptorIndex := 74, attributes := #[] }, { accessFlags := 9, nameIndex := 50, descriptorIndex := 51, attributes := #[] }, { accessFlags := 9, nameIndex := 121, descriptorIndex := 122, attributes := #[] }, { accessFlags := 8, nameIndex := 261, descriptorIndex := 262, attributes := #[] }, { accessFlags := 9, nameIndex := 117, descriptorIndex := 122, attributes := #[] }, { accessFlags := 9, nameIndex := 117, descriptorIndex := 118, attributes := #[] }, { accessFlags := 9, nameIndex := 268, descriptorIndex := 231, attributes := #[] }, { accessFlags := 10, nameIndex := 230, descriptorIndex := 231, attributes := #[] }, { accessFlags := 10, nameIndex := 246, descriptorIndex := 231, attributes := #[] }, { accessFlags := 9, nameIndex := 392, descriptorIndex := 74, attributes := #[] }, { accessFlags := 9, nameIndex := 69, descriptorIndex := 70, attributes := #[] }, { accessFlags := 9, nameIndex := 98, descriptorIndex := 99, attributes := #[] }] 48 6 #[] #[{ accessFlags := 26, nameIndex := 61, descriptorIndex := 62, attributes := #[] }, { accessFlags := 26, nameIndex := 65, descriptorIndex := 62, attributes := #[] }, { accessFlags := 24, nameIndex := 430, descriptorIndex := 62, attributes := #[] }, { accessFlags := 4120, nameIndex := 46, descriptorIndex := 47, attributes := #[] }])
  fields := #[{ name := "HI_BYTE_SHIFT", type := .int, accessFlags := 26, slot := 0, constantValue := 0 }, { name := "LO_BYTE_SHIFT", type := .int, accessFlags := 26, slot := 1, constantValue := 0 }, { name := "MAX_LENGTH", type := .int, accessFlags := 24, slot := 2, constantValue := 0 }, { name := "$assertionsDisabled", type := .boolean, accessFlags := 4120, slot := 3, constantValue := 0 }]
  methods := #[k9m0, k9m1, k9m2, k9m3, k9m4, k9m5, k9m6, k9m7, k9m8, k9m9, k9m10, k9m11, k9m12, k9m13, k9m14, k9m15]
  instanceTypes := #[]
  staticTypes := #[.int, .int, .int, .boolean]
  resolved := Array.replicate 635 none
  statics := some 1 }

def pool10 : Array CpInfo := pool [(1, .class_ 2), (0, u "java/lang/String"), (1, .class_ 6), (1, u "java/lang/Object"), (0, u "<init>"), (0, u "()V"), (0, .methodref 1 10), (0, .nameAndType 11 12), (0, u "checkIndex"), (0, u "(II)V"), (1, .class_ 16), (1, u "java/lang/StringLatin1"), (21, .methodref 39 40), (0, .class_ 41), (0, .nameAndType 42 43), (0, u "java/lang/Math"), (0, u "min"), (0, u "(II)I"), (9, u "([BI)C"), (34, .methodref 14 89), (0, .nameAndType 90 91), (0, u "canEncode"), (0, u "(I)Z"), (0, .methodref 39 93), (0, .nameAndType 94 43), (0, u "max"), (0, .methodref 14 96), (0, .nameAndType 97 98), (0, u "indexOfChar"), (0, u "([BIII)I"), (2, u "indexOf"), (19, u "$assertionsDisabled"), (0, u "Z"), (98, .class_ 223), (1, u "java/lang/StringLatin1$LinesSpliterator"), (28, u "charAt"), (137, .class_ 391), (0, u "java/lang/StringLatin1$CharsSpliterator")] 3

def k10m0 : Method := { name := "<init>", desc := "()V", sig := { parameters := [], returnType := none }, accessFlags := 0, code := none }
def k10c1 : Code := { maxStack := 2, maxLocals := 2, code := jdk_43_method_2_code, exceptionTable := #[], attributes := #[] }
def k10m1 : Method := { name := "charAt", desc := "([BI)C", sig := { parameters := [(.array .byte), .int], returnType := some .char }, accessFlags := 9, code := some k10c1 }
def k10c2 : Code := { maxStack := 2, maxLocals := 1, code := jdk_43_method_4_code, exceptionTable := #[], attributes := #[] }
def k10m2 : Method := { name := "canEncode", desc := "(I)Z", sig := { parameters := [.int], returnType := some .boolean }, accessFlags := 9, code := some k10c2 }
def k10c3 : Code := { maxStack := 4, maxLocals := 4, code := jdk_43_method_22_code, exceptionTable := #[], attributes := #[] }
def k10m3 : Method := { name := "indexOf", desc := "([BIII)I", sig := { parameters := [(.array .byte), .int, .int, .int], returnType := some .int }, accessFlags := 9, code := some k10c3 }
def k10c4 : Code := { maxStack := 2, maxLocals := 6, code := jdk_43_method_23_code, exceptionTable := #[], attributes := #[] }
def k10m4 : Method := { name := "indexOfChar", desc := "([BIII)I", sig := { parameters := [(.array .byte), .int, .int, .int], returnType := some .int }, accessFlags := 10, code := some k10c4 }
/-- java/lang/StringLatin1 -/
def k10 : Class := { plain "java/lang/StringLatin1" (some 0) with
  accessFlags := 48
  interfaces := #[]
  cf := some (fileOf pool10 14 #[.nestMembers #[390, 221]] #[{ accessFlags := 0, nameIndex := 7, descriptorIndex := 8, attributes := #[] }, { accessFlags := 9, nameIndex := 252, descriptorIndex := 53, attributes := #[] }, { accessFlags := 9, nameIndex := 90, descriptorIndex := 91, attributes := #[] }, { accessFlags := 9, nameIndex := 101, descriptorIndex := 98, attributes := #[] }, { accessFlags := 10, nameIndex := 97, descriptorIndex := 98, attributes := #[] }] 48 4 #[] #[{ accessFlags := 4120, nameIndex := 121, descriptorIndex := 122, attributes := #[] }])
  fields := #[{ name := "$assertionsDisabled", type := .boolean, accessFlags := 4120, slot := 0, constantValue := 0 }]
  methods := #[k10m0, k10m1, k10m2, k10m3, k10m4]
  instanceTypes := #[]
  staticTypes := #[.boolean]
  resolved := Array.replicate 395 none
  statics := none }

def pool11 : Array CpInfo := pool [(2, .class_ 4), (1, u "java/lang/Object"), (0, u "<init>"), (0, u "()V"), (17, .class_ 26), (1, u "jdk/internal/util/Preconditions"), (6, u "checkIndex"), (13, u "checkFromToIndex"), (7, .class_ 56), (0, u "jdk/internal/util/Preconditions$4"), (57, .class_ 115), (0, u "jdk/internal/util/Preconditions$1"), (7, u "SIOOBE_FORMATTER"), (0, u "Ljava/util/function/BiFunction;"), (0, .class_ 126), (0, u "jdk/internal/util/Preconditions$2"), (3, u "AIOOBE_FORMATTER"), (0, .class_ 132), (0, u "jdk/internal/util/Preconditions$3"), (3, u "IOOBE_FORMATTER"), (41, u "(IILjava/util/function/BiFunction;)I"), (4, u "(IIILjava/util/function/BiFunction;)I")] 10

def k11m0 : Method := { name := "<init>", desc := "()V", sig := { parameters := [], returnType := none }, accessFlags := 1, code := none }
def k11c1 : Code := { maxStack := 3, maxLocals := 3, code := jdk_41_method_11_code, exceptionTable := #[], attributes := #[] }
def k11m1 : Method := { name := "checkIndex", desc := "(IILjava/util/function/BiFunction;)I", sig := { parameters := [.int, .int, (.object "java/util/function/BiFunction")], returnType := some .int }, accessFlags := 9, code := some k11c1 }
def k11c2 : Code := { maxStack := 4, maxLocals := 4, code := jdk_41_method_12_code, exceptionTable := #[], attributes := #[] }
def k11m2 : Method := { name := "checkFromToIndex", desc := "(IIILjava/util/function/BiFunction;)I", sig := { parameters := [.int, .int, .int, (.object "java/util/function/BiFunction")], returnType := some .int }, accessFlags := 9, code := some k11c2 }
/-- jdk/internal/util/Preconditions -/
def k11 : Class := { plain "jdk/internal/util/Preconditions" (some 0) with
  accessFlags := 33
  interfaces := #[]
  cf := some (fileOf pool11 24 #[.nestMembers #[55, 131, 125, 114]] #[{ accessFlags := 1, nameIndex := 5, descriptorIndex := 6, attributes := #[] }, { accessFlags := 9, nameIndex := 33, descriptorIndex := 178, attributes := #[] }, { accessFlags := 9, nameIndex := 47, descriptorIndex := 183, attributes := #[] }] 33 2 #[] #[{ accessFlags := 25, nameIndex := 123, descriptorIndex := 124, attributes := #[] }, { accessFlags := 25, nameIndex := 130, descriptorIndex := 124, attributes := #[] }, { accessFlags := 25, nameIndex := 136, descriptorIndex := 124, attributes := #[] }])
  fields := #[{ name := "SIOOBE_FORMATTER", type := (.object "java/util/function/BiFunction"), accessFlags := 25, slot := 0, constantValue := 0 }, { name := "AIOOBE_FORMATTER", type := (.object "java/util/function/BiFunction"), accessFlags := 25, slot := 1, constantValue := 0 }, { name := "IOOBE_FORMATTER", type := (.object "java/util/function/BiFunction"), accessFlags := 25, slot := 2, constantValue := 0 }]
  methods := #[k11m0, k11m1, k11m2]
  instanceTypes := #[]
  staticTypes := #[(.object "java/util/function/BiFunction"), (.object "java/util/function/BiFunction"), (.object "java/util/function/BiFunction")]
  resolved := Array.replicate 194 none
  statics := some 2 }

def pool12 : Array CpInfo := pool [(2, .class_ 4), (1, u "java/lang/Object"), (0, u "<init>"), (0, u "()V"), (10, .class_ 19), (1, u "com/example/libbisim/libbisim/TextFormat"), (0, u "isBlank"), (8, .class_ 30), (0, u "com/example/libbisim/libbisim/TextFormat$Cursor"), (65, .class_ 98), (1, u "com/example/libbisim/libbisim/TextFormat$BuilderStart"), (6, .class_ 107), (1, u "com/example/libbisim/libbisim/TextFormat$TransitionReader"), (19, .class_ 128), (0, u "com/example/libbisim/libbisim/TextFormat$Relation"), (114, u "(C)Z"), (11, u "HEADER"), (0, u "Ljava/lang/String;"), (29, .class_ 287), (0, u "com/example/libbisim/libbisim/TextFormat$TransitionWriter")] 52

def k12m0 : Method := { name := "<init>", desc := "()V", sig := { parameters := [], returnType := none }, accessFlags := 2, code := none }
def k12c1 : Code := { maxStack := 2, maxLocals := 1, code := prog_67_method_8_code, exceptionTable := #[], attributes := #[] }
def k12m1 : Method := { name := "isBlank", desc := "(C)Z", sig := { parameters := [.char], returnType := some .boolean }, accessFlags := 10, code := some k12c1 }
/-- com/example/libbisim/libbisim/TextFormat -/
def k12 : Class := { plain "com/example/libbisim/libbisim/TextFormat" (some 0) with
  accessFlags := 48
  interfaces := #[]
  cf := some (fileOf pool12 17 #[.nestMembers #[29, 127, 286, 105, 96]] #[{ accessFlags := 2, nameIndex := 5, descriptorIndex := 6, attributes := #[] }, { accessFlags := 10, nameIndex := 20, descriptorIndex := 243, attributes := #[] }] 48 2 #[] #[{ accessFlags := 26, nameIndex := 255, descriptorIndex := 256, attributes := #[] }])
  fields := #[{ name := "HEADER", type := (.object "java/lang/String"), accessFlags := 26, slot := 0, constantValue := 0 }]
  methods := #[k12m0, k12m1]
  instanceTypes := #[]
  staticTypes := #[(.object "java/lang/String")]
  resolved := Array.replicate 340 none
  statics := none }

def pool13 : Array CpInfo := pool [(1, .class_ 2), (0, u "java/lang/Math"), (1, .class_ 6), (1, u "java/lang/Object"), (0, u "<init>"), (0, u "()V"), (89, .class_ 100), (1, u "java/lang/Math$RandomNumberGeneratorHolder"), (71, u "negativeZeroFloatBits"), (0, u "J"), (2, u "negativeZeroDoubleBits"), (21, u "max"), (2, u "min"), (43, u "$assertionsDisabled"), (0, u "Z"), (88, u "(II)I"), (2, u "twoToTheDoubleScaleDown"), (0, u "D"), (4, u "twoToTheDoubleScaleUp"), (9, u "E"), (3, u "PI"), (2, u "TAU"), (2, u "DEGREES_TO_RADIANS"), (0, u "RADIANS_TO_DEGREES")] 94

def k13m0 : Method := { name := "<init>", desc := "()V", sig := { parameters := [], returnType := none }, accessFlags := 2, code := none }
def k13c1 : Code := { maxStack := 2, maxLocals := 2, code := jdk_29_method_65_code, exceptionTable := #[], attributes := #[] }
def k13m1 : Method := { name := "max", desc := "(II)I", sig := { parameters := [.int, .int], returnType := some .int }, accessFlags := 9, code := some k13c1 }
def k13c2 : Code := { maxStack := 2, maxLocals := 2, code := jdk_29_method_69_code, exceptionTable := #[], attributes := #[] }
def k13m2 : Method := { name := "min", desc := "(II)I", sig := { parameters := [.int, .int], returnType := some .int }, accessFlags := 9, code := some k13c2 }
/-- java/lang/Math -/
def k13 : Class := { plain "java/lang/Math" (some 0) with
  accessFlags := 49
  interfaces := #[]
  cf := some (fileOf pool13 1 #[.nestMembers #[98]] #[{ accessFlags := 2, nameIndex := 7, descriptorIndex := 8, attributes := #[] }, { accessFlags := 9, nameIndex := 198, descriptorIndex := 335, attributes := #[] }, { accessFlags := 9, nameIndex := 201, descriptorIndex := 335, attributes := #[] }] 49 4 #[] #[{ accessFlags := 25, nameIndex := 354, descriptorIndex := 339, attributes := #[] }, { accessFlags := 25, nameIndex := 358, descriptorIndex := 339, attributes := #[] }, { accessFlags := 25, nameIndex := 361, descriptorIndex := 339, attributes := #[] }, { accessFlags := 26, nameIndex := 364, descriptorIndex := 339, attributes := #[] }, { accessFlags := 26, nameIndex := 365, descriptorIndex := 339, attributes := #[] }, { accessFlags := 26, nameIndex := 172, descriptorIndex := 173, attributes := #[] }, { accessFlags := 26, nameIndex := 176, descriptorIndex := 173, attributes := #[] }, { accessFlags := 8, nameIndex := 344, descriptorIndex := 339, attributes := #[] }, { accessFlags := 8, nameIndex := 338, descriptorIndex := 339, attributes := #[] }, { accessFlags := 4120, nameIndex := 245, descriptorIndex := 246, attributes := #[] }])
  fields := #[{ name := "E", type := .double, accessFlags := 25, slot := 0, constantValue := 0 }, { name := "PI", type := .double, accessFlags := 25, slot := 1, constantValue := 0 }, { name := "TAU", type := .double, accessFlags := 25, slot := 2, constantValue := 0 }, { name := "DEGREES_TO_RADIANS", type := .double, accessFlags := 26, slot := 3, constantValue := 0 }, { name := "RADIANS_TO_DEGREES", type := .double, accessFlags := 26, slot := 4, constantValue := 0 }, { name := "negativeZeroFloatBits", type := .long, accessFlags := 26, slot := 5, constantValue := 0 }, { name := "negativeZeroDoubleBits", type := .long, accessFlags := 26, slot := 6, constantValue := 0 }, { name := "twoToTheDoubleScaleUp", type := .double, accessFlags := 8, slot := 7, constantValue := 0 }, { name := "twoToTheDoubleScaleDown", type := .double, accessFlags := 8, slot := 8, constantValue := 0 }, { name := "$assertionsDisabled", type := .boolean, accessFlags := 4120, slot := 9, constantValue := 0 }]
  methods := #[k13m0, k13m1, k13m2]
  instanceTypes := #[]
  staticTypes := #[.double, .double, .double, .double, .double, .long, .long, .double, .double, .boolean]
  resolved := Array.replicate 460 none
  statics := none }

def pool14 : Array CpInfo := pool [(9, u "<init>"), (6, .class_ 18), (1, u "java/lang/Object"), (0, u "()V"), (1, .class_ 23), (1, u "jdk/internal/util/ArraysSupport"), (0, u "LOG2_ARRAY_LONG_INDEX_SCALE"), (0, u "I"), (2, u "U"), (0, u "Ljdk/internal/misc/Unsafe;"), (8, u "BIG_ENDIAN"), (0, u "Z"), (8, u "LOG2_BYTE_BIT_SIZE"), (4, u "LOG2_ARRAY_INT_INDEX_SCALE"), (54, u "JLA"), (0, u "Ljdk/internal/access/JavaLangAccess;"), (11, u "LOG2_ARRAY_BOOLEAN_INDEX_SCALE"), (9, u "LOG2_ARRAY_BYTE_INDEX_SCALE"), (5, u "LOG2_ARRAY_CHAR_INDEX_SCALE"), (5, u "LOG2_ARRAY_SHORT_INDEX_SCALE"), (18, u "LOG2_ARRAY_FLOAT_INDEX_SCALE"), (24, u "LOG2_ARRAY_DOUBLE_INDEX_SCALE"), (89, u "T_BOOLEAN"), (2, u "T_CHAR"), (1, u "T_FLOAT"), (1, u "T_DOUBLE"), (1, u "T_BYTE"), (1, u "T_SHORT"), (1, u "T_INT"), (1, u "T_LONG"), (1, u "SOFT_MAX_ARRAY_LENGTH")] 83

def k14m0 : Method := { name := "<init>", desc := "()V", sig := { parameters := [], returnType := none }, accessFlags := 2, code := none }
/-- jdk/internal/util/ArraysSupport -/
def k14 : Class := { plain "jdk/internal/util/ArraysSupport" (some 0) with
  accessFlags := 33
  interfaces := #[]
  cf := some (fileOf pool14 21 #[] #[{ accessFlags := 2, nameIndex := 9, descriptorIndex := 19, attributes := #[] }] 33 16 #[] #[{ accessFlags := 24, nameIndex := 28, descriptorIndex := 29, attributes := #[] }, { accessFlags := 26, nameIndex := 38, descriptorIndex := 39, attributes := #[] }, { accessFlags := 25, nameIndex := 121, descriptorIndex := 25, attributes := #[] }, { accessFlags := 25, nameIndex := 131, descriptorIndex := 25, attributes := #[] }, { accessFlags := 25, nameIndex := 137, descriptorIndex := 25, attributes := #[] }, { accessFlags := 25, nameIndex := 143, descriptorIndex := 25, attributes := #[] }, { accessFlags := 25, nameIndex := 53, descriptorIndex := 25, attributes := #[] }, { accessFlags := 25, nameIndex := 24, descriptorIndex := 25, attributes := #[] }, { accessFlags := 25, nameIndex := 162, descriptorIndex := 25, attributes := #[] }, { accessFlags := 25, nameIndex := 187, descriptorIndex := 25, attributes := #[] }, { accessFlags := 26, nameIndex := 48, descriptorIndex := 25, attributes := #[] }, { accessFlags := 25, nameIndex := 277, descriptorIndex := 25, attributes := #[] }, { accessFlags := 25, nameIndex := 280, descriptorIndex := 25, attributes := #[] }, { accessFlags := 25, nameIndex := 282, descriptorIndex := 25, attributes := #[] }, { accessFlags := 25, nameIndex := 284, descriptorIndex := 25, attributes := #[] }, { accessFlags := 25, nameIndex := 286, descriptorIndex := 25, attributes := #[] }, { accessFlags := 25, nameIndex := 288, descriptorIndex := 25, attributes := #[] }, { accessFlags := 25, nameIndex := 290, descriptorIndex := 25, attributes := #[] }, { accessFlags := 25, nameIndex := 292, descriptorIndex := 25, attributes := #[] }, { accessFlags := 26, nameIndex := 108, descriptorIndex := 109, attributes := #[] }, { accessFlags := 25, nameIndex := 294, descriptorIndex := 25, attributes := #[] }])
  fields := #[{ name := "U", type := (.object "jdk/internal/misc/Unsafe"), accessFlags := 24, slot := 0, constantValue := 0 }, { name := "BIG_ENDIAN", type := .boolean, accessFlags := 26, slot := 1, constantValue := 0 }, { name := "LOG2_ARRAY_BOOLEAN_INDEX_SCALE", type := .int, accessFlags := 25, slot := 2, constantValue := 0 }, { name := "LOG2_ARRAY_BYTE_INDEX_SCALE", type := .int, accessFlags := 25, slot := 3, constantValue := 0 }, { name := "LOG2_ARRAY_CHAR_INDEX_SCALE", type := .int, accessFlags := 25, slot := 4, constantValue := 0 }, { name := "LOG2_ARRAY_SHORT_INDEX_SCALE", type := .int, accessFlags := 25, slot := 5, constantValue := 0 }, { name := "LOG2_ARRAY_INT_INDEX_SCALE", type := .int, accessFlags := 25, slot := 6, constantValue := 0 }, { name := "LOG2_ARRAY_LONG_INDEX_SCALE", type := .int, accessFlags := 25, slot := 7, constantValue := 0 }, { name := "LOG2_ARRAY_FLOAT_INDEX_SCALE", type := .int, accessFlags := 25, slot := 8, constantValue := 0 }, { name := "LOG2_ARRAY_DOUBLE_INDEX_SCALE", type := .int, accessFlags := 25, slot := 9, constantValue := 0 }, { name := "LOG2_BYTE_BIT_SIZE", type := .int, accessFlags := 26, slot := 10, constantValue := 0 }, { name := "T_BOOLEAN", type := .int, accessFlags := 25, slot := 11, constantValue := 0 }, { name := "T_CHAR", type := .int, accessFlags := 25, slot := 12, constantValue := 0 }, { name := "T_FLOAT", type := .int, accessFlags := 25, slot := 13, constantValue := 0 }, { name := "T_DOUBLE", type := .int, accessFlags := 25, slot := 14, constantValue := 0 }, { name := "T_BYTE", type := .int, accessFlags := 25, slot := 15, constantValue := 0 }, { name := "T_SHORT", type := .int, accessFlags := 25, slot := 16, constantValue := 0 }, { name := "T_INT", type := .int, accessFlags := 25, slot := 17, constantValue := 0 }, { name := "T_LONG", type := .int, accessFlags := 25, slot := 18, constantValue := 0 }, { name := "JLA", type := (.object "jdk/internal/access/JavaLangAccess"), accessFlags := 26, slot := 19, constantValue := 0 }, { name := "SOFT_MAX_ARRAY_LENGTH", type := .int, accessFlags := 25, slot := 20, constantValue := 0 }]
  methods := #[k14m0]
  instanceTypes := #[]
  staticTypes := #[(.object "jdk/internal/misc/Unsafe"), .boolean, .int, .int, .int, .int, .int, .int, .int, .int, .int, .int, .int, .int, .int, .int, .int, .int, .int, (.object "jdk/internal/access/JavaLangAccess"), .int]
  resolved := Array.replicate 378 none
  statics := none }

def pool15 : Array CpInfo := pool [(1, u "java/lang/Cloneable"), (0, .class_ 1), (0, u "java/lang/Object"), (0, .class_ 3)] 3

/-- java/lang/Cloneable -/
def k15 : Class := { plain "java/lang/Cloneable" (some 0) with
  accessFlags := 1537
  interfaces := #[]
  cf := some (fileOf pool15 2 #[] #[] 1537 4 #[] #[])
  fields := #[]
  methods := #[]
  instanceTypes := #[]
  staticTypes := #[]
  resolved := Array.replicate 8 none
  statics := none }

/-- the primitive byte -/
def k16 : Class := { plain "byte" none with kind := .primitive 'B', accessFlags := 0x411 }
/-- [B -/
def k17 : Class := { plain "[B" (some 0) with kind := .array 16 .byte, interfaces := #[15, 3], accessFlags := 1041 }

/-- the primitive char -/
def k18 : Class := { plain "char" none with kind := .primitive 'C', accessFlags := 0x411 }
/-- [C -/
def k19 : Class := { plain "[C" (some 0) with kind := .array 18 .char, interfaces := #[15, 3], accessFlags := 1041 }

/-- the primitive int -/
def k20 : Class := { plain "int" none with kind := .primitive 'I', accessFlags := 0x411 }
/-- [I -/
def k21 : Class := { plain "[I" (some 0) with kind := .array 20 .int, interfaces := #[15, 3], accessFlags := 1041 }

def heap : Heap := #[{ cls := 8, slots := #[.long 0, .int 1, .null, .int 0, .null, .int 0, .int 0], vm := .statics 8 },
  { cls := 9, slots := #[.int 0, .int 8, .int 0, .int 1], vm := .statics 9 },
  { cls := 11, slots := #[.null, .null, .null], vm := .statics 11 }]
def classes : Array Class := #[k0, k1, k2, k3, k4, k5, k6, k7, k8, k9, k10, k11, k12, k13, k14, k15, k16, k17, k18, k19, k20, k21]
def interned : List (Array UInt16 × Addr) := []
def slotsUsed : Nat := 14
def theMethod : MethodId := ⟨1, 2⟩
def args0 : Array Value := #[.int 5, .int 5, .int 5, .int 5, .int 5, .long 5]
def aboutOver (below : List Frame) : State where
  vm := { classes := classes, interned := interned.toArray }
  heap := heap
  slotsUsed := slotsUsed
  threads := #[{ frames := .invoking theMethod args0 :: below }]
def below0 : List Frame := [.native { method := ⟨0, 0⟩, args := #[] }]
def about1 : State := aboutOver below0
def p0 : Program := .bare "" "" ""
def e0 : Env := launch0.env 0 0 0
theorem w_frames : about1.frames = Frame.invoking theMethod args0 :: below0 := rfl
set_option maxRecDepth 65536 in
theorem w_args : argsFit about1.vm theMethod args0 = true := by decide +kernel
set_option maxRecDepth 65536 in
theorem w_heap : heapFits about1 = true := by decide +kernel
set_option maxRecDepth 65536 in
theorem w_runnable : about1.curStatus? = some .runnable := by decide +kernel
set_option maxRecDepth 65536 in
theorem w_alone : about1.alone = true := by decide +kernel
set_option maxRecDepth 65536 in
theorem w_named : about1.methodNamed? x = some theMethod := by decide +kernel
set_option maxRecDepth 65536 in
theorem w_hears : about1.hears theMethod below0 = true := by decide +kernel
set_option maxRecDepth 65536 in
theorem w_ripe : about1.ripe theMethod args0 below0 = true := by decide +kernel
theorem w_running : about1.status = .running := rfl
set_option maxRecDepth 65536 in
theorem w_room : about1.hasRoom e0.platform room_1 = true :=
  launch0.hasRoom_least _ room_1 (by decide +kernel) (by decide +kernel) (by decide +kernel) (by decide +kernel) (by decide +kernel) (by decide +kernel)
theorem allAtoms_all (ts : List Jvm.Cond) (a : Array Jvm.Value) (st : Jvm.State) : (allAtoms ts).before a st = ts.all (fun c => c.before a st) := by
  induction ts with
  | nil => rfl
  | cons c t ih =>
    show (Jvm.Cond.and c (allAtoms t)).before a st = _
    rw [Jvm.Cond.before_and, ih, List.all_cons]
def words1 : List Jvm.Cond := Jvm.Cond.code x code maxLocals ret :: tables_1
/-- a 'code' word, met by the world's own term for the bytes: nothing is compared byte by byte -/
theorem code_word {y : MethodName} {bytes : ByteArray} {mx : Nat} {rt : Option FieldType} {a : Array Value} {s : State} {m : MethodId} {meth : Method} {c : Code} (h1 : s.methodNamed? y = some m) (h2 : s.vm.method? m = some meth) (h3 : meth.code = some c) (h4 : c.code = bytes)
    (h5 : (c.maxLocals == mx && c.exceptionTable.isEmpty && decide (c.maxStack ≤ mostOperands) && decide (meth.sig.returnType = rt) && !meth.locks && decide (parseMethodDescriptor y.desc = some meth.sig)) = true) : (Jvm.Cond.code y bytes mx rt).before a s = true := by
  simp only [Bool.and_eq_true, beq_iff_eq, Bool.not_eq_true', decide_eq_true_eq] at h5
  obtain ⟨⟨⟨⟨⟨g1, g2⟩, g3⟩, g4⟩, g5⟩, g6⟩ := h5
  simp [Cond.before, Cond.holds, Cond.value, h1, h2, h3, h4, g1, g2, g3, g4, g5, g6]
def isCode : Jvm.Cond → Bool
  | .code _ _ _ _ => true
  | _ => false
theorem all_split {L : List Jvm.Cond} {P : Jvm.Cond → Bool} (h1 : L.all (fun c => isCode c || P c) = true) (h2 : ∀ c ∈ L.filter isCode, P c = true) : L.all P = true := by
  refine List.all_eq_true.mpr fun c hc => ?_
  have h := List.all_eq_true.mp h1 c hc
  rcases Bool.eq_false_or_eq_true (isCode c) with hi | hi
  · exact h2 c (List.mem_filter.mpr ⟨hc, hi⟩)
  · simpa [hi] using h
set_option maxRecDepth 65536 in
theorem w_c0 : (Jvm.Cond.code x code maxLocals ret).before args0 about1 = true := code_word (m := ⟨1, 2⟩) (meth := k1m2) (c := k1c2) (by decide +kernel) rfl rfl rfl (by decide +kernel)
set_option maxRecDepth 65536 in
theorem w_c1 : (Jvm.Cond.code ({ cls := "com/example/libbisim/libbisim/CursorExpectPinLaw", name := "at", desc := "(IIICCCC)C" } : Jvm.MethodName) method_2_code (8 : Nat) (Option.some Jvm.ClassFile.FieldType.char)).before args0 about1 = true := code_word (m := ⟨1, 1⟩) (meth := k1m1) (c := k1c1) (by decide +kernel) rfl rfl rfl (by decide +kernel)
set_option maxRecDepth 65536 in
theorem w_c2 : (Jvm.Cond.code ({ cls := "java/lang/String", name := "<init>", desc := "([C)V" } : Jvm.MethodName) jdk_42_method_3_code (2 : Nat) (Option.none : Option Jvm.ClassFile.FieldType)).before args0 about1 = true := code_word (m := ⟨8, 1⟩) (meth := k8m1) (c := k8c1) (by decide +kernel) rfl rfl rfl (by decide +kernel)
set_option maxRecDepth 65536 in
theorem w_c3 : (Jvm.Cond.code ({ cls := "java/lang/String", name := "<init>", desc := "([CIILjava/lang/Void;)V" } : Jvm.MethodName) jdk_42_method_149_code (6 : Nat) (Option.none : Option Jvm.ClassFile.FieldType)).before args0 about1 = true := code_word (m := ⟨8, 5⟩) (meth := k8m5) (c := k8c5) (by decide +kernel) rfl rfl rfl (by decide +kernel)
set_option maxRecDepth 65536 in
theorem w_c4 : (Jvm.Cond.code ({ cls := "java/lang/Object", name := "<init>", desc := "()V" } : Jvm.MethodName) object_method_1_code (1 : Nat) (Option.none : Option Jvm.ClassFile.FieldType)).before args0 about1 = true := code_word (m := ⟨0, 0⟩) (meth := k0m0) (c := k0c0) (by decide +kernel) rfl rfl rfl (by decide +kernel)
set_option maxRecDepth 65536 in
theorem w_c5 : (Jvm.Cond.code ({ cls := "java/lang/StringUTF16", name := "compress", desc := "([CII)[B" } : Jvm.MethodName) jdk_52_method_16_code (6 : Nat) (Option.some (Jvm.ClassFile.FieldType.array Jvm.ClassFile.FieldType.byte))).before args0 about1 = true := code_word (m := ⟨9, 8⟩) (meth := k9m8) (c := k9c8) (by decide +kernel) rfl rfl rfl (by decide +kernel)
set_option maxRecDepth 65536 in
theorem w_c6 : (Jvm.Cond.code ({ cls := "java/lang/StringUTF16", name := "compress", desc := "([CI[BII)I" } : Jvm.MethodName) jdk_52_method_21_code (7 : Nat) (Option.some Jvm.ClassFile.FieldType.int)).before args0 about1 = true := code_word (m := ⟨9, 9⟩) (meth := k9m9) (c := k9c9) (by decide +kernel) rfl rfl rfl (by decide +kernel)
set_option maxRecDepth 65536 in
theorem w_c7 : (Jvm.Cond.code ({ cls := "java/lang/StringUTF16", name := "coderFromArrayLen", desc := "([BI)B" } : Jvm.MethodName) jdk_52_method_15_code (2 : Nat) (Option.some Jvm.ClassFile.FieldType.byte)).before args0 about1 = true := code_word (m := ⟨9, 7⟩) (meth := k9m7) (c := k9c7) (by decide +kernel) rfl rfl rfl (by decide +kernel)
set_option maxRecDepth 65536 in
theorem w_c8 : (Jvm.Cond.code ({ cls := "com/example/libbisim/libbisim/TextFormat$Cursor", name := "<init>", desc := "(Ljava/lang/String;Ljava/lang/String;JLjava/lang/String;)V" } : Jvm.MethodName) prog_69_method_1_code (6 : Nat) (Option.none : Option Jvm.ClassFile.FieldType)).before args0 about1 = true := code_word (m := ⟨2, 0⟩) (meth := k2m0) (c := k2c0) (by decide +kernel) rfl rfl rfl (by decide +kernel)
set_option maxRecDepth 65536 in
theorem w_c9 : (Jvm.Cond.code ({ cls := "com/example/libbisim/libbisim/TextFormat$Cursor", name := "expect", desc := "(C)V" } : Jvm.MethodName) prog_69_method_3_code (2 : Nat) (Option.none : Option Jvm.ClassFile.FieldType)).before args0 about1 = true := code_word (m := ⟨2, 1⟩) (meth := k2m1) (c := k2c1) (by decide +kernel) rfl rfl rfl (by decide +kernel)
set_option maxRecDepth 65536 in
theorem w_c10 : (Jvm.Cond.code ({ cls := "com/example/libbisim/libbisim/TextFormat$Cursor", name := "skipBlanks", desc := "()V" } : Jvm.MethodName) prog_69_method_14_code (1 : Nat) (Option.none : Option Jvm.ClassFile.FieldType)).before args0 about1 = true := code_word (m := ⟨2, 3⟩) (meth := k2m3) (c := k2c3) (by decide +kernel) rfl rfl rfl (by decide +kernel)
set_option maxRecDepth 65536 in
theorem w_c11 : (Jvm.Cond.code ({ cls := "java/lang/String", name := "length", desc := "()I" } : Jvm.MethodName) jdk_42_method_54_code (1 : Nat) (Option.some Jvm.ClassFile.FieldType.int)).before args0 about1 = true := code_word (m := ⟨8, 2⟩) (meth := k8m2) (c := k8c2) (by decide +kernel) rfl rfl rfl (by decide +kernel)
set_option maxRecDepth 65536 in
theorem w_c12 : (Jvm.Cond.code ({ cls := "java/lang/String", name := "coder", desc := "()B" } : Jvm.MethodName) jdk_42_method_152_code (1 : Nat) (Option.some Jvm.ClassFile.FieldType.byte)).before args0 about1 = true := code_word (m := ⟨8, 6⟩) (meth := k8m6) (c := k8c6) (by decide +kernel) rfl rfl rfl (by decide +kernel)
set_option maxRecDepth 65536 in
theorem w_c13 : (Jvm.Cond.code ({ cls := "java/lang/String", name := "charAt", desc := "(I)C" } : Jvm.MethodName) jdk_42_method_56_code (2 : Nat) (Option.some Jvm.ClassFile.FieldType.char)).before args0 about1 = true := code_word (m := ⟨8, 3⟩) (meth := k8m3) (c := k8c3) (by decide +kernel) rfl rfl rfl (by decide +kernel)
set_option maxRecDepth 65536 in
theorem w_c14 : (Jvm.Cond.code ({ cls := "java/lang/String", name := "isLatin1", desc := "()Z" } : Jvm.MethodName) jdk_42_method_154_code (1 : Nat) (Option.some Jvm.ClassFile.FieldType.boolean)).before args0 about1 = true := code_word (m := ⟨8, 7⟩) (meth := k8m7) (c := k8c7) (by decide +kernel) rfl rfl rfl (by decide +kernel)
set_option maxRecDepth 65536 in
theorem w_c15 : (Jvm.Cond.code ({ cls := "java/lang/StringLatin1", name := "charAt", desc := "([BI)C" } : Jvm.MethodName) jdk_43_method_2_code (2 : Nat) (Option.some Jvm.ClassFile.FieldType.char)).before args0 about1 = true := code_word (m := ⟨10, 1⟩) (meth := k10m1) (c := k10c1) (by decide +kernel) rfl rfl rfl (by decide +kernel)
set_option maxRecDepth 65536 in
theorem w_c16 : (Jvm.Cond.code ({ cls := "java/lang/String", name := "checkIndex", desc := "(II)V" } : Jvm.MethodName) jdk_42_method_155_code (2 : Nat) (Option.none : Option Jvm.ClassFile.FieldType)).before args0 about1 = true := code_word (m := ⟨8, 8⟩) (meth := k8m8) (c := k8c8) (by decide +kernel) rfl rfl rfl (by decide +kernel)
set_option maxRecDepth 65536 in
theorem w_c17 : (Jvm.Cond.code ({ cls := "jdk/internal/util/Preconditions", name := "checkIndex", desc := "(IILjava/util/function/BiFunction;)I" } : Jvm.MethodName) jdk_41_method_11_code (3 : Nat) (Option.some Jvm.ClassFile.FieldType.int)).before args0 about1 = true := code_word (m := ⟨11, 1⟩) (meth := k11m1) (c := k11c1) (by decide +kernel) rfl rfl rfl (by decide +kernel)
set_option maxRecDepth 65536 in
theorem w_c18 : (Jvm.Cond.code ({ cls := "com/example/libbisim/libbisim/TextFormat", name := "isBlank", desc := "(C)Z" } : Jvm.MethodName) prog_67_method_8_code (1 : Nat) (Option.some Jvm.ClassFile.FieldType.boolean)).before args0 about1 = true := code_word (m := ⟨12, 1⟩) (meth := k12m1) (c := k12c1) (by decide +kernel) rfl rfl rfl (by decide +kernel)
set_option maxRecDepth 65536 in
theorem w_c19 : (Jvm.Cond.code ({ cls := "com/example/libbisim/libbisim/TextFormat$Cursor", name := "commaFollows", desc := "()Z" } : Jvm.MethodName) prog_69_method_11_code (1 : Nat) (Option.some Jvm.ClassFile.FieldType.boolean)).before args0 about1 = true := code_word (m := ⟨2, 2⟩) (meth := k2m2) (c := k2c2) (by decide +kernel) rfl rfl rfl (by decide +kernel)
set_option maxRecDepth 65536 in
theorem w_c20 : (Jvm.Cond.code ({ cls := "java/lang/String", name := "indexOf", desc := "(II)I" } : Jvm.MethodName) jdk_42_method_80_code (3 : Nat) (Option.some Jvm.ClassFile.FieldType.int)).before args0 about1 = true := code_word (m := ⟨8, 4⟩) (meth := k8m4) (c := k8c4) (by decide +kernel) rfl rfl rfl (by decide +kernel)
set_option maxRecDepth 65536 in
theorem w_c21 : (Jvm.Cond.code ({ cls := "java/lang/StringLatin1", name := "indexOf", desc := "([BIII)I" } : Jvm.MethodName) jdk_43_method_22_code (4 : Nat) (Option.some Jvm.ClassFile.FieldType.int)).before args0 about1 = true := code_word (m := ⟨10, 3⟩) (meth := k10m3) (c := k10c3) (by decide +kernel) rfl rfl rfl (by decide +kernel)
set_option maxRecDepth 65536 in
theorem w_c22 : (Jvm.Cond.code ({ cls := "java/lang/StringLatin1", name := "canEncode", desc := "(I)Z" } : Jvm.MethodName) jdk_43_method_4_code (1 : Nat) (Option.some Jvm.ClassFile.FieldType.boolean)).before args0 about1 = true := code_word (m := ⟨10, 2⟩) (meth := k10m2) (c := k10c2) (by decide +kernel) rfl rfl rfl (by decide +kernel)
set_option maxRecDepth 65536 in
theorem w_c23 : (Jvm.Cond.code ({ cls := "java/lang/Math", name := "max", desc := "(II)I" } : Jvm.MethodName) jdk_29_method_65_code (2 : Nat) (Option.some Jvm.ClassFile.FieldType.int)).before args0 about1 = true := code_word (m := ⟨13, 1⟩) (meth := k13m1) (c := k13c1) (by decide +kernel) rfl rfl rfl (by decide +kernel)
set_option maxRecDepth 65536 in
theorem w_c24 : (Jvm.Cond.code ({ cls := "java/lang/Math", name := "min", desc := "(II)I" } : Jvm.MethodName) jdk_29_method_69_code (2 : Nat) (Option.some Jvm.ClassFile.FieldType.int)).before args0 about1 = true := code_word (m := ⟨13, 2⟩) (meth := k13m2) (c := k13c2) (by decide +kernel) rfl rfl rfl (by decide +kernel)
set_option maxRecDepth 65536 in
theorem w_c25 : (Jvm.Cond.code ({ cls := "java/lang/StringLatin1", name := "indexOfChar", desc := "([BIII)I" } : Jvm.MethodName) jdk_43_method_23_code (6 : Nat) (Option.some Jvm.ClassFile.FieldType.int)).before args0 about1 = true := code_word (m := ⟨10, 4⟩) (meth := k10m4) (c := k10c4) (by decide +kernel) rfl rfl rfl (by decide +kernel)
set_option maxRecDepth 65536 in
theorem w_c26 : (Jvm.Cond.code ({ cls := "java/lang/StringUTF16", name := "toBytes", desc := "([CII)[B" } : Jvm.MethodName) jdk_52_method_14_code (5 : Nat) (Option.some (Jvm.ClassFile.FieldType.array Jvm.ClassFile.FieldType.byte))).before args0 about1 = true := code_word (m := ⟨9, 6⟩) (meth := k9m6) (c := k9c6) (by decide +kernel) rfl rfl rfl (by decide +kernel)
set_option maxRecDepth 65536 in
theorem w_c27 : (Jvm.Cond.code ({ cls := "java/lang/StringUTF16", name := "newBytesFor", desc := "(I)[B" } : Jvm.MethodName) jdk_52_method_2_code (1 : Nat) (Option.some (Jvm.ClassFile.FieldType.array Jvm.ClassFile.FieldType.byte))).before args0 about1 = true := code_word (m := ⟨9, 1⟩) (meth := k9m1) (c := k9c1) (by decide +kernel) rfl rfl rfl (by decide +kernel)
set_option maxRecDepth 65536 in
theorem w_c28 : (Jvm.Cond.code ({ cls := "java/lang/StringUTF16", name := "newBytesLength", desc := "(I)I" } : Jvm.MethodName) jdk_52_method_3_code (1 : Nat) (Option.some Jvm.ClassFile.FieldType.int)).before args0 about1 = true := code_word (m := ⟨9, 2⟩) (meth := k9m2) (c := k9c2) (by decide +kernel) rfl rfl rfl (by decide +kernel)
set_option maxRecDepth 65536 in
theorem w_c29 : (Jvm.Cond.code ({ cls := "java/lang/StringUTF16", name := "putChar", desc := "([BII)V" } : Jvm.MethodName) jdk_52_method_4_code (3 : Nat) (Option.none : Option Jvm.ClassFile.FieldType)).before args0 about1 = true := code_word (m := ⟨9, 3⟩) (meth := k9m3) (c := k9c3) (by decide +kernel) rfl rfl rfl (by decide +kernel)
set_option maxRecDepth 65536 in
theorem w_c30 : (Jvm.Cond.code ({ cls := "java/lang/StringUTF16", name := "getChar", desc := "([BI)C" } : Jvm.MethodName) jdk_52_method_5_code (2 : Nat) (Option.some Jvm.ClassFile.FieldType.char)).before args0 about1 = true := code_word (m := ⟨9, 4⟩) (meth := k9m4) (c := k9c4) (by decide +kernel) rfl rfl rfl (by decide +kernel)
set_option maxRecDepth 65536 in
theorem w_c31 : (Jvm.Cond.code ({ cls := "java/lang/StringUTF16", name := "charAt", desc := "([BI)C" } : Jvm.MethodName) jdk_52_method_83_code (2 : Nat) (Option.some Jvm.ClassFile.FieldType.char)).before args0 about1 = true := code_word (m := ⟨9, 13⟩) (meth := k9m13) (c := k9c13) (by decide +kernel) rfl rfl rfl (by decide +kernel)
set_option maxRecDepth 65536 in
theorem w_c32 : (Jvm.Cond.code ({ cls := "java/lang/StringUTF16", name := "checkIndex", desc := "(I[B)V" } : Jvm.MethodName) jdk_52_method_91_code (2 : Nat) (Option.none : Option Jvm.ClassFile.FieldType)).before args0 about1 = true := code_word (m := ⟨9, 14⟩) (meth := k9m14) (c := k9c14) (by decide +kernel) rfl rfl rfl (by decide +kernel)
set_option maxRecDepth 65536 in
theorem w_c33 : (Jvm.Cond.code ({ cls := "java/lang/StringUTF16", name := "length", desc := "([B)I" } : Jvm.MethodName) jdk_52_method_6_code (1 : Nat) (Option.some Jvm.ClassFile.FieldType.int)).before args0 about1 = true := code_word (m := ⟨9, 5⟩) (meth := k9m5) (c := k9c5) (by decide +kernel) rfl rfl rfl (by decide +kernel)
set_option maxRecDepth 65536 in
theorem w_c34 : (Jvm.Cond.code ({ cls := "java/lang/StringUTF16", name := "indexOf", desc := "([BIII)I" } : Jvm.MethodName) jdk_52_method_40_code (4 : Nat) (Option.some Jvm.ClassFile.FieldType.int)).before args0 about1 = true := code_word (m := ⟨9, 10⟩) (meth := k9m10) (c := k9c10) (by decide +kernel) rfl rfl rfl (by decide +kernel)
set_option maxRecDepth 65536 in
theorem w_c35 : (Jvm.Cond.code ({ cls := "java/lang/StringUTF16", name := "indexOfChar", desc := "([BIII)I" } : Jvm.MethodName) jdk_52_method_47_code (4 : Nat) (Option.some Jvm.ClassFile.FieldType.int)).before args0 about1 = true := code_word (m := ⟨9, 11⟩) (meth := k9m11) (c := k9c11) (by decide +kernel) rfl rfl rfl (by decide +kernel)
set_option maxRecDepth 65536 in
theorem w_c36 : (Jvm.Cond.code ({ cls := "java/lang/StringUTF16", name := "checkBoundsBeginEnd", desc := "(II[B)V" } : Jvm.MethodName) jdk_52_method_93_code (3 : Nat) (Option.none : Option Jvm.ClassFile.FieldType)).before args0 about1 = true := code_word (m := ⟨9, 15⟩) (meth := k9m15) (c := k9c15) (by decide +kernel) rfl rfl rfl (by decide +kernel)
set_option maxRecDepth 65536 in
theorem w_c37 : (Jvm.Cond.code ({ cls := "java/lang/String", name := "checkBoundsBeginEnd", desc := "(III)V" } : Jvm.MethodName) jdk_42_method_158_code (3 : Nat) (Option.none : Option Jvm.ClassFile.FieldType)).before args0 about1 = true := code_word (m := ⟨8, 9⟩) (meth := k8m9) (c := k8c9) (by decide +kernel) rfl rfl rfl (by decide +kernel)
set_option maxRecDepth 65536 in
theorem w_c38 : (Jvm.Cond.code ({ cls := "jdk/internal/util/Preconditions", name := "checkFromToIndex", desc := "(IIILjava/util/function/BiFunction;)I" } : Jvm.MethodName) jdk_41_method_12_code (4 : Nat) (Option.some Jvm.ClassFile.FieldType.int)).before args0 about1 = true := code_word (m := ⟨11, 2⟩) (meth := k11m2) (c := k11c2) (by decide +kernel) rfl rfl rfl (by decide +kernel)
set_option maxRecDepth 65536 in
theorem w_c39 : (Jvm.Cond.code ({ cls := "java/lang/StringUTF16", name := "indexOfCharUnsafe", desc := "([BIII)I" } : Jvm.MethodName) jdk_52_method_48_code (5 : Nat) (Option.some Jvm.ClassFile.FieldType.int)).before args0 about1 = true := code_word (m := ⟨9, 12⟩) (meth := k9m12) (c := k9c12) (by decide +kernel) rfl rfl rfl (by decide +kernel)
def codes1 : List Jvm.Cond := [Jvm.Cond.code x code maxLocals ret, Jvm.Cond.code ({ cls := "com/example/libbisim/libbisim/CursorExpectPinLaw", name := "at", desc := "(IIICCCC)C" } : Jvm.MethodName) method_2_code (8 : Nat) (Option.some Jvm.ClassFile.FieldType.char), Jvm.Cond.code ({ cls := "java/lang/String", name := "<init>", desc := "([C)V" } : Jvm.MethodName) jdk_42_method_3_code (2 : Nat) (Option.none : Option Jvm.ClassFile.FieldType), Jvm.Cond.code ({ cls := "java/lang/String", name := "<init>", desc := "([CIILjava/lang/Void;)V" } : Jvm.MethodName) jdk_42_method_149_code (6 : Nat) (Option.none : Option Jvm.ClassFile.FieldType), Jvm.Cond.code ({ cls := "java/lang/Object", name := "<init>", desc := "()V" } : Jvm.MethodName) object_method_1_code (1 : Nat) (Option.none : Option Jvm.ClassFile.FieldType), Jvm.Cond.code ({ cls := "java/lang/StringUTF16", name := "compress", desc := "([CII)[B" } : Jvm.MethodName) jdk_52_method_16_code (6 : Nat) (Option.some (Jvm.ClassFile.FieldType.array Jvm.ClassFile.FieldType.byte)), Jvm.Cond.code ({ cls := "java/lang/StringUTF16", name := "compress", desc := "([CI[BII)I" } : Jvm.MethodName) jdk_52_method_21_code (7 : Nat) (Option.some Jvm.ClassFile.FieldType.int), Jvm.Cond.code ({ cls := "java/lang/StringUTF16", name := "coderFromArrayLen", desc := "([BI)B" } : Jvm.MethodName) jdk_52_method_15_code (2 : Nat) (Option.some Jvm.ClassFile.FieldType.byte), Jvm.Cond.code ({ cls := "com/example/libbisim/libbisim/TextFormat$Cursor", name := "<init>", desc := "(Ljava/lang/String;Ljava/lang/String;JLjava/lang/String;)V" } : Jvm.MethodName) prog_69_method_1_code (6 : Nat) (Option.none : Option Jvm.ClassFile.FieldType), Jvm.Cond.code ({ cls := "com/example/libbisim/libbisim/TextFormat$Cursor", name := "expect", desc := "(C)V" } : Jvm.MethodName) prog_69_method_3_code (2 : Nat) (Option.none : Option Jvm.ClassFile.FieldType), Jvm.Cond.code ({ cls := "com/example/libbisim/libbisim/TextFormat$Cursor", name := "skipBlanks", desc := "()V" } : Jvm.MethodName) prog_69_method_14_code (1 : Nat) (Option.none : Option Jvm.ClassFile.FieldType), Jvm.Cond.code ({ cls := "java/lang/String", name := "length", desc := "()I" } : Jvm.MethodName) jdk_42_method_54_code (1 : Nat) (Option.some Jvm.ClassFile.FieldType.int), Jvm.Cond.code ({ cls := "java/lang/String", name := "coder", desc := "()B" } : Jvm.MethodName) jdk_42_method_152_code (1 : Nat) (Option.some Jvm.ClassFile.FieldType.byte), Jvm.Cond.code ({ cls := "java/lang/String", name := "charAt", desc := "(I)C" } : Jvm.MethodName) jdk_42_method_56_code (2 : Nat) (Option.some Jvm.ClassFile.FieldType.char), Jvm.Cond.code ({ cls := "java/lang/String", name := "isLatin1", desc := "()Z" } : Jvm.MethodName) jdk_42_method_154_code (1 : Nat) (Option.some Jvm.ClassFile.FieldType.boolean), Jvm.Cond.code ({ cls := "java/lang/StringLatin1", name := "charAt", desc := "([BI)C" } : Jvm.MethodName) jdk_43_method_2_code (2 : Nat) (Option.some Jvm.ClassFile.FieldType.char), Jvm.Cond.code ({ cls := "java/lang/String", name := "checkIndex", desc := "(II)V" } : Jvm.MethodName) jdk_42_method_155_code (2 : Nat) (Option.none : Option Jvm.ClassFile.FieldType), Jvm.Cond.code ({ cls := "jdk/internal/util/Preconditions", name := "checkIndex", desc := "(IILjava/util/function/BiFunction;)I" } : Jvm.MethodName) jdk_41_method_11_code (3 : Nat) (Option.some Jvm.ClassFile.FieldType.int), Jvm.Cond.code ({ cls := "com/example/libbisim/libbisim/TextFormat", name := "isBlank", desc := "(C)Z" } : Jvm.MethodName) prog_67_method_8_code (1 : Nat) (Option.some Jvm.ClassFile.FieldType.boolean), Jvm.Cond.code ({ cls := "com/example/libbisim/libbisim/TextFormat$Cursor", name := "commaFollows", desc := "()Z" } : Jvm.MethodName) prog_69_method_11_code (1 : Nat) (Option.some Jvm.ClassFile.FieldType.boolean), Jvm.Cond.code ({ cls := "java/lang/String", name := "indexOf", desc := "(II)I" } : Jvm.MethodName) jdk_42_method_80_code (3 : Nat) (Option.some Jvm.ClassFile.FieldType.int), Jvm.Cond.code ({ cls := "java/lang/StringLatin1", name := "indexOf", desc := "([BIII)I" } : Jvm.MethodName) jdk_43_method_22_code (4 : Nat) (Option.some Jvm.ClassFile.FieldType.int), Jvm.Cond.code ({ cls := "java/lang/StringLatin1", name := "canEncode", desc := "(I)Z" } : Jvm.MethodName) jdk_43_method_4_code (1 : Nat) (Option.some Jvm.ClassFile.FieldType.boolean), Jvm.Cond.code ({ cls := "java/lang/Math", name := "max", desc := "(II)I" } : Jvm.MethodName) jdk_29_method_65_code (2 : Nat) (Option.some Jvm.ClassFile.FieldType.int), Jvm.Cond.code ({ cls := "java/lang/Math", name := "min", desc := "(II)I" } : Jvm.MethodName) jdk_29_method_69_code (2 : Nat) (Option.some Jvm.ClassFile.FieldType.int), Jvm.Cond.code ({ cls := "java/lang/StringLatin1", name := "indexOfChar", desc := "([BIII)I" } : Jvm.MethodName) jdk_43_method_23_code (6 : Nat) (Option.some Jvm.ClassFile.FieldType.int), Jvm.Cond.code ({ cls := "java/lang/StringUTF16", name := "toBytes", desc := "([CII)[B" } : Jvm.MethodName) jdk_52_method_14_code (5 : Nat) (Option.some (Jvm.ClassFile.FieldType.array Jvm.ClassFile.FieldType.byte)), Jvm.Cond.code ({ cls := "java/lang/StringUTF16", name := "newBytesFor", desc := "(I)[B" } : Jvm.MethodName) jdk_52_method_2_code (1 : Nat) (Option.some (Jvm.ClassFile.FieldType.array Jvm.ClassFile.FieldType.byte)), Jvm.Cond.code ({ cls := "java/lang/StringUTF16", name := "newBytesLength", desc := "(I)I" } : Jvm.MethodName) jdk_52_method_3_code (1 : Nat) (Option.some Jvm.ClassFile.FieldType.int), Jvm.Cond.code ({ cls := "java/lang/StringUTF16", name := "putChar", desc := "([BII)V" } : Jvm.MethodName) jdk_52_method_4_code (3 : Nat) (Option.none : Option Jvm.ClassFile.FieldType), Jvm.Cond.code ({ cls := "java/lang/StringUTF16", name := "getChar", desc := "([BI)C" } : Jvm.MethodName) jdk_52_method_5_code (2 : Nat) (Option.some Jvm.ClassFile.FieldType.char), Jvm.Cond.code ({ cls := "java/lang/StringUTF16", name := "charAt", desc := "([BI)C" } : Jvm.MethodName) jdk_52_method_83_code (2 : Nat) (Option.some Jvm.ClassFile.FieldType.char), Jvm.Cond.code ({ cls := "java/lang/StringUTF16", name := "checkIndex", desc := "(I[B)V" } : Jvm.MethodName) jdk_52_method_91_code (2 : Nat) (Option.none : Option Jvm.ClassFile.FieldType), Jvm.Cond.code ({ cls := "java/lang/StringUTF16", name := "length", desc := "([B)I" } : Jvm.MethodName) jdk_52_method_6_code (1 : Nat) (Option.some Jvm.ClassFile.FieldType.int), Jvm.Cond.code ({ cls := "java/lang/StringUTF16", name := "indexOf", desc := "([BIII)I" } : Jvm.MethodName) jdk_52_method_40_code (4 : Nat) (Option.some Jvm.ClassFile.FieldType.int), Jvm.Cond.code ({ cls := "java/lang/StringUTF16", name := "indexOfChar", desc := "([BIII)I" } : Jvm.MethodName) jdk_52_method_47_code (4 : Nat) (Option.some Jvm.ClassFile.FieldType.int), Jvm.Cond.code ({ cls := "java/lang/StringUTF16", name := "checkBoundsBeginEnd", desc := "(II[B)V" } : Jvm.MethodName) jdk_52_method_93_code (3 : Nat) (Option.none : Option Jvm.ClassFile.FieldType), Jvm.Cond.code ({ cls := "java/lang/String", name := "checkBoundsBeginEnd", desc := "(III)V" } : Jvm.MethodName) jdk_42_method_158_code (3 : Nat) (Option.none : Option Jvm.ClassFile.FieldType), Jvm.Cond.code ({ cls := "jdk/internal/util/Preconditions", name := "checkFromToIndex", desc := "(IIILjava/util/function/BiFunction;)I" } : Jvm.MethodName) jdk_41_method_12_code (4 : Nat) (Option.some Jvm.ClassFile.FieldType.int), Jvm.Cond.code ({ cls := "java/lang/StringUTF16", name := "indexOfCharUnsafe", desc := "([BIII)I" } : Jvm.MethodName) jdk_52_method_48_code (5 : Nat) (Option.some Jvm.ClassFile.FieldType.int)]
set_option maxRecDepth 65536 in
theorem codes_eq : words1.filter isCode = codes1 := rfl
theorem w_codes : ∀ c ∈ words1.filter isCode, c.before args0 about1 = true := by
  rw [codes_eq]
  intro c hc
  simp only [codes1, List.mem_cons, List.not_mem_nil, or_false] at hc
  rcases hc with rfl | rfl | rfl | rfl | rfl | rfl | rfl | rfl | rfl | rfl | rfl | rfl | rfl | rfl | rfl | rfl | rfl | rfl | rfl | rfl | rfl | rfl | rfl | rfl | rfl | rfl | rfl | rfl | rfl | rfl | rfl | rfl | rfl | rfl | rfl | rfl | rfl | rfl | rfl | rfl
  · exact w_c0
  · exact w_c1
  · exact w_c2
  · exact w_c3
  · exact w_c4
  · exact w_c5
  · exact w_c6
  · exact w_c7
  · exact w_c8
  · exact w_c9
  · exact w_c10
  · exact w_c11
  · exact w_c12
  · exact w_c13
  · exact w_c14
  · exact w_c15
  · exact w_c16
  · exact w_c17
  · exact w_c18
  · exact w_c19
  · exact w_c20
  · exact w_c21
  · exact w_c22
  · exact w_c23
  · exact w_c24
  · exact w_c25
  · exact w_c26
  · exact w_c27
  · exact w_c28
  · exact w_c29
  · exact w_c30
  · exact w_c31
  · exact w_c32
  · exact w_c33
  · exact w_c34
  · exact w_c35
  · exact w_c36
  · exact w_c37
  · exact w_c38
  · exact w_c39
set_option maxRecDepth 65536 in
theorem w_t1 : (words1.take 24).all (fun c => isCode c || c.before args0 about1) = true := by decide +kernel
set_option maxRecDepth 65536 in
theorem w_t2 : ((words1.drop 24).take 24).all (fun c => isCode c || c.before args0 about1) = true := by decide +kernel
set_option maxRecDepth 65536 in
theorem w_t3 : (((words1.drop 24).drop 24).take 24).all (fun c => isCode c || c.before args0 about1) = true := by decide +kernel
set_option maxRecDepth 65536 in
theorem w_t4 : ((((words1.drop 24).drop 24).drop 24).take 24).all (fun c => isCode c || c.before args0 about1) = true := by decide +kernel
set_option maxRecDepth 65536 in
theorem w_t5 : (((((words1.drop 24).drop 24).drop 24).drop 24).take 24).all (fun c => isCode c || c.before args0 about1) = true := by decide +kernel
set_option maxRecDepth 65536 in
theorem w_t6 : ((((((words1.drop 24).drop 24).drop 24).drop 24).drop 24).take 24).all (fun c => isCode c || c.before args0 about1) = true := by decide +kernel
set_option maxRecDepth 65536 in
theorem w_t7 : (((((((words1.drop 24).drop 24).drop 24).drop 24).drop 24).drop 24).take 24).all (fun c => isCode c || c.before args0 about1) = true := by decide +kernel
set_option maxRecDepth 65536 in
theorem w_t8 : (((((((words1.drop 24).drop 24).drop 24).drop 24).drop 24).drop 24).drop 24).all (fun c => isCode c || c.before args0 about1) = true := by decide +kernel
theorem w_tables : (allAtoms (Jvm.Cond.code x code maxLocals ret :: tables_1)).before args0 about1 = true := by
  rw [allAtoms_all]
  show words1.all (fun c => c.before args0 about1) = true
  refine all_split ?_ w_codes
  rw [← List.take_append_drop 24 words1, List.all_append, w_t1, ← List.take_append_drop 24 (words1.drop 24), List.all_append, w_t2, ← List.take_append_drop 24 ((words1.drop 24).drop 24), List.all_append, w_t3, ← List.take_append_drop 24 (((words1.drop 24).drop 24).drop 24), List.all_append, w_t4, ← List.take_append_drop 24 ((((words1.drop 24).drop 24).drop 24).drop 24), List.all_append, w_t5, ← List.take_append_drop 24 (((((words1.drop 24).drop 24).drop 24).drop 24).drop 24), List.all_append, w_t6, ← List.take_append_drop 24 ((((((words1.drop 24).drop 24).drop 24).drop 24).drop 24).drop 24), List.all_append, w_t7, w_t8]
  rfl
set_option maxRecDepth 65536 in
theorem w_rest : rest_1_c.before args0 about1 = true := by decide +kernel
set_option maxRecDepth 65536 in
theorem w_case : (Jvm.Cond.and given_1 narrow_1).before args0 about1 = true := by decide +kernel
theorem w_applies : (headSpec (Jvm.Cond.code x code maxLocals ret :: tables_1) room_1).applies x e0.platform about1 = true :=
  (Spec.applies_iff w_frames).mpr ⟨w_running, w_runnable, w_alone, w_named, w_hears, w_ripe, w_room, w_tables⟩
theorem atStart : AtStart classFile x code maxLocals ret World_1 tables_1 room_1 Calls_1 rest_1 Pre_1 launch0 p0 e0 about1 theMethod args0 below0 :=
  ⟨lists_1, trivial, launch0.admits_env _ _ _, launch0.least_env, fairChoices_fair.cas, fairChoices_fair.clock, w_frames, w_args, w_heap, w_applies, trivial, w_rest, w_case⟩
end start1
theorem witness_1 : WitnessClaimed_1 := ⟨start1.p0, start1.e0, start1.about1, start1.theMethod, start1.args0, start1.below0, start1.atStart⟩
end Jvm.Pilot.@@N@@
