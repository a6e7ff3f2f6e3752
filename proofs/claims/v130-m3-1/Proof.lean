import JvmDerived
import JvmDerived.Pilot.@@N@@Statement
import JvmDerived.Pilot.@@N@@Code
set_option linter.unusedVariables false
set_option linter.unusedSimpArgs false
namespace Jvm.RoadKit
open Sem ClassFile Op Lib Jvm.Stand Jvm.Free Jvm.LawKit
section New
variable {p : Program} {l : Launch} {e : Env} {R : Room} {s : State} {m : MethodId} {args : Array Value} {below : List Frame} {meth : Method} {c : Code} {T : State} {locs : List Loc} {cells slots : Nat}
theorem retI (X : Stand p l e R s m args below meth c T locs cells slots) (hx : p.tables.exec = Jvm.exec) {pc : Nat} {Ls : Array Slot} {z : Int32} {rest : List Value} (hret : meth.sig.returnType = some .int) (hd : decode c.code pc = .ok (.ireturn, 1)) {fs : List Frame}
    (hl : ∀ (f : JFrame) (acts : List Action), f.method = m → f.locked = none → f.entered = [] → (doReturn e (T.setTop f) acts (some (.int z))).1 = T.setFrames fs) : Steps p.tables e below (T.setTop (mkF m pc Ls (.int z :: rest))) (T.setFrames fs) := by
  have hm' : T.vm.method? m = some meth := X.method'
  have hn : narrow .int (.int z) = .int z := rfl
  show Steps p.tables e below (T.setTop { method := m, pc := pc, locals := Ls, stack := _ :: rest, locked := none }) _
  jvm_step X.here [X.here.top, hx, hd, hm', hret, hn]
  first | (intro acts; rw [hl _ acts rfl rfl rfl]) | rw [hl _ _ rfl rfl rfl]
  exact Steps.refl _
end New
end Jvm.RoadKit
/- laws to paste: Road.backV, Road.empW, Road.codOf (cut by pick.py; bodies as the Statement names them) -/
namespace Jvm.Pilot.@@N@@
namespace StrChars
open Jvm Sem ClassFile Op Lib Jvm.Stand Jvm.Free.XT Jvm.Free.ALB Jvm.Free.JM Jvm.Free
open Jvm.Lib.Cold (StaticIs)
/-- a char array whose places are chars -/
def Ch (a : Addr) (A : Cell) (U : State) : Prop := Arr .char a A U ∧ Typed .char A
theorem Ch.mv {a : Addr} {A : Cell} {U U' : State} (h : Ch a A U) (hal : U.vm.Alike U'.vm) (hh : U'.heap = U.heap) : Ch a A U' := ⟨h.1.mv hal hh, h.2⟩
theorem Ch.keep {a : Addr} {A : Cell} {U U' : State} (h : Ch a A U) (hal : U.vm.Alike U'.vm) (hk : U'.heap[a]? = some A) : Ch a A U' := ⟨h.1.keep hal hk, h.2⟩
/-- what place i of a char[]'s cell holds -/
def cv (A : Cell) (i : Nat) : Int32 := match A.slots[i]? with | some (.int x) => x | _ => 0
theorem Ch.get {a : Addr} {A : Cell} {U : State} (h : Ch a A U) {i : Nat} (hi : i < A.slots.size) : A.slots[i]? = some (.int (cv A i)) := by
  have e := Array.getElem?_eq_getElem hi
  have f := h.2 i _ e
  unfold cv; rw [e]
  generalize A.slots[i] = v at f
  cases v <;> simp [fits] at f ⊢
/-- the byte that i2b leaves of a char -/
def lo8 (x : Int32) : Int32 := x.toInt8.toInt32
theorem fits_lo8 (y : Int32) : fits .byte (.int (lo8 y)) = true := by
  have h1 := y.toInt8.le_toInt
  have h2 := y.toInt8.toInt_lt
  simp only [lo8, fits, Bool.and_eq_true, decide_eq_true_eq, Int32.le_iff_toInt_le, Int8.toInt_toInt32, show (-128 : Int32).toInt = -128 from by decide, show (127 : Int32).toInt = 127 from by decide]
  omega
/-- A' is A but that each place j of lo .. hi - 1 holds f j -/
def Laid (A A' : Cell) (lo hi : Nat) (f : Nat → Value) : Prop := A'.cls = A.cls ∧ A'.vm = A.vm ∧ A'.slots.size = A.slots.size ∧ ∀ i, A'.slots[i]? = if lo ≤ i ∧ i < hi then some (f i) else A.slots[i]?
theorem Laid.zero (A : Cell) (lo : Nat) (f : Nat → Value) : Laid A A lo (lo + 0) f := ⟨rfl, rfl, rfl, fun i => by rw [if_neg (by omega)]⟩
theorem Laid.step {A Ak : Cell} {lo k : Nat} {f : Nat → Value} {v : Value} (h : Laid A Ak lo k f) (hlo : lo ≤ k) (hk : k < Ak.slots.size) (hv : v = f k) : Laid A (Ak.setSlot k v) lo (k + 1) f := by
  refine ⟨h.1, h.2.1, by simpa [Cell.setSlot] using h.2.2.1, fun i => ?_⟩
  by_cases e : k = i
  · subst e; rw [Cell.slots_setSlot_self v hk, if_pos (by omega), hv]
  · rw [Cell.slots_setSlot_ne v e, h.2.2.2 i]
    by_cases q : lo ≤ i ∧ i < k
    · rw [if_pos q, if_pos (by omega)]
    · rw [if_neg q, if_neg (by omega)]
def U16 : String := "java/lang/StringUTF16"
namespace Cmp5
def yN : MethodName := ⟨"java/lang/StringUTF16", "compress", "([CI[BII)I"⟩
abbrev yB : ByteArray := jdk_52_method_21_code
theorem d0 : decode yB 0 = .ok (.iconst 0, 1) := by decide +kernel
theorem d1 : decode yB 1 = .ok (.istore 5, 2) := by decide +kernel
theorem d3 : decode yB 3 = .ok (.iload 5, 2) := by decide +kernel
theorem d5 : decode yB 5 = .ok (.iload 4, 2) := by decide +kernel
theorem d7 : decode yB 7 = .ok (.if_icmp (.ge) 37, 3) := by decide +kernel
theorem d10 : decode yB 10 = .ok (.aload_n 0, 1) := by decide +kernel
theorem d11 : decode yB 11 = .ok (.iload_n 1, 1) := by decide +kernel
theorem d12 : decode yB 12 = .ok (.caload, 1) := by decide +kernel
theorem d13 : decode yB 13 = .ok (.istore 6, 2) := by decide +kernel
theorem d15 : decode yB 15 = .ok (.iload 6, 2) := by decide +kernel
theorem d17 : decode yB 17 = .ok (.sipush 255, 3) := by decide +kernel
theorem d20 : decode yB 20 = .ok (.if_icmp (.le) 6, 3) := by decide +kernel
theorem d26 : decode yB 26 = .ok (.aload_n 2, 1) := by decide +kernel
theorem d27 : decode yB 27 = .ok (.iload_n 3, 1) := by decide +kernel
theorem d28 : decode yB 28 = .ok (.iload 6, 2) := by decide +kernel
theorem d30 : decode yB 30 = .ok (.i2b, 1) := by decide +kernel
theorem d31 : decode yB 31 = .ok (.bastore, 1) := by decide +kernel
theorem d32 : decode yB 32 = .ok (.iinc 1 1, 3) := by decide +kernel
theorem d35 : decode yB 35 = .ok (.iinc 3 1, 3) := by decide +kernel
theorem d38 : decode yB 38 = .ok (.iinc 5 1, 3) := by decide +kernel
theorem d41 : decode yB 41 = .ok (.goto (-38), 3) := by decide +kernel
theorem d44 : decode yB 44 = .ok (.iload 4, 2) := by decide +kernel
theorem d46 : decode yB 46 = .ok (.ireturn, 1) := by decide +kernel
def site : List Cond := []
def tab : Cond := tabOf yN yB 7 (some .int) site
def P (b : Addr) (A : Cell) (d : Addr) (B : Cell) (o q len : Nat) (args : Array Value) (s : State) : Prop := args = #[.ref b, .int (Int32.ofNat o), .ref d, .int (Int32.ofNat q), .int (Int32.ofNat len)] ∧ Ch b A s ∧ Arr .byte d B s ∧ b ≠ d ∧ o + len ≤ A.slots.size ∧ q + len ≤ B.slots.size ∧ ∀ i, i < len → ¬ 255 < cv A (o + i)
def E (b : Addr) (A : Cell) (d : Addr) (B : Cell) (o q len : Nat) (r : Option Value) (s u : State) : Prop := r = some (.int (Int32.ofNat len)) ∧ ∃ B', Put d B' s u ∧ Laid B B' q (q + len) (fun j => Value.int (lo8 (cv A (o + (j - q)))))
/-- no char of the range above 255: len; the places written hold each char's low byte -/
theorem law (l : Launch) (b : Addr) (A : Cell) (d : Addr) (B : Cell) (o q len : Nat) : Law l yN 5 5 0 0 yB 7 (some .int) site (P b A d B o q len) (E b A d B o q len) (copyLocs d q len) 0 0 := by
  refine Law.of_walk (plainFor_of_name (by decide +kernel)) (by decide +kernel) (by decide +kernel) (by decide) (fun _ _ h => by rw [h.1]; rfl) (fun _ U U' hal hh h => ⟨h.1, h.2.1.mv hal hh, h.2.2.1.mv hal hh, h.2.2.2⟩) (fun r U U' V V' h1 hal h2 h => ⟨h.1, h.2.elim fun B' q => ⟨B', q.1.mv h1 h2, q.2⟩⟩) ?_
  intro p e s m args below meth c s₁ X0 hexec hbytes hml hret hlk hnm hown hh0 W hP
  obtain ⟨rfl, hA, hB, hne, l1, l2, hp⟩ := hP
  have c1 : Steps p.tables e below (s₁.setTop (entryFrame m #[.ref b, .int (Int32.ofNat o), .ref d, .int (Int32.ofNat q), .int (Int32.ofNat len)] 7)) (s₁.setTop (mkF m 0 #[.val (.ref b), .val (.int (Int32.ofNat o)), .val (.ref d), .val (.int (Int32.ofNat q)), .val (.int (Int32.ofNat len)), .unset, .unset] [])) := entry rfl
  have hA0 := hA.1.mv X0.warmed.alike hh0
  have hB0 := hB.mv X0.warmed.alike hh0
  have a31 := hA.1.2.2.2
  have c2 : Steps p.tables e below (s₁.setTop (entryFrame m #[.ref b, .int (Int32.ofNat o), .ref d, .int (Int32.ofNat q), .int (Int32.ofNat len)] 7)) (s₁.setTop (mkF m 3 #[.val (.ref b), .val (.int (Int32.ofNat o)), .val (.ref d), .val (.int (Int32.ofNat q)), .val (.int (Int32.ofNat len)), .val (.int 0), .unset] [])) := c1.trans (by
    refine iconstV X0.here hexec rfl 0 (hb hbytes d0) (by decide) ?_
    refine XS.istore X0.here hexec rfl (hb hbytes d1) rfl rfl ?_
    exact Steps.refl _)
  have loop : ∀ (r i : Nat), i + r = len → ∀ (z : Slot), (z = .unset ∨ ∃ w, z = .val w ∧ w.category = 1) → ∀ (Tl : State) (Bk : Cell), Stand p l e { frames := 0, locals := 0, cells := 0, slots := 0 } s m #[.ref b, .int (Int32.ofNat o), .ref d, .int (Int32.ofNat q), .int (Int32.ofNat len)] below meth c Tl ([] ++ copyLocs d q i) 0 0 → Put d Bk s₁ Tl → Laid B Bk q (q + i) (fun j => Value.int (lo8 (cv A (o + (j - q))))) →
      Steps p.tables e below (s₁.setTop (entryFrame m #[.ref b, .int (Int32.ofNat o), .ref d, .int (Int32.ofNat q), .int (Int32.ofNat len)] 7)) (Tl.setTop (mkF m 3 #[.val (.ref b), .val (.int (Int32.ofNat (o + i))), .val (.ref d), .val (.int (Int32.ofNat (q + i))), .val (.int (Int32.ofNat len)), .val (.int (Int32.ofNat i)), z] [])) → ∃ (T' : State) (B' : Cell) (z' : Slot), Stand p l e { frames := 0, locals := 0, cells := 0, slots := 0 } s m #[.ref b, .int (Int32.ofNat o), .ref d, .int (Int32.ofNat q), .int (Int32.ofNat len)] below meth c T' ([] ++ copyLocs d q len) 0 0 ∧ Put d B' s₁ T' ∧ Laid B B' q (q + len) (fun j => Value.int (lo8 (cv A (o + (j - q))))) ∧
      Steps p.tables e below (s₁.setTop (entryFrame m #[.ref b, .int (Int32.ofNat o), .ref d, .int (Int32.ofNat q), .int (Int32.ofNat len)] 7)) (T'.setTop (mkF m 3 #[.val (.ref b), .val (.int (Int32.ofNat (o + len))), .val (.ref d), .val (.int (Int32.ofNat (q + len))), .val (.int (Int32.ofNat len)), .val (.int (Int32.ofNat len)), z'] [])) := by
    intro r
    induction r with
    | zero =>
      intro i hi z hz Tl Bk Xl pl fl cl
      have hil : i = len := by omega
      rw [hil] at Xl fl cl
      exact ⟨Tl, Bk, z, Xl, pl, fl, cl⟩
    | succ r ih =>
      intro i hi z hz Tl Bk Xl pl fl cl
      have all := X0.warmed.alike.symm.trans Xl.warmed.alike
      have hAl := hA0.keep all (pl.other hne hA0.1)
      have hBk := hB0.like all pl.1 fl.1 fl.2.1 fl.2.2.1
      have hlt : q + i < Bk.slots.size := by rw [fl.2.2.1]; omega
      have c3 : Steps p.tables e below (s₁.setTop (entryFrame m #[.ref b, .int (Int32.ofNat o), .ref d, .int (Int32.ofNat q), .int (Int32.ofNat len)] 7)) (Tl.setTop (mkF m 12 #[.val (.ref b), .val (.int (Int32.ofNat (o + i))), .val (.ref d), .val (.int (Int32.ofNat (q + i))), .val (.int (Int32.ofNat len)), .val (.int (Int32.ofNat i)), z] [.int (Int32.ofNat (o + i)), .ref b])) := cl.trans (by
        refine XS.iload Xl.here hexec rfl (hb hbytes d3) rfl ?_
        refine XS.iload Xl.here hexec rfl (hb hbytes d5) rfl ?_
        refine XS.icmpNo Xl.here hexec rfl (hb hbytes d7) rfl (ii_ge_f (lt32 (by omega) (by omega))) ?_
        refine XS.aloadN Xl.here hexec rfl (hb hbytes d10) rfl rfl ?_
        refine XS.iloadN Xl.here hexec rfl (hb hbytes d11) rfl ?_
        exact Steps.refl _)
      have c4 : Steps p.tables e below (s₁.setTop (entryFrame m #[.ref b, .int (Int32.ofNat o), .ref d, .int (Int32.ofNat q), .int (Int32.ofNat len)] 7)) (Tl.setTop (mkF m 13 #[.val (.ref b), .val (.int (Int32.ofNat (o + i))), .val (.ref d), .val (.int (Int32.ofNat (q + i))), .val (.int (Int32.ofNat len)), .val (.int (Int32.ofNat i)), z] [.int (cv A (o + i))])) := c3.trans (by
        refine Xl.aget hexec hAl rfl (hA.get (i := o + i) (by omega)) rfl rfl (hb hbytes d12) ?_
        exact Steps.refl _)
      have c5 : Steps p.tables e below (s₁.setTop (entryFrame m #[.ref b, .int (Int32.ofNat o), .ref d, .int (Int32.ofNat q), .int (Int32.ofNat len)] 7)) (Tl.setTop (mkF m 15 #[.val (.ref b), .val (.int (Int32.ofNat (o + i))), .val (.ref d), .val (.int (Int32.ofNat (q + i))), .val (.int (Int32.ofNat len)), .val (.int (Int32.ofNat i)), .val (.int (cv A (o + i)))] [])) := c4.trans (by
        refine XS.istoreS Xl.here hexec rfl (hb hbytes d13) rfl rfl hz ?_
        exact Steps.refl _)
      have c6 : Steps p.tables e below (s₁.setTop (entryFrame m #[.ref b, .int (Int32.ofNat o), .ref d, .int (Int32.ofNat q), .int (Int32.ofNat len)] 7)) (Tl.setTop (mkF m 31 #[.val (.ref b), .val (.int (Int32.ofNat (o + i))), .val (.ref d), .val (.int (Int32.ofNat (q + i))), .val (.int (Int32.ofNat len)), .val (.int (Int32.ofNat i)), .val (.int (cv A (o + i)))] [.int (lo8 (cv A (o + i))), .int (Int32.ofNat (q + i)), .ref d])) := c5.trans (by
        refine XS.iload Xl.here hexec rfl (hb hbytes d15) rfl ?_
        refine sipushV Xl.here hexec rfl 255 (hb hbytes d17) (by decide) ?_
        refine XS.icmpYes Xl.here hexec rfl (pc0 := 20) rfl (hb hbytes d20) rfl (ii_le_t (hp i (by omega))) (by decide) rfl ?_
        refine XS.aloadN Xl.here hexec rfl (hb hbytes d26) rfl rfl ?_
        refine XS.iloadN Xl.here hexec rfl (hb hbytes d27) rfl ?_
        refine XS.iload Xl.here hexec rfl (hb hbytes d28) rfl ?_
        refine i2b Xl.here hexec rfl (hb hbytes d30) rfl ?_
        exact Steps.refl _)
      obtain ⟨T7, X7, p7, st7⟩ := Xl.aput hexec hBk rfl hlt rfl (fits_lo8 (cv A (o + i))) (g := (mkF m 31 #[.val (.ref b), .val (.int (Int32.ofNat (o + i))), .val (.ref d), .val (.int (Int32.ofNat (q + i))), .val (.int (Int32.ofNat len)), .val (.int (Int32.ofNat i)), .val (.int (cv A (o + i)))] [.int (lo8 (cv A (o + i))), .int (Int32.ofNat (q + i)), .ref d])) rfl (rest := []) rfl (hb hbytes d31)
      have c8 : Steps p.tables e below (s₁.setTop (entryFrame m #[.ref b, .int (Int32.ofNat o), .ref d, .int (Int32.ofNat q), .int (Int32.ofNat len)] 7)) (T7.setTop (mkF m 32 #[.val (.ref b), .val (.int (Int32.ofNat (o + i))), .val (.ref d), .val (.int (Int32.ofNat (q + i))), .val (.int (Int32.ofNat len)), .val (.int (Int32.ofNat i)), .val (.int (cv A (o + i)))] [])) := c6.trans (st7 _ (Steps.refl _))
      have c9 : Steps p.tables e below (s₁.setTop (entryFrame m #[.ref b, .int (Int32.ofNat o), .ref d, .int (Int32.ofNat q), .int (Int32.ofNat len)] 7)) (T7.setTop (mkF m 3 #[.val (.ref b), .val (.int (Int32.ofNat (o + i) + 1)), .val (.ref d), .val (.int (Int32.ofNat (q + i) + 1)), .val (.int (Int32.ofNat len)), .val (.int (Int32.ofNat i + 1)), .val (.int (cv A (o + i)))] [])) := c8.trans (by
        refine iincV X7.here hexec rfl 1 (hb hbytes d32) (by decide) rfl rfl ?_
        refine iincV X7.here hexec rfl 1 (hb hbytes d35) (by decide) rfl rfl ?_
        refine iincV X7.here hexec rfl 1 (hb hbytes d38) (by decide) rfl rfl ?_
        refine XS.goto X7.here hexec rfl (pc0 := 41) rfl (hb hbytes d41) (by decide) rfl ?_
        exact Steps.refl _)
      have c10 : Steps p.tables e below (s₁.setTop (entryFrame m #[.ref b, .int (Int32.ofNat o), .ref d, .int (Int32.ofNat q), .int (Int32.ofNat len)] 7)) (T7.setTop (mkF m 3 #[.val (.ref b), .val (.int (Int32.ofNat (o + (i + 1)))), .val (.ref d), .val (.int (Int32.ofNat (q + (i + 1)))), .val (.int (Int32.ofNat len)), .val (.int (Int32.ofNat (i + 1))), .val (.int (cv A (o + i)))] [])) := by
        have := c9
        rw [succ32, succ32, succ32] at this
        exact this
      exact ih (i + 1) (by omega) _ (Or.inr ⟨_, rfl, rfl⟩) T7 _ (by rw [copyLocs_step, ← List.append_assoc]; exact X7) (pl.trans p7) (fl.step (by omega) hlt (by simp)) c10
  obtain ⟨T9, B9, z9, X9, p9, f9, g9⟩ := loop len 0 (by omega) .unset (Or.inl rfl) s₁ B (by simpa [copyLocs] using X0) ⟨hB0.1, fun _ _ => rfl, rfl⟩ (Laid.zero _ _ _) c2
  have c11 : Steps p.tables e below (s₁.setTop (entryFrame m #[.ref b, .int (Int32.ofNat o), .ref d, .int (Int32.ofNat q), .int (Int32.ofNat len)] 7)) (T9.setTop (mkF m 46 #[.val (.ref b), .val (.int (Int32.ofNat (o + len))), .val (.ref d), .val (.int (Int32.ofNat (q + len))), .val (.int (Int32.ofNat len)), .val (.int (Int32.ofNat len)), z9] [.int (Int32.ofNat len)])) := g9.trans (by
    refine XS.iload X9.here hexec rfl (hb hbytes d3) rfl ?_
    refine XS.iload X9.here hexec rfl (hb hbytes d5) rfl ?_
    refine XS.icmpYes X9.here hexec rfl (pc0 := 7) rfl (hb hbytes d7) rfl (ii_ge_t (nlt32 (by omega) (Nat.le_refl _))) (by decide) rfl ?_
    refine XS.iload X9.here hexec rfl (hb hbytes d44) rfl ?_
    exact Steps.refl _)
  exact ⟨T9, some (.int (Int32.ofNat len)), _, _, _, X9, by simp, rfl, rfl, (fun h => by cases h), ⟨rfl, B9, p9.from hh0, f9⟩, fun fs hl => c11.trans (X9.ireturnOut hexec hret rfl (Or.inl rfl) (hb hbytes d46) hl)⟩
end Cmp5
namespace Cmp3
def yN : MethodName := ⟨"java/lang/StringUTF16", "compress", "([CII)[B"⟩
abbrev yB : ByteArray := jdk_52_method_16_code
theorem d0 : decode yB 0 = .ok (.iload_n 2, 1) := by decide +kernel
theorem d1 : decode yB 1 = .ok (.newarray .byte, 2) := by decide +kernel
theorem d3 : decode yB 3 = .ok (.astore_n 3, 1) := by decide +kernel
theorem d4 : decode yB 4 = .ok (.aload_n 0, 1) := by decide +kernel
theorem d5 : decode yB 5 = .ok (.iload_n 1, 1) := by decide +kernel
theorem d6 : decode yB 6 = .ok (.aload_n 3, 1) := by decide +kernel
theorem d7 : decode yB 7 = .ok (.iconst 0, 1) := by decide +kernel
theorem d8 : decode yB 8 = .ok (.iload_n 2, 1) := by decide +kernel
theorem d9 : decode yB 9 = .ok (.invokestatic 115, 3) := by decide +kernel
theorem d12 : decode yB 12 = .ok (.istore 4, 2) := by decide +kernel
theorem d14 : decode yB 14 = .ok (.iload 4, 2) := by decide +kernel
theorem d16 : decode yB 16 = .ok (.iload_n 2, 1) := by decide +kernel
theorem d17 : decode yB 17 = .ok (.if_icmp (.eq) 40, 3) := by decide +kernel
theorem d57 : decode yB 57 = .ok (.aload_n 3, 1) := by decide +kernel
theorem d58 : decode yB 58 = .ok (.areturn, 1) := by decide +kernel
def site : List Cond := [.arrayClass .byte, Cmp5.tab] ++ staticW U16 115 Cmp5.yN
def tab : Cond := tabOf yN yB 6 (some (.array .byte)) site
def P (b : Addr) (A : Cell) (o len : Nat) (args : Array Value) (s : State) : Prop := args = #[.ref b, .int (Int32.ofNat o), .int (Int32.ofNat len)] ∧ Ch b A s ∧ o + len ≤ A.slots.size ∧ len ≤ 536870912 ∧ ∀ i, i < len → ¬ 255 < cv A (o + i)
def E (b : Addr) (A : Cell) (o len : Nat) (r : Option Value) (s u : State) : Prop := NewArr .byte "[B" len (fun j => .int (lo8 (cv A (o + j)))) r s u ∧ u.heap.size = s.heap.size + 1
/-- no char of the range above 255: a new byte[] of their low bytes -/
theorem law (l : Launch) (b : Addr) (A : Cell) (o len : Nat) : Law l yN 3 3 1 18 yB 6 (some (.array .byte)) site (P b A o len) (E b A o len) [] 1 len := by
  refine Law.of_walk (plainFor_of_name (by decide +kernel)) (by decide +kernel) (by decide +kernel) (by decide) (fun _ _ h => by rw [h.1]; rfl) (fun _ U U' hal hh h => ⟨h.1, h.2.1.mv hal hh, h.2.2⟩) (fun r U U' V V' h1 hal h2 h => ⟨NewArr.mv r U U' V V' h1 hal h2 h.1, by rw [h1, h2]; exact h.2⟩) ?_
  intro p e s m args below meth c s₁ X0 hexec hbytes hml hret hlk hnm hown hh0 W hP
  obtain ⟨rfl, hA, l1, l2, hp⟩ := hP
  have a31 := hA.1.2.2.2
  have c1 : Steps p.tables e below (s₁.setTop (entryFrame m #[.ref b, .int (Int32.ofNat o), .int (Int32.ofNat len)] 6)) (s₁.setTop (mkF m 0 #[.val (.ref b), .val (.int (Int32.ofNat o)), .val (.int (Int32.ofNat len)), .unset, .unset, .unset] [])) := entry rfl
  have c2 : Steps p.tables e below (s₁.setTop (entryFrame m #[.ref b, .int (Int32.ofNat o), .int (Int32.ofNat len)] 6)) (s₁.setTop (mkF m 1 #[.val (.ref b), .val (.int (Int32.ofNat o)), .val (.int (Int32.ofNat len)), .unset, .unset, .unset] [.int (Int32.ofNat len)])) := c1.trans (by
    refine XS.iloadN X0.here hexec rfl (hb hbytes d0) rfl ?_
    exact Steps.refl _)
  obtain ⟨T3, B3, X3, ba3, bs3, bv3, bh3, bf3, st3⟩ := X0.anew hexec (atype := .byte) (wk W (.arrayClass .byte)) rfl (by show len * 1 ≤ _; omega) (by omega) (g := (mkF m 1 #[.val (.ref b), .val (.int (Int32.ofNat o)), .val (.int (Int32.ofNat len)), .unset, .unset, .unset] [.int (Int32.ofNat len)])) rfl (hb hbytes d1) (rest := []) rfl (Nat.le_refl _) (by show 0 + len ≤ len; omega)
  rw [hh0] at ba3 st3
  have kp3 : XT.Kept s T3 := (XT.Kept.of_eq hh0).push bh3
  have hA3 := hA.keep X3.warmed.alike (kp3 _ _ hA.1.1)
  have hne : b ≠ s.heap.size := hA.1.ne
  have c4 : Steps p.tables e below (s₁.setTop (entryFrame m #[.ref b, .int (Int32.ofNat o), .int (Int32.ofNat len)] 6)) (T3.setTop (mkF m 3 #[.val (.ref b), .val (.int (Int32.ofNat o)), .val (.int (Int32.ofNat len)), .unset, .unset, .unset] [.ref s.heap.size])) := c2.trans (st3 _ (Steps.refl _))
  have c5 : Steps p.tables e below (s₁.setTop (entryFrame m #[.ref b, .int (Int32.ofNat o), .int (Int32.ofNat len)] 6)) (T3.setTop (mkF m 9 #[.val (.ref b), .val (.int (Int32.ofNat o)), .val (.int (Int32.ofNat len)), .val (.ref s.heap.size), .unset, .unset] [.int (Int32.ofNat len), .int 0, .ref s.heap.size, .int (Int32.ofNat o), .ref b])) := c4.trans (by
    refine XS.astoreN X3.here hexec rfl (hb hbytes d3) rfl rfl rfl ?_
    refine XS.aloadN X3.here hexec rfl (hb hbytes d4) rfl rfl ?_
    refine XS.iloadN X3.here hexec rfl (hb hbytes d5) rfl ?_
    refine XS.aloadN X3.here hexec rfl (hb hbytes d6) rfl rfl ?_
    refine iconstV X3.here hexec rfl 0 (hb hbytes d7) (by decide) ?_
    refine XS.iloadN X3.here hexec rfl (hb hbytes d8) rfl ?_
    exact Steps.refl _)
  obtain ⟨v6, T6, X6, E6, g6⟩ := X3.callS hexec (Cmp5.law l b A s.heap.size B3 o 0 len) hown (wks W (staticW U16 115 Cmp5.yN)) (wk W Cmp5.tab) (W := 0) (Nat.le_of_ble_eq_true rfl) (Nat.le_of_ble_eq_true rfl) (Nat.le_refl _) (by show 0 + len + 0 ≤ len; omega) (g := (mkF m 9 #[.val (.ref b), .val (.int (Int32.ofNat o)), .val (.int (Int32.ofNat len)), .val (.ref s.heap.size), .unset, .unset] [.int (Int32.ofNat len), .int (Int32.ofNat 0), .ref s.heap.size, .int (Int32.ofNat o), .ref b])) rfl (by rw [hml]; rfl) c5 (argsL := [.ref b, .int (Int32.ofNat o), .ref s.heap.size, .int (Int32.ofNat 0), .int (Int32.ofNat len)]) (rest := []) rfl rfl (by show 2 * 0 + 0 ≤ _; decide) (hb hbytes d9) (⟨rfl, hA3, ba3, hne, l1, by rw [bs3]; simp, hp⟩)
  obtain ⟨rfl, B6, p6, f6⟩ := E6
  have c7 : Steps p.tables e below (s₁.setTop (entryFrame m #[.ref b, .int (Int32.ofNat o), .int (Int32.ofNat len)] 6)) (T6.setTop (mkF m 12 #[.val (.ref b), .val (.int (Int32.ofNat o)), .val (.int (Int32.ofNat len)), .val (.ref s.heap.size), .unset, .unset] [.int (Int32.ofNat len)])) := g6
  have c8 : Steps p.tables e below (s₁.setTop (entryFrame m #[.ref b, .int (Int32.ofNat o), .int (Int32.ofNat len)] 6)) (T6.setTop (mkF m 58 #[.val (.ref b), .val (.int (Int32.ofNat o)), .val (.int (Int32.ofNat len)), .val (.ref s.heap.size), .val (.int (Int32.ofNat len)), .unset] [.ref s.heap.size])) := c7.trans (by
    refine XS.istore X6.here hexec rfl (hb hbytes d12) rfl rfl ?_
    refine XS.iload X6.here hexec rfl (hb hbytes d14) rfl ?_
    refine XS.iloadN X6.here hexec rfl (hb hbytes d16) rfl ?_
    refine XS.icmpYes X6.here hexec rfl (pc0 := 17) rfl (hb hbytes d17) rfl (ii_eq_t rfl) (by decide) rfl ?_
    refine XS.aloadN X6.here hexec rfl (hb hbytes d57) rfl rfl ?_
    exact Steps.refl _)
  have X8 := X6.wide (L' := []) (cells' := 1) (slots' := len) (fun x hx hlt => by
    simp only [List.nil_append, copyLocs, List.mem_map, List.mem_range] at hx
    obtain ⟨i, -, rfl⟩ := hx
    exact absurd hlt (Nat.lt_irrefl _)) (Nat.le_refl _) (by omega)
  exact ⟨T6, some (.ref s.heap.size), _, _, _, X8, rfl, rfl, rfl, (fun h => by cases h), ⟨⟨rfl, B6, ba3.like (X3.warmed.alike.symm.trans X6.warmed.alike) p6.1 f6.1 f6.2.1 f6.2.2.1, f6.2.1.trans bv3, by rw [X6.warmed.alike.findClass, f6.1]; exact bf3, by rw [f6.2.2.1, bs3]; simp, fun j hj => by rw [f6.2.2.2 j, if_pos (by omega)]; rfl, kp3.put p6 (Nat.le_refl _)⟩, by rw [p6.2.2, bh3, hh0]; simp⟩, fun fs hl => c8.trans (X8.areturnOut hexec rfl hret rfl (hb hbytes d58) hl)⟩
end Cmp3
namespace CodL
def yN : MethodName := ⟨"java/lang/StringUTF16", "coderFromArrayLen", "([BI)B"⟩
abbrev yB : ByteArray := jdk_52_method_15_code
theorem d0 : decode yB 0 = .ok (.iload_n 1, 1) := by decide +kernel
theorem d1 : decode yB 1 = .ok (.aload_n 0, 1) := by decide +kernel
theorem d2 : decode yB 2 = .ok (.arraylength, 1) := by decide +kernel
theorem d3 : decode yB 3 = .ok (.isub, 1) := by decide +kernel
theorem d4 : decode yB 4 = .ok (.bipush 31, 2) := by decide +kernel
theorem d6 : decode yB 6 = .ok (.iushr, 1) := by decide +kernel
theorem d7 : decode yB 7 = .ok (.i2b, 1) := by decide +kernel
theorem d8 : decode yB 8 = .ok (.ireturn, 1) := by decide +kernel
def site : List Cond := []
def tab : Cond := tabOf yN yB 2 (some .byte) site
def P (d : Addr) (B : Cell) (args : Array Value) (s : State) : Prop := args = #[.ref d, .int (Int32.ofNat B.slots.size)] ∧ Arr .byte d B s
def E (r : Option Value) (s u : State) : Prop := XT.PureE (some (.int 0)) r s u
/-- an array as long as the number of chars: LATIN1 -/
theorem law (l : Launch) (d : Addr) (B : Cell) : Law l yN 2 2 0 0 yB 2 (some .byte) site (P d B) E [] 0 0 := by
  refine Law.of_walk (plainFor_of_name (by decide +kernel)) (by decide +kernel) (by decide +kernel) (by decide) (fun _ _ h => by rw [h.1]; rfl) (fun _ U U' hal hh h => ⟨h.1, h.2.mv hal hh⟩) (fun r U U' V V' h1 hal h2 h => XT.PureE.mv r U U' V V' h1 hal h2 h) ?_
  intro p e s m args below meth c s₁ X0 hexec hbytes hml hret hlk hnm hown hh0 W hP
  obtain ⟨rfl, hB⟩ := hP
  have hB0 := hB.mv X0.warmed.alike hh0
  have c1 : Steps p.tables e below (s₁.setTop (entryFrame m #[.ref d, .int (Int32.ofNat B.slots.size)] 2)) (s₁.setTop (mkF m 0 #[.val (.ref d), .val (.int (Int32.ofNat B.slots.size))] [])) := entry rfl
  have c2 : Steps p.tables e below (s₁.setTop (entryFrame m #[.ref d, .int (Int32.ofNat B.slots.size)] 2)) (s₁.setTop (mkF m 2 #[.val (.ref d), .val (.int (Int32.ofNat B.slots.size))] [.ref d, .int (Int32.ofNat B.slots.size)])) := c1.trans (by
    refine XS.iloadN X0.here hexec rfl (hb hbytes d0) rfl ?_
    refine XS.aloadN X0.here hexec rfl (hb hbytes d1) rfl rfl ?_
    exact Steps.refl _)
  have c3 : Steps p.tables e below (s₁.setTop (entryFrame m #[.ref d, .int (Int32.ofNat B.slots.size)] 2)) (s₁.setTop (mkF m 8 #[.val (.ref d), .val (.int (Int32.ofNat B.slots.size))] [.int (lo8 (ushr (Int32.ofNat B.slots.size - Int32.ofNat B.slots.size) 31))])) := c2.trans (by
    refine X0.alen hexec hB0 rfl rfl (hb hbytes d2) ?_
    refine XS.isub X0.here hexec rfl (hb hbytes d3) rfl ?_
    refine bipushV X0.here hexec rfl 31 (hb hbytes d4) (by decide) ?_
    refine iushr X0.here hexec rfl (hb hbytes d6) rfl ?_
    refine i2b X0.here hexec rfl (hb hbytes d7) rfl ?_
    exact Steps.refl _)
  have e0 : lo8 (ushr (Int32.ofNat B.slots.size - Int32.ofNat B.slots.size) 31) = 0 := by rw [Int32.sub_self]; decide
  rw [e0] at c3
  exact ⟨s₁, some (.int 0), _, _, _, X0, rfl, rfl, rfl, (fun h => by cases h), ⟨rfl, hh0⟩, fun fs hl => c3.trans (X0.ireturnOut hexec hret rfl (Or.inr (Or.inr (Or.inl rfl))) (hb hbytes d8) hl)⟩
end CodL
/-- the String at a is Latin-1 over a new byte[] (the heap's one new cell): the low bytes of the len chars of A from o on; every cell but a is kept -/
def Got (a : Addr) (D : Cell) (fV fC : Field) (A : Cell) (o len : Nat) (r : Option Value) (s u : State) : Prop := r = none ∧ ∃ D' V : Cell, Blank "java/lang/String" a D' u ∧ Same D D' [fV.slot, fC.slot] ∧ D'.slots[fV.slot]? = some (.ref s.heap.size) ∧ D'.slots[fC.slot]? = some (.int 0) ∧ Arr .byte s.heap.size V u ∧ V.vm = .none ∧ u.vm.findClass "[B" = some V.cls ∧ V.slots.size = len ∧ (∀ j, j < len → V.slots[j]? = some (.int (lo8 (cv A (o + j))))) ∧ (∀ (y : Addr) (c : Cell), y ≠ a → s.heap[y]? = some c → u.heap[y]? = some c) ∧ u.heap.size = s.heap.size + 1
theorem Got.mv {a : Addr} {D A : Cell} {fV fC : Field} {o len : Nat} : ∀ r (U U' V V' : State), U'.heap = U.heap → V.vm.Alike V'.vm → V'.heap = V.heap → Got a D fV fC A o len r U V → Got a D fV fC A o len r U' V' :=
  fun r U U' V V' h1 hal h2 ⟨e0, D', X, a1, a2, a3, a4, a5, a6, a7, a8, a9, a10, a11⟩ => ⟨e0, D', X, a1.mv hal h2, a2, by rw [h1]; exact a3, a4, by rw [h1]; exact a5.mv hal h2, a6, by rw [hal.findClass]; exact a7, a8, a9, by rw [h1, h2]; exact a10, by rw [h1, h2]; exact a11⟩
namespace New4
def yN : MethodName := ⟨"java/lang/String", "<init>", "([CIILjava/lang/Void;)V"⟩
abbrev yB : ByteArray := jdk_42_method_149_code
theorem d0 : decode yB 0 = .ok (.aload_n 0, 1) := by decide +kernel
theorem d1 : decode yB 1 = .ok (.invokespecial 1, 3) := by decide +kernel
theorem d4 : decode yB 4 = .ok (.iload_n 3, 1) := by decide +kernel
theorem d5 : decode yB 5 = .ok (.ifCond (.ne) 22, 3) := by decide +kernel
theorem d27 : decode yB 27 = .ok (.getstatic 38, 3) := by decide +kernel
theorem d30 : decode yB 30 = .ok (.ifCond (.eq) 28, 3) := by decide +kernel
theorem d33 : decode yB 33 = .ok (.aload_n 1, 1) := by decide +kernel
theorem d34 : decode yB 34 = .ok (.iload_n 2, 1) := by decide +kernel
theorem d35 : decode yB 35 = .ok (.iload_n 3, 1) := by decide +kernel
theorem d36 : decode yB 36 = .ok (.invokestatic 177, 3) := by decide +kernel
theorem d39 : decode yB 39 = .ok (.astore 5, 2) := by decide +kernel
theorem d41 : decode yB 41 = .ok (.aload_n 0, 1) := by decide +kernel
theorem d42 : decode yB 42 = .ok (.aload 5, 2) := by decide +kernel
theorem d44 : decode yB 44 = .ok (.iload_n 3, 1) := by decide +kernel
theorem d45 : decode yB 45 = .ok (.invokestatic 47, 3) := by decide +kernel
theorem d48 : decode yB 48 = .ok (.putfield 15, 3) := by decide +kernel
theorem d51 : decode yB 51 = .ok (.aload_n 0, 1) := by decide +kernel
theorem d52 : decode yB 52 = .ok (.aload 5, 2) := by decide +kernel
theorem d54 : decode yB 54 = .ok (.putfield 9, 3) := by decide +kernel
theorem d57 : decode yB 57 = .ok (.return_, 1) := by decide +kernel
def site : List Cond := [.fieldLink "java/lang/String" 38 "java/lang/String" "COMPACT_STRINGS" "Z", Cmp3.tab, CodL.tab, .laysFinal "java/lang/String" "java/lang/String" "value" "[B", .fieldLink "java/lang/String" 9 "java/lang/String" "value" "[B", .laysFinal "java/lang/String" "java/lang/String" "coder" "B", .fieldLink "java/lang/String" 15 "java/lang/String" "coder" "B"] ++ objW "java/lang/String" 1 ++ staticW "java/lang/String" 177 Cmp3.yN ++ staticW "java/lang/String" 47 CodL.yN
def tab : Cond := tabOf yN yB 6 none site
def P (a : Addr) (D : Cell) (fV fC : Field) (b : Addr) (A : Cell) (z : Int32) (o len : Nat) (args : Array Value) (s : State) : Prop := args = #[.ref a, .ref b, .int (Int32.ofNat o), .int (Int32.ofNat len), .null] ∧ Blank "java/lang/String" a D s ∧ Found "java/lang/String" "value" "[B" fV s ∧ Found "java/lang/String" "coder" "B" fC s ∧ Ch b A s ∧ StaticIs s "java/lang/String" "COMPACT_STRINGS" "Z" (.int z) ∧ ¬ z = 0 ∧ 0 < len ∧ o + len ≤ A.slots.size ∧ len ≤ 536870912 ∧ ∀ i, i < len → ¬ 255 < cv A (o + i)
def E (a : Addr) (D : Cell) (fV fC : Field) (A : Cell) (o len : Nat) (r : Option Value) (s u : State) : Prop := Got a D fV fC A o len r s u
/-- len > 0, no char of the range above 255: a Latin-1 String of their low bytes -/
theorem law (l : Launch) (a : Addr) (D : Cell) (fV fC : Field) (b : Addr) (A : Cell) (z : Int32) (o len : Nat) : Law l yN 5 4 2 35 yB 6 none site (P a D fV fC b A z o len) (E a D fV fC A o len) [⟨a, fC.slot⟩, ⟨a, fV.slot⟩] 1 len := by
  refine Law.of_walk (plainFor_of_name (by decide +kernel)) (by decide +kernel) (by decide +kernel) (by decide) (fun _ _ h => by rw [h.1]; rfl) (fun _ U U' hal hh h => ⟨h.1, h.2.1.mv hal hh, h.2.2.1.al hal, h.2.2.2.1.al hal, h.2.2.2.2.1.mv hal hh, h.2.2.2.2.2.1.there hal hh, h.2.2.2.2.2.2⟩) (fun r U U' V V' h1 hal h2 h => Got.mv r U U' V V' h1 hal h2 h) ?_
  intro p e s m args below meth c s₁ X0 hexec hbytes hml hret hlk hnm hown hh0 W hP
  obtain ⟨rfl, hB, f1, f2, hA, s1, hz, l0, l1, l2, hp⟩ := hP
  have a31 := hA.1.2.2.2
  have c1 : Steps p.tables e below (s₁.setTop (entryFrame m #[.ref a, .ref b, .int (Int32.ofNat o), .int (Int32.ofNat len), .null] 6)) (s₁.setTop (mkF m 0 #[.val (.ref a), .val (.ref b), .val (.int (Int32.ofNat o)), .val (.int (Int32.ofNat len)), .val .null, .unset] [])) := entry rfl
  have c2 : Steps p.tables e below (s₁.setTop (entryFrame m #[.ref a, .ref b, .int (Int32.ofNat o), .int (Int32.ofNat len), .null] 6)) (s₁.setTop (mkF m 1 #[.val (.ref a), .val (.ref b), .val (.int (Int32.ofNat o)), .val (.int (Int32.ofNat len)), .val .null, .unset] [.ref a])) := c1.trans (by
    refine XS.aloadN X0.here hexec rfl (hb hbytes d0) rfl rfl ?_
    exact Steps.refl _)
  obtain ⟨T3, X3, q3, st3⟩ := X0.oinit hexec hown (wks W (objW "java/lang/String" 1)) (g := (mkF m 1 #[.val (.ref a), .val (.ref b), .val (.int (Int32.ofNat o)), .val (.int (Int32.ofNat len)), .val .null, .unset] [.ref a])) rfl (by rw [hml]; rfl) (rest := []) rfl (hb hbytes d1) (W := 0) (by show 2 * 0 + 0 ≤ _; decide) (Nat.le_of_ble_eq_true rfl) (Nat.le_of_ble_eq_true rfl)
  have hh3 := q3.trans hh0
  have c4 : Steps p.tables e below (s₁.setTop (entryFrame m #[.ref a, .ref b, .int (Int32.ofNat o), .int (Int32.ofNat len), .null] 6)) (T3.setTop (mkF m 27 #[.val (.ref a), .val (.ref b), .val (.int (Int32.ofNat o)), .val (.int (Int32.ofNat len)), .val .null, .unset] [])) := (c2.trans (st3 _ (Steps.refl _))).trans (by
    refine XS.iloadN X3.here hexec rfl (hb hbytes d4) rfl ?_
    refine XS.ifYes X3.here hexec rfl (pc0 := 5) rfl (hb hbytes d5) rfl (i0_ne_t (nz32 (by omega) l0)) (by decide) rfl ?_
    exact Steps.refl _)
  obtain ⟨T5, X5, q5, st5⟩ := X3.sget hexec hown (wk W (.fieldLink "java/lang/String" 38 "java/lang/String" "COMPACT_STRINGS" "Z")) s1 (fun _ _ h => by rw [hh3]; exact h) (g := (mkF m 27 #[.val (.ref a), .val (.ref b), .val (.int (Int32.ofNat o)), .val (.int (Int32.ofNat len)), .val .null, .unset] [])) rfl (hb hbytes d27)
  have hh5 := q5.trans hh3
  have c6 : Steps p.tables e below (s₁.setTop (entryFrame m #[.ref a, .ref b, .int (Int32.ofNat o), .int (Int32.ofNat len), .null] 6)) (T5.setTop (mkF m 30 #[.val (.ref a), .val (.ref b), .val (.int (Int32.ofNat o)), .val (.int (Int32.ofNat len)), .val .null, .unset] [.int z])) := c4.trans (st5 _ (Steps.refl _))
  have c7 : Steps p.tables e below (s₁.setTop (entryFrame m #[.ref a, .ref b, .int (Int32.ofNat o), .int (Int32.ofNat len), .null] 6)) (T5.setTop (mkF m 36 #[.val (.ref a), .val (.ref b), .val (.int (Int32.ofNat o)), .val (.int (Int32.ofNat len)), .val .null, .unset] [.int (Int32.ofNat len), .int (Int32.ofNat o), .ref b])) := c6.trans (by
    refine XS.ifNo X5.here hexec rfl (hb hbytes d30) rfl (i0_eq_f hz) ?_
    refine XS.aloadN X5.here hexec rfl (hb hbytes d33) rfl rfl ?_
    refine XS.iloadN X5.here hexec rfl (hb hbytes d34) rfl ?_
    refine XS.iloadN X5.here hexec rfl (hb hbytes d35) rfl ?_
    exact Steps.refl _)
  obtain ⟨v8, T8, X8, E8, g8⟩ := X5.callS hexec (Cmp3.law l b A o len) hown (wks W (staticW "java/lang/String" 177 Cmp3.yN)) (wk W Cmp3.tab) (W := 0) (Nat.le_of_ble_eq_true rfl) (Nat.le_of_ble_eq_true rfl) (Nat.le_refl _) (by show 0 + len ≤ len; omega) (g := (mkF m 36 #[.val (.ref a), .val (.ref b), .val (.int (Int32.ofNat o)), .val (.int (Int32.ofNat len)), .val .null, .unset] [.int (Int32.ofNat len), .int (Int32.ofNat o), .ref b])) rfl (by rw [hml]; rfl) c7 (argsL := [.ref b, .int (Int32.ofNat o), .int (Int32.ofNat len)]) (rest := []) rfl rfl (by show 2 * 0 + 0 ≤ _; decide) (hb hbytes d36) (⟨rfl, hA.mv X5.warmed.alike hh5, l1, l2, hp⟩)
  obtain ⟨e8, z8⟩ := E8
  obtain ⟨rfl, N, n1, n2, n3, n4, n5, n6⟩ := NewArr.mv _ T5 s _ _ hh5.symm (Vm.Alike.refl _) rfl e8
  rw [hh5] at z8
  have hB1 := hB.keep X8.warmed.alike (n6 _ _ hB.1)
  have hne : s.heap.size ≠ a := (Nat.ne_of_lt (Array.getElem?_eq_some_iff.mp hB.1).1).symm
  have c9 : Steps p.tables e below (s₁.setTop (entryFrame m #[.ref a, .ref b, .int (Int32.ofNat o), .int (Int32.ofNat len), .null] 6)) (T8.setTop (mkF m 39 #[.val (.ref a), .val (.ref b), .val (.int (Int32.ofNat o)), .val (.int (Int32.ofNat len)), .val .null, .unset] [.ref s.heap.size])) := g8
  have c10 : Steps p.tables e below (s₁.setTop (entryFrame m #[.ref a, .ref b, .int (Int32.ofNat o), .int (Int32.ofNat len), .null] 6)) (T8.setTop (mkF m 45 #[.val (.ref a), .val (.ref b), .val (.int (Int32.ofNat o)), .val (.int (Int32.ofNat len)), .val .null, .val (.ref s.heap.size)] [.int (Int32.ofNat N.slots.size), .ref s.heap.size, .ref a])) := by
    have hc : Steps p.tables e below (s₁.setTop (entryFrame m #[.ref a, .ref b, .int (Int32.ofNat o), .int (Int32.ofNat len), .null] 6)) (T8.setTop (mkF m 45 #[.val (.ref a), .val (.ref b), .val (.int (Int32.ofNat o)), .val (.int (Int32.ofNat len)), .val .null, .val (.ref s.heap.size)] [.int (Int32.ofNat len), .ref s.heap.size, .ref a])) := c9.trans (by
      refine XS.astore X8.here hexec rfl (hb hbytes d39) rfl rfl rfl ?_
      refine XS.aloadN X8.here hexec rfl (hb hbytes d41) rfl rfl ?_
      refine XS.aload X8.here hexec rfl (hb hbytes d42) rfl rfl ?_
      refine XS.iloadN X8.here hexec rfl (hb hbytes d44) rfl ?_
      exact Steps.refl _)
    rw [n4]; exact hc
  obtain ⟨v11, T11, X11, E11, g11⟩ := X8.callS hexec (CodL.law l s.heap.size N) hown (wks W (staticW "java/lang/String" 47 CodL.yN)) (wk W CodL.tab) (W := 1) (Nat.le_of_ble_eq_true rfl) (Nat.le_of_ble_eq_true rfl) (Nat.le_refl _) (by show 0 + len + 0 ≤ len; omega) (g := (mkF m 45 #[.val (.ref a), .val (.ref b), .val (.int (Int32.ofNat o)), .val (.int (Int32.ofNat len)), .val .null, .val (.ref s.heap.size)] [.int (Int32.ofNat N.slots.size), .ref s.heap.size, .ref a])) rfl (by rw [hml]; rfl) c10 (argsL := [.ref s.heap.size, .int (Int32.ofNat N.slots.size)]) (rest := [.ref a]) rfl rfl (by show 2 * 0 + (1 + 0) ≤ _; decide) (hb hbytes d45) (⟨rfl, n1⟩)
  obtain ⟨rfl, q11⟩ := E11
  have hB11 := hB1.mv (X8.warmed.alike.symm.trans X11.warmed.alike) q11
  have c12 : Steps p.tables e below (s₁.setTop (entryFrame m #[.ref a, .ref b, .int (Int32.ofNat o), .int (Int32.ofNat len), .null] 6)) (T11.setTop (mkF m 48 #[.val (.ref a), .val (.ref b), .val (.int (Int32.ofNat o)), .val (.int (Int32.ofNat len)), .val .null, .val (.ref s.heap.size)] [.int 0, .ref a])) := g11
  obtain ⟨T13, X13, p13, bl13, sl13, st13⟩ := X11.finit hexec hown (wk W (.fieldLink "java/lang/String" 15 "java/lang/String" "coder" "B")) (Or.inr ⟨_, (wk W (.laysFinal "java/lang/String" "java/lang/String" "coder" "B"))⟩) (Or.inl ⟨rfl, hnm⟩) f2 (Or.inl rfl) hB11 (t := .byte) (by decide +kernel) rfl (g := (mkF m 48 #[.val (.ref a), .val (.ref b), .val (.int (Int32.ofNat o)), .val (.int (Int32.ofNat len)), .val .null, .val (.ref s.heap.size)] [.int 0, .ref a])) rfl (rest := []) rfl (hb hbytes d48)
  have c14 : Steps p.tables e below (s₁.setTop (entryFrame m #[.ref a, .ref b, .int (Int32.ofNat o), .int (Int32.ofNat len), .null] 6)) (T13.setTop (mkF m 54 #[.val (.ref a), .val (.ref b), .val (.int (Int32.ofNat o)), .val (.int (Int32.ofNat len)), .val .null, .val (.ref s.heap.size)] [.ref s.heap.size, .ref a])) := (c12.trans (st13 _ (Steps.refl _))).trans (by
    refine XS.aloadN X13.here hexec rfl (hb hbytes d51) rfl rfl ?_
    refine XS.aload X13.here hexec rfl (hb hbytes d52) rfl rfl ?_
    exact Steps.refl _)
  obtain ⟨T15, X15, p15, bl15, sl15, st15⟩ := X13.finit hexec hown (wk W (.fieldLink "java/lang/String" 9 "java/lang/String" "value" "[B")) (Or.inr ⟨_, (wk W (.laysFinal "java/lang/String" "java/lang/String" "value" "[B"))⟩) (Or.inl ⟨rfl, hnm⟩) f1 (Or.inl rfl) bl13 (t := (.array .byte)) (by decide +kernel) rfl (g := (mkF m 54 #[.val (.ref a), .val (.ref b), .val (.int (Int32.ofNat o)), .val (.int (Int32.ofNat len)), .val .null, .val (.ref s.heap.size)] [.ref s.heap.size, .ref a])) rfl (rest := []) rfl (hb hbytes d54)
  have c16 : Steps p.tables e below (s₁.setTop (entryFrame m #[.ref a, .ref b, .int (Int32.ofNat o), .int (Int32.ofNat len), .null] 6)) (T15.setTop (mkF m 57 #[.val (.ref a), .val (.ref b), .val (.int (Int32.ofNat o)), .val (.int (Int32.ofNat len)), .val .null, .val (.ref s.heap.size)] [])) := c14.trans (st15 _ (Steps.refl _))
  have ap := apart (Or.inr ⟨_, (wk W (.laysFinal "java/lang/String" "java/lang/String" "value" "[B"))⟩) (Or.inr ⟨_, (wk W (.laysFinal "java/lang/String" "java/lang/String" "coder" "B"))⟩) f1 f2 (t₁ := .array .byte) (t₂ := .byte) (by decide +kernel) (by decide +kernel) (by decide)
  have al := X8.warmed.alike.symm.trans X15.warmed.alike
  have n7 : T11.heap[s.heap.size]? = some N := by rw [q11]; exact n1.1
  exact ⟨T15, none, _, _, _, X15, by simp, rfl, by omega, (fun _ => rfl), ⟨rfl, _, N, bl15, ((Same.refl D _).set _ (by simp)).set _ (by simp), sl15, (Cell.slots_setSlot_ne _ ap).trans sl13, n1.keep al (p15.other hne (p13.other hne n7)), n2, by rw [al.findClass]; exact n3, n4, n5, fun y c h1 h2 => p15.other h1 (p13.other h1 (by rw [q11]; exact n6 y c h2)), by rw [p15.2.2, p13.2.2, q11]; exact z8⟩, fun fs hl => c16.trans (X15.returnOut hexec hret (hb hbytes d57) hl)⟩
end New4
namespace New1
def yN : MethodName := ⟨"java/lang/String", "<init>", "([C)V"⟩
abbrev yB : ByteArray := jdk_42_method_3_code
theorem d0 : decode yB 0 = .ok (.aload_n 0, 1) := by decide +kernel
theorem d1 : decode yB 1 = .ok (.aload_n 1, 1) := by decide +kernel
theorem d2 : decode yB 2 = .ok (.iconst 0, 1) := by decide +kernel
theorem d3 : decode yB 3 = .ok (.aload_n 1, 1) := by decide +kernel
theorem d4 : decode yB 4 = .ok (.arraylength, 1) := by decide +kernel
theorem d5 : decode yB 5 = .ok (.aconst_null, 1) := by decide +kernel
theorem d6 : decode yB 6 = .ok (.invokespecial 27, 3) := by decide +kernel
theorem d9 : decode yB 9 = .ok (.return_, 1) := by decide +kernel
def site : List Cond := [New4.tab] ++ initW "java/lang/String" 27 New4.yN
def tab : Cond := tabOf yN yB 2 none site
def P (a : Addr) (D : Cell) (fV fC : Field) (b : Addr) (A : Cell) (z : Int32) (args : Array Value) (s : State) : Prop := args = #[.ref a, .ref b] ∧ Blank "java/lang/String" a D s ∧ Found "java/lang/String" "value" "[B" fV s ∧ Found "java/lang/String" "coder" "B" fC s ∧ Ch b A s ∧ StaticIs s "java/lang/String" "COMPACT_STRINGS" "Z" (.int z) ∧ ¬ z = 0 ∧ 0 < A.slots.size ∧ A.slots.size ≤ 536870912 ∧ ∀ i, i < A.slots.size → ¬ 255 < cv A i
def E (a : Addr) (D : Cell) (fV fC : Field) (A : Cell) (r : Option Value) (s u : State) : Prop := Got a D fV fC A 0 A.slots.size r s u
/-- new String(chars), not empty, no char above 255: a Latin-1 String of their low bytes -/
theorem law (l : Launch) (a : Addr) (D : Cell) (fV fC : Field) (b : Addr) (A : Cell) (z : Int32) : Law l yN 2 1 3 52 yB 2 none site (P a D fV fC b A z) (E a D fV fC A) [⟨a, fC.slot⟩, ⟨a, fV.slot⟩] 1 A.slots.size := by
  refine Law.of_walk (plainFor_of_name (by decide +kernel)) (by decide +kernel) (by decide +kernel) (by decide) (fun _ _ h => by rw [h.1]; rfl) (fun _ U U' hal hh h => ⟨h.1, h.2.1.mv hal hh, h.2.2.1.al hal, h.2.2.2.1.al hal, h.2.2.2.2.1.mv hal hh, h.2.2.2.2.2.1.there hal hh, h.2.2.2.2.2.2⟩) (fun r U U' V V' h1 hal h2 h => Got.mv r U U' V V' h1 hal h2 h) ?_
  intro p e s m args below meth c s₁ X0 hexec hbytes hml hret hlk hnm hown hh0 W hP
  obtain ⟨rfl, hB, f1, f2, hA, s1, hz, l0, l2, hp⟩ := hP
  have c1 : Steps p.tables e below (s₁.setTop (entryFrame m #[.ref a, .ref b] 2)) (s₁.setTop (mkF m 0 #[.val (.ref a), .val (.ref b)] [])) := entry rfl
  have c2 : Steps p.tables e below (s₁.setTop (entryFrame m #[.ref a, .ref b] 2)) (s₁.setTop (mkF m 6 #[.val (.ref a), .val (.ref b)] [.null, .int (Int32.ofNat A.slots.size), .int 0, .ref b, .ref a])) := c1.trans (by
    refine XS.aloadN X0.here hexec rfl (hb hbytes d0) rfl rfl ?_
    refine XS.aloadN X0.here hexec rfl (hb hbytes d1) rfl rfl ?_
    refine iconstV X0.here hexec rfl 0 (hb hbytes d2) (by decide) ?_
    refine XS.aloadN X0.here hexec rfl (hb hbytes d3) rfl rfl ?_
    refine X0.alen hexec (hA.1.mv X0.warmed.alike hh0) rfl rfl (hb hbytes d4) ?_
    refine XS.aconstNull X0.here hexec rfl (hb hbytes d5) ?_
    exact Steps.refl _)
  obtain ⟨v3, T3, X3, E3, g3⟩ := X0.callN hexec (New4.law l a D fV fC b A z 0 A.slots.size) rfl hown (wks W (initW "java/lang/String" 27 New4.yN)) (W New4.tab (by simp only [site, List.mem_cons, List.mem_append, true_or, or_true])) (W := 0) (Nat.le_of_ble_eq_true rfl) (Nat.le_of_ble_eq_true rfl) (Nat.le_refl _) (by show 0 + A.slots.size ≤ A.slots.size; omega) (g := (mkF m 6 #[.val (.ref a), .val (.ref b)] [.null, .int (Int32.ofNat A.slots.size), .int (Int32.ofNat 0), .ref b, .ref a])) rfl (by rw [hml]; rfl) c2 (argsL := [.ref b, .int (Int32.ofNat 0), .int (Int32.ofNat A.slots.size), .null]) (rest := []) rfl rfl (by show 2 * 0 + 0 ≤ _; decide) (hb hbytes d6) (⟨rfl, hB.mv X0.warmed.alike hh0, f1.al X0.warmed.alike, f2.al X0.warmed.alike, hA.mv X0.warmed.alike hh0, s1.there X0.warmed.alike hh0, hz, l0, by omega, l2, fun i hi => by rw [Nat.zero_add]; exact hp i hi⟩)
  have e0 := Got.mv _ s₁ s _ _ hh0.symm (Vm.Alike.refl _) rfl E3
  obtain rfl := e0.1
  have c4 : Steps p.tables e below (s₁.setTop (entryFrame m #[.ref a, .ref b] 2)) (T3.setTop (mkF m 9 #[.val (.ref a), .val (.ref b)] [])) := g3
  exact ⟨T3, none, _, _, _, X3, by simp, rfl, by omega, (fun _ => rfl), e0, fun fs hl => c4.trans (X3.returnOut hexec hret (hb hbytes d9) hl)⟩
theorem pays {l : Launch} {R : Room} {p : Program} {e : Env} {below : List Frame} {s : State} {sargs : Array Value} {len W : Nat} (a : Addr) (D : Cell) (fV fC : Field) (b : Addr) (A : Cell) (z : Int32) (htab : tab.before sargs s = true) (hfr : 4 ≤ R.frames) (hlo : W + 65 ≤ R.locals) :
    Back l R p e below s sargs yN len W (fun A₁ a₁ => A₁.cells + 1 ≤ R.cells ∧ A₁.slots + A.slots.size ≤ R.slots ∧ P a D fV fC b A z a₁ A₁.U) (fun A₁ _ v₁ B₁ => E a D fV fC A v₁ A₁.U B₁.U ∧ B₁.locs = A₁.locs ++ [⟨a, fC.slot⟩, ⟨a, fV.slot⟩] ∧ B₁.cells = A₁.cells + 1 ∧ B₁.slots = A₁.slots + A.slots.size) :=
  (law l a D fV fC b A z).pays htab hfr (by omega)
end New1
end StrChars
namespace StrChars.Road
open Jvm Sem ClassFile Op Lib Jvm.Stand Jvm.Free Jvm.Free.XT
open Jvm.Lib.Cold (StaticIs)
abbrev ST : String := "java/lang/String"
/-- every table word that New1's law asks, flat -/
abbrev words : List Jvm.Cond := [.code New1.yN New1.yB 2 none, .initialized ST, .methodLink ST 27 New4.yN, .instanceMethod New4.yN,
  .code New4.yN New4.yB 6 none, .fieldLink ST 38 ST "COMPACT_STRINGS" "Z", .laysFinal ST ST "value" "[B", .fieldLink ST 9 ST "value" "[B", .laysFinal ST ST "coder" "B", .fieldLink ST 15 ST "coder" "B",
  .methodLink ST 1 Lib.objectInit, .instanceMethod Lib.objectInit, .code Lib.objectInit ⟨#[0xb1]⟩ 1 none, .methodLink ST 177 Cmp3.yN, .static Cmp3.yN, .methodLink ST 47 CodL.yN, .static CodL.yN,
  .code Cmp3.yN Cmp3.yB 6 (some (.array .byte)), .initialized U16, .arrayClass .byte, .methodLink U16 115 Cmp5.yN, .static Cmp5.yN, .code Cmp5.yN Cmp5.yB 7 (some .int), .code CodL.yN CodL.yB 2 (some .byte)]
theorem tab_of {a : Array Value} {s : State} (h : ∀ w ∈ words, w.before a s = true) : New1.tab.before a s = true := by
  have h5 : Cmp5.tab.before a s = true := unparts (wk h (.code Cmp5.yN Cmp5.yB 7 (some .int))) (wks h (.initialized Cmp5.yN.cls :: Cmp5.site))
  have hc : CodL.tab.before a s = true := unparts (wk h (.code CodL.yN CodL.yB 2 (some .byte))) (wks h (.initialized CodL.yN.cls :: CodL.site))
  have q5 : ∀ w ∈ Cmp5.tab :: words, w.before a s = true := fun w hw => (List.mem_cons.mp hw).elim (fun e => e ▸ h5) (h w)
  have h3 : Cmp3.tab.before a s = true := unparts (wk q5 (.code Cmp3.yN Cmp3.yB 6 (some (.array .byte)))) (wks q5 (.initialized Cmp3.yN.cls :: Cmp3.site))
  have q3 : ∀ w ∈ Cmp3.tab :: CodL.tab :: words, w.before a s = true := fun w hw => (List.mem_cons.mp hw).elim (fun e => e ▸ h3) fun hw => (List.mem_cons.mp hw).elim (fun e => e ▸ hc) (h w)
  have h4 : New4.tab.before a s = true := unparts (wk q3 (.code New4.yN New4.yB 6 none)) (wks q3 (.initialized New4.yN.cls :: New4.site))
  have q4 : ∀ w ∈ New4.tab :: words, w.before a s = true := fun w hw => (List.mem_cons.mp hw).elim (fun e => e ▸ h4) (h w)
  exact unparts (wk q4 (.code New1.yN New1.yB 2 none)) (wks q4 (.initialized New1.yN.cls :: New1.site))
/-- the words ride from the start Z to the walk's own state -/
theorem moved {Z s : State} {a0 args : Array Value} (hZ : Z.Warmed39 s.vm) (hw : ∀ d ∈ words, d.before a0 Z = true) : ∀ d ∈ words, d.before args s = true := fun d hd => by
  have q := hw d hd
  have t : ∀ d ∈ words, d = .arrayClass .byte ∨ (d.onTables && d.keepsFace) = true := by decide +kernel
  rcases t d hd with rfl | t
  · exact RoadKit.mvA hZ q
  · exact RoadKit.mv hZ q t
/-- WHAT COMES BACK, over the tables of the start Z: h the heap at the call, h' behind it -/
def Q (Z : State) (x : Addr) (A : Cell) (h : Heap) (v : Option Value) (h' : Heap) (L : List Loc) : Prop := v = none ∧ (∀ y ∈ L, y.base = x) ∧ RoadKit.Keep h h' [x] ∧ h'.size = h.size + 1 ∧ RoadKit.Exa Z h' x ST ∧ RoadKit.Fld Z h' x ST "value" "[B" (.ref h.size) ∧ RoadKit.Fld Z h' x ST "coder" "B" (.int 0) ∧
  (∃ V : Cell, RoadKit.Arr Z h' h.size V .byte ∧ V.vm = .none ∧ Z.vm.findClass "[B" = some V.cls ∧ V.slots.size = A.slots.size ∧ ∀ j, j < A.slots.size → V.slots[j]? = some (.int (lo8 (cv A j)))) ∧
  ∀ (O n d : String) (w : Value), RoadKit.Fld Z h x O n d w → RoadKit.slotOf Z O n d ≠ RoadKit.slotOf Z ST "value" "[B" → RoadKit.slotOf Z O n d ≠ RoadKit.slotOf Z ST "coder" "B" → RoadKit.Fld Z h' x O n d w
/-- **new String(chars) AT A CALL, IN THE ROAD'S FORM**: for specialBack behind newO: x the fresh String, b the char[] with the cell A -/
theorem back {p : Program} {l : Launch} {e : Env} {R : Room} {s : State} {args : Array Value} {below : List Frame} {len W : Nat} {Z : State} {a0 : Array Value} {h : Heap} (hZ : Z.Warmed39 s.vm) (hw : ∀ d ∈ words, d.before a0 Z = true) {kI : Nat} (wi : (Jvm.Cond.instantiable ST kI).before a0 Z = true)
    {x b : Addr} {A : Cell} {z : Int32} {v0 c0 : Value} (E : RoadKit.Exa Z h x ST) (V : RoadKit.Fld Z h x ST "value" "[B" v0) (C : RoadKit.Fld Z h x ST "coder" "B" c0) (K : RoadKit.Arr Z h b A .char) (hty : Typed .char A) (S : RoadKit.Sta Z h ST "COMPACT_STRINGS" "Z" (.int z)) (hz : ¬ z = 0)
    (l0 : 0 < A.slots.size) (l2 : A.slots.size ≤ 536870912) (hp : ∀ i, i < A.slots.size → ¬ 255 < cv A i) (hfr : 4 ≤ R.frames) (hlo : W + 65 ≤ R.locals) :
    Back l R p e below s args New1.yN len W (fun P a => a = #[.ref x, .ref b] ∧ P.U.heap = h ∧ P.cells + 1 ≤ R.cells ∧ P.slots + A.slots.size ≤ R.slots)
      (fun P _ v B => ∃ L, Q Z x A h v B.U.heap L ∧ B.locs = P.locs ++ L ∧ B.cells = P.cells + 1 ∧ B.slots = P.slots + A.slots.size) := by
  intro m meth c P g ig mk a X hg hsize hdg hW hn hp'
  obtain ⟨rfl, rfl, r1, r2⟩ := hp'
  have al : Z.vm.Alike P.U.vm := hZ.alike.trans X.warmed.alike
  obtain ⟨D, cfV, kV, iV, fV, hD, gV, stV, knV, obV, asV, slV⟩ := id V
  obtain ⟨D', cfC, kC, iC, fC, hD', gC, stC, -, -, asC, slC⟩ := id C
  cases hD.symm.trans hD'
  obtain ⟨D2, kD, e1, e2, e3, e4, e5⟩ := id E
  cases hD.symm.trans e1
  obtain ⟨c2, k2, i1, i2, i3, -⟩ := Cond.instantiable_spec wi
  cases e2.symm.trans i1
  cases e3.symm.trans i2
  obtain ⟨kU, u1, u2⟩ := al.2.2 _ _ e3
  have hB : Blank ST x D P.U := ⟨hD, ⟨knV, fun q hq => by rw [hq] at obV; cases obV⟩, by rw [al.findClass]; exact e2, kU, u1, by rw [u2]; exact i3, by rw [u2]; exact e5 i3⟩
  have F1 : Found ST "value" "[B" fV P.U := ⟨SBG.found_only al ⟨cfV, kV, iV, gV⟩, stV⟩
  have F2 : Found ST "coder" "B" fC P.U := ⟨SBG.found_only al ⟨cfC, kC, iC, gC⟩, stC⟩
  have hA : Ch b A P.U := ⟨⟨K.1, State.isArrayOf_alike al K.2.1, K.2.2, by omega⟩, hty⟩
  have hS : StaticIs P.U ST "COMPACT_STRINGS" "Z" (.int z) := by
    obtain ⟨cfS, iS, kS, fS, st, cS, t1, t2, t3, t4, t5, t6, t7⟩ := S
    exact StaticIs.there (s := { Z with heap := P.U.heap }) ⟨cfS, iS, kS, fS, st, cS, t1, t2, t3, t4, t5, (fun q => by rw [q] at t6; cases t6), t7⟩ al rfl
  obtain ⟨v, B, X', ⟨⟨hv, E', V', q1, q2, q3, q4, q5, q6, q7, q8, q9, q10, q11⟩, hl, hc, hs⟩, st⟩ := New1.pays x D fV fC b A z (tab_of (moved hZ hw)) hfr hlo m meth c P g ig mk _ X hg hsize hdg hW hn ⟨r1, r2, rfl, hB, F1, F2, hA, hS, hz, l0, l2, hp⟩
  have al' : Z.vm.Alike B.U.vm := hZ.alike.trans X'.warmed.alike
  have hsz : E'.slots.size = D.slots.size := by
    obtain ⟨-, -, -, kB, w1, w2, w3⟩ := q1
    obtain ⟨kB', y1, y2⟩ := al'.2.2 _ _ e3
    rw [q2.2.1] at w1
    cases w1.symm.trans y1
    rw [w3, e5 i3, y2]
  refine ⟨v, B, X', ⟨_, ⟨hv, ?_, ⟨by omega, fun y cy hy hn' => q10 y cy (by simpa using hn') hy, fun y cy hy => ?_⟩, q11, ⟨E', _, q1.1, by rw [q2.2.1]; exact e2, by rw [q2.2.1]; exact e3, by rw [q2.1]; exact obV, fun _ => by rw [hsz]; exact e5 i3⟩,
    ⟨E', cfV, kV, iV, fV, q1.1, gV, stV, by rw [q2.1]; exact knV, by rw [q2.1]; exact obV, by rw [q2.2.1]; exact asV, q3⟩, ⟨E', cfC, kC, iC, fC, q1.1, gC, stC, by rw [q2.1]; exact knV, by rw [q2.1]; exact obV, by rw [q2.2.1]; exact asC, q4⟩,
    ⟨V', ⟨q5.1, State.isArrayOf_alike al'.symm q5.2.1, q5.2.2.1⟩, q6, by rw [← al'.findClass]; exact q7, q8, fun j hj => by have := q9 j hj; rwa [Nat.zero_add] at this⟩, fun O n d w F n1 n2 => ?_⟩, hl, hc, hs⟩, st⟩
  · intro y hy
    simp only [List.mem_cons, List.not_mem_nil, or_false] at hy
    rcases hy with rfl | rfl <;> rfl
  · by_cases q : y = x
    · subst q
      cases hD.symm.trans hy
      exact ⟨E', q1.1, q2.2.1, q2.1, hsz⟩
    · exact ⟨cy, q10 y cy q hy, rfl, rfl, rfl⟩
  · obtain ⟨D3, cf, k, i, f, g1, g2, g3, g4, g5, g6, g7⟩ := F
    cases hD.symm.trans g1
    simp only [RoadKit.slotOf, g2, gV, gC, Option.map_some, Option.getD_some] at n1 n2
    exact ⟨E', cf, k, i, f, q1.1, g2, g3, by rw [q2.1]; exact g4, by rw [q2.1]; exact g5, by rw [q2.2.1]; exact g6, by rw [q2.2.2 f.slot (by simp [n1, n2])]; exact g7⟩
end StrChars.Road
namespace StrChars.Road
open Jvm Sem ClassFile Op Lib Jvm.Stand Jvm.Free Jvm.Free.XT
/-- WHAT COMES BACK, the byte[] as a list of values -/
def QA (Z : State) (x : Addr) (zn : Int32) (cs : List Int32) (h : Heap) (v : Option Value) (h' : Heap) (L : List Loc) : Prop := v = none ∧ (∀ y ∈ L, y.base = x) ∧ RoadKit.Keep h h' [x] ∧ h'.size = h.size + 1 ∧ RoadKit.Exa Z h' x ST ∧ RoadKit.Fld Z h' x ST "value" "[B" (.ref h.size) ∧ RoadKit.Fld Z h' x ST "coder" "B" (.int 0) ∧
  (∃ kb, Z.vm.findClass "[B" = some kb ∧ RoadKit.Arv Z h' h.size kb .byte zn (cs.map fun c => .int (lo8 c)) (.int 0)) ∧
  ∀ (O n d : String) (w : Value), RoadKit.Fld Z h x O n d w → RoadKit.slotOf Z O n d ≠ RoadKit.slotOf Z ST "value" "[B" → RoadKit.slotOf Z O n d ≠ RoadKit.slotOf Z ST "coder" "B" → RoadKit.Fld Z h' x O n d w
/-- **new String(chars) AT A CALL, THE ARRAYS AS LISTS**: the char[] at b holds cs, not empty, no char above 255 -/
theorem backArv {p : Program} {l : Launch} {e : Env} {R : Room} {s : State} {args : Array Value} {below : List Frame} {len W : Nat} {Z : State} {a0 : Array Value} {h : Heap} (hZ : Z.Warmed39 s.vm) (hw : ∀ d ∈ words, d.before a0 Z = true) {kI : Nat} (wi : (Jvm.Cond.instantiable ST kI).before a0 Z = true)
    {x b : Addr} {k : ClassId} {zn z : Int32} {cs : List Int32} {dv v0 c0 : Value} (E : RoadKit.Exa Z h x ST) (V : RoadKit.Fld Z h x ST "value" "[B" v0) (C : RoadKit.Fld Z h x ST "coder" "B" c0) (K : RoadKit.Arv Z h b k .char zn (cs.map Value.int) dv) (S : RoadKit.Sta Z h ST "COMPACT_STRINGS" "Z" (.int z)) (hz : ¬ z = 0)
    (hlen : zn.toNatClampNeg = cs.length) (h0 : 0 < cs.length) (hbig : cs.length ≤ 536870912) (hall : ∀ c ∈ cs, ¬ 255 < c) (hfr : 4 ≤ R.frames) (hlo : W + 65 ≤ R.locals) :
    Back l R p e below s args New1.yN len W (fun P a => a = #[.ref x, .ref b] ∧ P.U.heap = h ∧ P.cells + 1 ≤ R.cells ∧ P.slots + cs.length ≤ R.slots)
      (fun P _ v B => ∃ L, QA Z x zn cs h v B.U.heap L ∧ B.locs = P.locs ++ L ∧ B.cells = P.cells + 1 ∧ B.slots = P.slots + cs.length) := by
  obtain ⟨A, K1, K2, K3, K4, K5, K6⟩ := K
  have e : A.slots.size = cs.length := K3.trans hlen
  have hat : ∀ (i : Nat) (hi : i < cs.length), A.slots[i]? = some (.int cs[i]) := fun i hi => by rw [K5 i (by omega)]; simp [List.getD_eq_getElem?_getD, hi]
  have hcv : ∀ (i : Nat) (hi : i < cs.length), cv A i = cs[i] := fun i hi => by unfold cv; rw [hat i hi]
  have hty : Typed .char A := fun i v hv => by
    have hi : i < A.slots.size := (Array.getElem?_eq_some_iff.mp hv).1
    have q := K5 i hi
    rw [hv] at q
    rw [Option.some.inj q]
    exact K6 i hi
  refine Back.mono (back hZ hw wi E V C K1 hty S hz (by omega) (by omega) (fun i hi => by rw [hcv i (by omega)]; exact hall _ (List.getElem_mem _)) hfr hlo) (fun P a hp => ⟨hp.1, hp.2.1, hp.2.2.1, by rw [e]; exact hp.2.2.2⟩) (fun P a v B hp hq => ?_)
  obtain ⟨L, ⟨q1, q2, q3, q4, q5, q6, q7, ⟨V', v1, v2, v3, v4, v5⟩, q9⟩, hl, hc, hs⟩ := hq
  refine ⟨L, ⟨q1, q2, q3, q4, q5, q6, q7, ⟨V'.cls, v3, V', v1, rfl, by rw [v4, e, hlen], K4, fun i hi => ?_, fun i hi => ?_⟩, q9⟩, hl, hc, by rw [hs, e]⟩
  · have hi' : i < cs.length := by omega
    rw [v5 i (by omega), hcv i hi']; simp [List.getD_eq_getElem?_getD, hi']
  · have hi' : i < cs.length := by omega
    simp only [List.getD_eq_getElem?_getD, List.getElem?_map, List.getElem?_eq_getElem hi', Option.map_some, Option.getD_some]
    exact fits_lo8 _
end StrChars.Road
namespace StrChars.Road
open Jvm Sem ClassFile Op Lib Jvm.Stand Jvm.Free Jvm.Free.XT
/-- WHAT COMES BACK, in the writer's own shape -/
def QV (Z : State) (x : Addr) (N : Int32) (bs : List Int32) (h : Heap) (n0 : Nat) (v : Option Value) (h' : Heap) (L : List Loc) : Prop := v = none ∧ RoadKit.Fr n0 L ∧ RoadKit.Keep h h' [x] ∧ RoadKit.Exa Z h' x ST ∧ RoadKit.Fld Z h' x ST "coder" "B" (.int 0) ∧
  ∃ (t : Addr) (kb : ClassId), n0 ≤ t ∧ h.size ≤ t ∧ ¬ t = x ∧ RoadKit.Fld Z h' x ST "value" "[B" (.ref t) ∧ RoadKit.Arv Z h' t kb .byte N (bs.map Value.int) (.int 0)
/-- **new String(chars) AT A CALL, FOR THE WRITER**: a char[] of n known ints, each 0 to 255 -/
theorem backV {p : Program} {l : Launch} {e : Env} {R : Room} {s : State} {args : Array Value} {below : List Frame} {len W : Nat} {Z : State} {a0 : Array Value} {h : Heap} (hZ : Z.Warmed39 s.vm) (hw : ∀ d ∈ words, d.before a0 Z = true) {kI : Nat} (wi : (Jvm.Cond.instantiable ST kI).before a0 Z = true)
    {x b : Addr} {kC : ClassId} {cs bs : List Int32} {d v0 c0 : Value} {z N : Int32} {n n0 : Nat} (hx0 : n0 ≤ x) (hh0 : n0 ≤ h.size) (E : RoadKit.Exa Z h x ST) (V : RoadKit.Fld Z h x ST "value" "[B" v0) (C : RoadKit.Fld Z h x ST "coder" "B" c0) (K : RoadKit.Arv Z h b kC .char N (cs.map Value.int) d) (S : RoadKit.Sta Z h ST "COMPACT_STRINGS" "Z" (.int z)) (hz : ¬ z = 0)
    (hn : cs.length = n) (hN : N = Int32.ofNat n) (l0 : 0 < n) (l2 : n ≤ 4000) (hp : ∀ c ∈ cs, ¬ c < 0 ∧ ¬ (255 : Int32) < c) (hb : bs = cs.map (fun c => c.toInt8.toInt32)) (hfr : 4 ≤ R.frames) (hlo : W + 65 ≤ R.locals) :
    Back l R p e below s args (⟨"java/lang/String", "<init>", "([C)V"⟩ : MethodName) len W (fun P a => a = #[.ref x, .ref b] ∧ P.U.heap = h ∧ P.cells + 1 ≤ R.cells ∧ P.slots + n ≤ R.slots)
      (fun P _ v B => ∃ L, QV Z x N bs h n0 v B.U.heap L ∧ B.locs = P.locs ++ L ∧ B.cells = P.cells + 1 ∧ B.slots = P.slots + n) := by
  subst hn hN hb
  refine Back.mono (backArv hZ hw wi E V C K S hz (n32 (by omega)) l0 (by omega) (fun c hc => (hp c hc).2) hfr hlo) (fun P a hp => hp) (fun P a v B hp hq => ?_)
  obtain ⟨L, ⟨q1, q2, q3, q4, q5, q6, q7, ⟨kb, v1, v2⟩, q9⟩, hl, hc, hs⟩ := hq
  exact ⟨L, ⟨q1, fun y hy => by rw [q2 y hy]; exact hx0, q3, q5, q7, h.size, kb, hh0, Nat.le_refl _, Nat.ne_of_gt E.lt, q6, by rw [List.map_map]; exact v2⟩, hl, hc, hs⟩
end StrChars.Road
namespace StrChars
open Jvm Sem ClassFile Op Lib Jvm.Stand Jvm.Free.XT Jvm.Free.ALB Jvm.Free.JM Jvm.Free
open Jvm.Lib.Cold (StaticIs)
def hi8 (x : Int32) : Int32 := lo8 (x >>> ((8 : Int32) &&& 31))
end StrChars
namespace StrChars
open Jvm Sem ClassFile Op Lib Jvm.Stand Jvm.Free.XT Jvm.Free.ALB Jvm.Free.JM Jvm.Free
open Jvm.Lib.Cold (StaticIs)
/-- the array's cell V codes the n chars f 0 .. f (n - 1) by the coder cd, as the JDK does: coder 1 just where some char is above 255 -/
def Cod (cd : Int32) (n : Nat) (f : Nat → Int32) (V : Cell) : Prop := (cd = 0 ∧ V.slots.size = n ∧ ∀ j, j < n → V.slots[j]? = some (.int (lo8 (f j))) ∧ ¬ 255 < f j) ∨ (cd = 1 ∧ V.slots.size = 2 * n ∧ (∀ j, j < n → V.slots[2 * j]? = some (.int (lo8 (f j))) ∧ V.slots[2 * j + 1]? = some (.int (hi8 (f j)))) ∧ ∃ j, j < n ∧ 255 < f j)
/-- **x is a String of the n chars f 0 .. f (n - 1)**, Latin-1 or UTF-16; its array at t has the cell V -/
def Txt (x t : Addr) (V : Cell) (cd : Int32) (n : Nat) (f : Nat → Int32) (U : State) : Prop := Exact "java/lang/String" x U ∧ Has x "java/lang/String" "value" "[B" (.ref t) U ∧ Has x "java/lang/String" "coder" "B" (.int cd) U ∧ XT.Arr .byte t V U ∧ Cod cd n f V ∧ ∀ j, j < n → ¬ f j < 0 ∧ ¬ 65535 < f j
theorem Txt.mv {x t : Addr} {V : Cell} {cd : Int32} {n : Nat} {f : Nat → Int32} {U U' : State} (h : Txt x t V cd n f U) (hal : U.vm.Alike U'.vm) (hh : U'.heap = U.heap) : Txt x t V cd n f U' := ⟨h.1.mv hal hh, h.2.1.mv hal hh, h.2.2.1.mv hal hh, h.2.2.2.1.mv hal hh, h.2.2.2.2⟩
end StrChars
namespace StrChars.Road
open Jvm Sem ClassFile Op Lib Jvm.Stand Jvm.Free Jvm.Free.XT
open Jvm.Lib.Cold (StaticIs)
/-- the bytes of the chars cs, low before high -/
def wideBytes : List Int32 → List Value
  | [] => []
  | c :: cs => .int (lo8 c) :: .int (hi8 c) :: wideBytes cs
theorem wide_lo (d : Value) : ∀ (cs : List Int32) (j : Nat), j < cs.length → (wideBytes cs).getD (2 * j) d = .int (lo8 (cs.getD j 0))
  | [], j, h => absurd h (Nat.not_lt_zero j)
  | c :: cs, 0, _ => rfl
  | c :: cs, j + 1, h => by
    have q := wide_lo d cs j (by simpa using h)
    rw [show 2 * (j + 1) = 2 * j + 1 + 1 from by omega]
    simpa [wideBytes] using q
theorem wide_hi (d : Value) : ∀ (cs : List Int32) (j : Nat), j < cs.length → (wideBytes cs).getD (2 * j + 1) d = .int (hi8 (cs.getD j 0))
  | [], j, h => absurd h (Nat.not_lt_zero j)
  | c :: cs, 0, _ => rfl
  | c :: cs, j + 1, h => by
    have q := wide_hi d cs j (by simpa using h)
    rw [show 2 * (j + 1) + 1 = 2 * j + 1 + 1 + 1 from by omega]
    simpa [wideBytes] using q
theorem low_at (d : Value) (cs : List Int32) (j : Nat) (h : j < cs.length) : (cs.map fun c => Value.int (lo8 c)).getD j d = .int (lo8 (cs.getD j 0)) := by
  simp [List.getD_eq_getElem?_getD, h]
/-- an array of N2 bytes vs codes the chars cs by the coder cd -/
def CodA (cs : List Int32) (cd N2 : Int32) (vs : List Value) : Prop := (cd = 0 ∧ N2 = Int32.ofNat cs.length ∧ vs = (cs.map fun c => Value.int (lo8 c)) ∧ ∀ c ∈ cs, ¬ 255 < c) ∨ (cd = 1 ∧ N2 = Int32.ofNat (2 * cs.length) ∧ vs = wideBytes cs ∧ ∃ c ∈ cs, 255 < c)
theorem CodA.cod {cs : List Int32} {cd N2 : Int32} {vs : List Value} {V : Cell} (h : CodA cs cd N2 vs) (hn : 2 * cs.length < 2 ^ 31) (hs : V.slots.size = N2.toNatClampNeg) (hv : RoadKit.Has V vs (.int 0)) : Cod cd cs.length (fun j => cs.getD j 0) V := by
  rcases h with ⟨rfl, rfl, rfl, h⟩ | ⟨rfl, rfl, rfl, c, hc, hw⟩
  · rw [n32 (by omega)] at hs
    exact Or.inl ⟨rfl, hs, fun j hj => ⟨by rw [hv j (by omega), low_at _ _ _ hj], by
      have e : cs.getD j 0 = cs[j] := by simp [List.getD_eq_getElem?_getD, hj]
      show ¬ 255 < cs.getD j 0
      rw [e]; exact h _ (List.getElem_mem _)⟩⟩
  · rw [n32 (by omega)] at hs
    obtain ⟨j, hj, rfl⟩ := List.getElem_of_mem hc
    exact Or.inr ⟨rfl, hs, fun j hj => ⟨by rw [hv _ (by omega), wide_lo _ _ _ hj], by rw [hv _ (by omega), wide_hi _ _ _ hj]⟩, j, hj, by
      have e : cs.getD j 0 = cs[j] := by simp [List.getD_eq_getElem?_getD, hj]
      show 255 < cs.getD j 0
      rw [e]; exact hw⟩
/-- an object of exactly java/lang/String, its two fields found: as the laws ask it -/
theorem strObj {Z U : State} {a0 : Array Value} {kI : Nat} (wi : (Jvm.Cond.instantiable ST kI).before a0 Z = true) (al : Z.vm.Alike U.vm) {x : Addr} {v0 c0 : Value} (E : RoadKit.Exa Z U.heap x ST) (V : RoadKit.Fld Z U.heap x ST "value" "[B" v0) (C : RoadKit.Fld Z U.heap x ST "coder" "B" c0) :
    ∃ (D : Cell) (fV fC : Field), Blank ST x D U ∧ Found ST "value" "[B" fV U ∧ Found ST "coder" "B" fC U ∧ D.slots[fV.slot]? = some v0 ∧ D.slots[fC.slot]? = some c0 ∧ RoadKit.slotOf Z ST "value" "[B" = fV.slot ∧ RoadKit.slotOf Z ST "coder" "B" = fC.slot := by
  obtain ⟨D, cfV, kV, iV, fV, hD, gV, stV, knV, obV, asV, slV⟩ := V
  obtain ⟨D', cfC, kC, iC, fC, hD', gC, stC, -, -, asC, slC⟩ := C
  cases hD.symm.trans hD'
  obtain ⟨D2, kD, e1, e2, e3, e4, e5⟩ := E
  cases hD.symm.trans e1
  obtain ⟨c2, k2, i1, i2, i3, -⟩ := Cond.instantiable_spec wi
  cases e2.symm.trans i1
  cases e3.symm.trans i2
  obtain ⟨kU, u1, u2⟩ := al.2.2 _ _ e3
  exact ⟨D, fV, fC, ⟨hD, ⟨knV, fun q hq => by rw [hq] at obV; cases obV⟩, by rw [al.findClass]; exact e2, kU, u1, by rw [u2]; exact i3, by rw [u2]; exact e5 i3⟩, ⟨SBG.found_only al ⟨cfV, kV, iV, gV⟩, stV⟩, ⟨SBG.found_only al ⟨cfC, kC, iC, gC⟩, stC⟩, slV, slC, by simp [RoadKit.slotOf, gV], by simp [RoadKit.slotOf, gC]⟩
end StrChars.Road
namespace StrChars
open Jvm Sem ClassFile Op Lib Jvm.Stand Jvm.Free.XT Jvm.Free.ALB Jvm.Free.JM Jvm.Free
open Jvm.Lib.Cold (StaticIs)
namespace Emp
def yN : MethodName := ⟨"java/lang/String", "isEmpty", "()Z"⟩
abbrev yB : ByteArray := jdk_42_method_55_code
theorem d0 : decode yB 0 = .ok (.aload_n 0, 1) := by decide +kernel
theorem d1 : decode yB 1 = .ok (.getfield 9, 3) := by decide +kernel
theorem d4 : decode yB 4 = .ok (.arraylength, 1) := by decide +kernel
theorem d5 : decode yB 5 = .ok (.ifCond (.ne) 7, 3) := by decide +kernel
theorem d8 : decode yB 8 = .ok (.iconst 1, 1) := by decide +kernel
theorem d9 : decode yB 9 = .ok (.goto 4, 3) := by decide +kernel
theorem d12 : decode yB 12 = .ok (.iconst 0, 1) := by decide +kernel
theorem d13 : decode yB 13 = .ok (.ireturn, 1) := by decide +kernel
def site : List Cond := [.fieldLink "java/lang/String" 9 "java/lang/String" "value" "[B"]
def tab : Cond := tabOf yN yB 1 (some .boolean) site
def P (x t : Addr) (V : Cell) (cd : Int32) (n : Nat) (f : Nat → Int32) (args : Array Value) (s : State) : Prop := args = #[.ref x] ∧ Txt x t V cd n f s
def E (n : Nat) (r : Option Value) (s u : State) : Prop := XT.PureE (some (.int (if n = 0 then 1 else 0))) r s u
/-- isEmpty() of a String of n chars -/
theorem law (l : Launch) (x t : Addr) (V : Cell) (cd : Int32) (n : Nat) (f : Nat → Int32) : Law l yN 1 0 0 0 yB 1 (some .boolean) site (P x t V cd n f) (E n) [] 0 0 := by
  refine Law.of_walk (plainFor_of_name (by decide +kernel)) (by decide +kernel) (by decide +kernel) (by decide) (fun _ _ h => by rw [h.1]; rfl) (fun _ U U' hal hh h => ⟨h.1, h.2.mv hal hh⟩) (fun r U U' V V' h1 hal h2 h => XT.PureE.mv r U U' V V' h1 hal h2 h) ?_
  intro p e s m args below meth c s₁ X0 hexec hbytes hml hret hlk hnm hown hh0 W hP
  obtain ⟨rfl, hx⟩ := hP
  have v31 := hx.2.2.2.1.2.2.2
  have c1 : Steps p.tables e below (s₁.setTop (entryFrame m #[.ref x] 1)) (s₁.setTop (mkF m 1 #[.val (.ref x)] [.ref x])) := Steps.trans (entry rfl) (by
    show Steps p.tables e below (s₁.setTop (mkF m 0 #[.val (.ref x)] [])) _
    refine XS.aloadN X0.here hexec rfl (hb hbytes d0) rfl rfl ?_
    exact Steps.refl _)
  obtain ⟨T2, X2, q2, st2⟩ := X0.hget hexec hown (wk W (.fieldLink "java/lang/String" 9 "java/lang/String" "value" "[B")) (hx.mv X0.warmed.alike hh0).2.1 (g := (mkF m 1 #[.val (.ref x)] [.ref x])) rfl (rest := []) rfl (hb hbytes d1)
  have hh2 := q2.trans hh0
  have hx2 := hx.mv X2.warmed.alike hh2
  have c3 : Steps p.tables e below (s₁.setTop (entryFrame m #[.ref x] 1)) (T2.setTop (mkF m 5 #[.val (.ref x)] [.int (Int32.ofNat V.slots.size)])) := (c1.trans (st2 _ (Steps.refl _))).trans (by
    refine X2.alen hexec hx2.2.2.2.1 rfl rfl (hb hbytes d4) ?_
    exact Steps.refl _)
  have hz : V.slots.size = 0 ↔ n = 0 := by
    rcases hx.2.2.2.2.1 with ⟨-, q, -⟩ | ⟨-, q, -⟩ <;> omega
  by_cases h0 : n = 0
  · have c4 : Steps p.tables e below (s₁.setTop (entryFrame m #[.ref x] 1)) (T2.setTop (mkF m 13 #[.val (.ref x)] [.int 1])) := c3.trans (by
      refine XS.ifNo X2.here hexec rfl (hb hbytes d5) rfl (i0_ne_f (by rw [hz.mpr h0]; rfl)) ?_
      refine iconstV X2.here hexec rfl 1 (hb hbytes d8) (by decide) ?_
      refine XS.goto X2.here hexec rfl (pc0 := 9) rfl (hb hbytes d9) (by decide) rfl ?_
      exact Steps.refl _)
    exact ⟨T2, some (.int 1), _, _, _, X2, rfl, rfl, rfl, (fun h => by cases h), ⟨by rw [if_pos h0], hh2⟩, fun fs hl => c4.trans (X2.ireturnOut hexec hret rfl (Or.inr (Or.inl rfl)) (hb hbytes d13) hl)⟩
  · have c4 : Steps p.tables e below (s₁.setTop (entryFrame m #[.ref x] 1)) (T2.setTop (mkF m 13 #[.val (.ref x)] [.int 0])) := c3.trans (by
      refine XS.ifYes X2.here hexec rfl (pc0 := 5) rfl (hb hbytes d5) rfl (i0_ne_t (nz32 v31 (by omega))) (by decide) rfl ?_
      refine iconstV X2.here hexec rfl 0 (hb hbytes d12) (by decide) ?_
      exact Steps.refl _)
    exact ⟨T2, some (.int 0), _, _, _, X2, rfl, rfl, rfl, (fun h => by cases h), ⟨by rw [if_neg h0], hh2⟩, fun fs hl => c4.trans (X2.ireturnOut hexec hret rfl (Or.inr (Or.inl rfl)) (hb hbytes d13) hl)⟩
theorem pays {l : Launch} {R : Room} {p : Program} {e : Env} {below : List Frame} {s : State} {sargs : Array Value} {len W : Nat} (x t : Addr) (V : Cell) (cd : Int32) (n : Nat) (f : Nat → Int32) (htab : tab.before sargs s = true) (hfr : 1 ≤ R.frames) (hlo : W + 12 ≤ R.locals) :
    Back l R p e below s sargs yN len W (fun A₁ a₁ => A₁.cells + 0 ≤ R.cells ∧ A₁.slots + 0 ≤ R.slots ∧ P x t V cd n f a₁ A₁.U) (fun A₁ _ v₁ B₁ => E n v₁ A₁.U B₁.U ∧ B₁.locs = A₁.locs ++ [] ∧ B₁.cells = A₁.cells + 0 ∧ B₁.slots = A₁.slots + 0) :=
  (law l x t V cd n f).pays htab hfr (by omega)
end Emp
end StrChars
namespace StrChars.Road
open Jvm Sem ClassFile Op Lib Jvm.Stand Jvm.Free Jvm.Free.XT
open Jvm.Lib.Cold (StaticIs)
/-- the words of String.isEmpty() -/
abbrev wordsEmp : List Jvm.Cond := [.code Emp.yN Emp.yB 1 (some .boolean), .initialized ST, .fieldLink ST 9 ST "value" "[B"]
theorem tabEmp_of {a : Array Value} {s : State} (h : ∀ w ∈ wordsEmp, w.before a s = true) : Emp.tab.before a s = true := unparts (wk h (.code Emp.yN Emp.yB 1 (some .boolean))) (wks h (.initialized Emp.yN.cls :: Emp.site))
theorem movedEmp {Z s : State} {a0 args : Array Value} (hZ : Z.Warmed39 s.vm) (hw : ∀ d ∈ wordsEmp, d.before a0 Z = true) : ∀ d ∈ wordsEmp, d.before args s = true := fun d hd => by
  have t : ∀ d ∈ wordsEmp, (d.onTables && d.keepsFace) = true := by decide +kernel
  exact RoadKit.mv hZ (hw d hd) (t d hd)
/-- the road's facts of a String, as the laws ask it -/
theorem txt_of {Z U : State} {a0 : Array Value} {kI : Nat} (wi : (Jvm.Cond.instantiable ST kI).before a0 Z = true) (al : Z.vm.Alike U.vm) {x t : Addr} {kb : ClassId} {cs : List Int32} {cd N2 : Int32} {vs : List Value} (E : RoadKit.Exa Z U.heap x ST) (V : RoadKit.Fld Z U.heap x ST "value" "[B" (.ref t)) (C : RoadKit.Fld Z U.heap x ST "coder" "B" (.int cd)) (K : RoadKit.Arv Z U.heap t kb .byte N2 vs (.int 0)) (hc : CodA cs cd N2 vs) (hb : ∀ c ∈ cs, ¬ c < 0 ∧ ¬ (65535 : Int32) < c) (l2 : cs.length ≤ 4000) :
    ∃ A, Txt x t A cd cs.length (fun j => cs.getD j 0) U := by
  obtain ⟨A, K1, K2, K3, K4, K5, K6⟩ := K
  have hcod := hc.cod (by omega) K3 K5
  obtain ⟨D, fV, fC, hB, F1, F2, g1, g2, -, -⟩ := strObj wi al E V C
  exact ⟨A, ⟨_, hB.2.2.1, D, hB.1, rfl, by cases q : D.vm <;> first | rfl | exact absurd q (hB.2.1.2 _)⟩, Has.of hB F1 g1, Has.of hB F2 g2, ⟨K1.1, State.isArrayOf_alike al K1.2.1, K1.2.2, by rcases hcod with ⟨-, q, -⟩ | ⟨-, q, -⟩ <;> omega⟩, hcod, fun j hj => by
    have e : cs.getD j 0 = cs[j] := by simp [List.getD_eq_getElem?_getD, hj]
    show ¬ cs.getD j 0 < 0 ∧ ¬ 65535 < cs.getD j 0
    rw [e]; exact hb _ (List.getElem_mem _)⟩
/-- **isEmpty() OF SUCH A STRING** -/
theorem empW {p : Program} {l : Launch} {e : Env} {R : Room} {s : State} {args : Array Value} {below : List Frame} {len W : Nat} {Z : State} {a0 : Array Value} {h : Heap} (hZ : Z.Warmed39 s.vm) (hw : ∀ d ∈ wordsEmp, d.before a0 Z = true) {kI : Nat} (wi : (Jvm.Cond.instantiable ST kI).before a0 Z = true)
    {x t : Addr} {kb : ClassId} {cs : List Int32} {cd N2 : Int32} {vs : List Value} (E : RoadKit.Exa Z h x ST) (V : RoadKit.Fld Z h x ST "value" "[B" (.ref t)) (C : RoadKit.Fld Z h x ST "coder" "B" (.int cd)) (K : RoadKit.Arv Z h t kb .byte N2 vs (.int 0)) (hc : CodA cs cd N2 vs) (hb : ∀ c ∈ cs, ¬ c < 0 ∧ ¬ (65535 : Int32) < c) (l2 : cs.length ≤ 4000) (hfr : 1 ≤ R.frames) (hlo : W + 12 ≤ R.locals) :
    Back l R p e below s args (⟨"java/lang/String", "isEmpty", "()Z"⟩ : MethodName) len W (fun P a => a = #[.ref x] ∧ P.U.heap = h ∧ P.cells + 0 ≤ R.cells ∧ P.slots + 0 ≤ R.slots)
      (fun P _ v B => ∃ L, (v = some (.int (if cs.length = 0 then 1 else 0)) ∧ L = [] ∧ B.U.heap = h) ∧ B.locs = P.locs ++ L ∧ B.cells = P.cells + 0 ∧ B.slots = P.slots + 0) := by
  intro m meth c P g ig mk a X hg hsize hdg hW hn hp'
  obtain ⟨rfl, rfl, r1, r2⟩ := hp'
  have al : Z.vm.Alike P.U.vm := hZ.alike.trans X.warmed.alike
  obtain ⟨A, hx⟩ := txt_of wi al E V C K hc hb l2
  obtain ⟨v, B, X', ⟨⟨hv, hh⟩, hl, hk, hs⟩, st⟩ := Emp.pays x t A cd cs.length (fun j => cs.getD j 0) (tabEmp_of (movedEmp hZ hw)) hfr hlo m meth c P g ig mk _ X hg hsize hdg hW hn ⟨r1, r2, rfl, hx⟩
  exact ⟨v, B, X', ⟨[], ⟨hv, rfl, hh⟩, hl, hk, hs⟩, st⟩
end StrChars.Road
namespace StrChars.Road
open Jvm Sem ClassFile Op Lib Jvm.Stand Jvm.Free Jvm.Free.XT
open Jvm.Lib.Cold (StaticIs)
/-- what backV says of its String, as the contracts of this text ask it: cs's low bytes, coder 0 -/
theorem codOf {cs : List Int32} {n : Nat} (hn : cs.length = n) (hb : ∀ c ∈ cs, ¬ 255 < c) : CodA cs 0 (Int32.ofNat n) ((cs.map lo8).map Value.int) := Or.inl ⟨rfl, by rw [hn], by simp [List.map_map, Function.comp_def], hb⟩
end StrChars.Road
end Jvm.Pilot.@@N@@
namespace Jvm.Pilot.@@N@@
open Jvm Jvm.ClassFile Sem Op Lib Jvm.Free Jvm.Stand Jvm.LawKit Jvm.RoadKit Bundle Jvm.Pilot.@@N@@.Jvm.D
theorem own_pack {p : Program} {l : Launch} {e : Env} {R : Room} {s : State} {m : MethodId} {args : Array Value} {below : List Frame} {meth : Method} {c : Code} {T : State} {locs : List Loc} {cells slots n0 : Nat} (X : Stand p l e R s m args below meth c T locs cells slots) (N : Fr n0 locs) : ∃ L, Stand p l e R s m args below meth c T L cells slots ∧ Fr n0 L := ⟨_, X, N⟩
theorem own_c0 {P : Int32 → Prop} : ∀ x ∈ ([] : List Int32), P x := fun _ h => nomatch h
theorem own_cS {P : Int32 → Prop} {y : Int32} {L : List Int32} (q : P y) (r : ∀ x ∈ L, P x) : ∀ x ∈ y :: L, P x := fun x h => (List.mem_cons.mp h).elim (fun e => e ▸ q) (r x)
theorem own_up (cs : List Int32) (h : ∀ c ∈ cs, ¬ c < 0 ∧ ¬ (255 : Int32) < c) : ∀ c ∈ cs, ¬ c < 0 ∧ ¬ (65535 : Int32) < c := fun c hc => ⟨(h c hc).1, fun q => (h c hc).2 (by rw [Int32.lt_iff_toInt_lt] at q ⊢; have e1 : (65535 : Int32).toInt = 65535 := rfl; have e2 : (255 : Int32).toInt = 255 := rfl; omega)⟩
theorem own_m32 (x : Int32) : ∃ k : Fin 256, (x &&& 255) = Int32.ofNat k.val := by
  have h : (x &&& 255).toBitVec.toNat < 256 := by
    simp only [Int32.toBitVec_and, BitVec.toNat_and]
    exact Nat.lt_succ_of_le Nat.and_le_right
  refine ⟨⟨_, h⟩, ?_⟩
  apply Int32.toBitVec_inj.mp
  show _ = BitVec.ofNat 32 _
  rw [BitVec.ofNat_toNat]; simp
theorem own_m64 (x : Int64) : ∃ k : Fin 256, (x &&& 255).toInt32 = Int32.ofNat k.val := by
  have h : (x &&& 255).toBitVec.toNat < 256 := by
    simp only [Int64.toBitVec_and, BitVec.toNat_and]
    exact Nat.lt_succ_of_le Nat.and_le_right
  refine ⟨⟨_, h⟩, ?_⟩
  have e : (x &&& 255) = Int64.ofNat (x &&& 255).toBitVec.toNat := by
    apply Int64.toBitVec_inj.mp
    show _ = BitVec.ofNat 64 _
    rw [BitVec.ofNat_toNat]; simp
  have t : ∀ k : Fin 256, (Int64.ofNat k.val).toInt32 = Int32.ofNat k.val := by decide +kernel
  exact (congrArg Int64.toInt32 e).trans (t ⟨_, h⟩)
theorem own_eqint {args : Array Value} {s : State} {t : Term} {k : Int32} (h : (Jvm.Cond.eq t (.int k)).value args s none s [] = some true) : t.eval args s none [] s = some (.int k) := by
  simp only [Cond.value, Term.eval] at h
  cases ht : t.eval args s none [] s with
  | none => simp [ht] at h
  | some x => cases x <;> simp [ht] at h ⊢ <;> exact h
def own_Qlaw (h0 : Heap) (n0 : Nat) (v : Option Value) (h : Heap) (L : List Loc) : Prop := v = some (.int 1) ∧ Fr n0 L
theorem own_hws_words : ∀ d ∈ StrChars.Road.words, d ∈ tables_1 := by decide +kernel
theorem own_hws_wordsEmp : ∀ d ∈ StrChars.Road.wordsEmp, d ∈ tables_1 := by decide +kernel
theorem own_strAtoms : ∀ d ∈ Bundle.stringAtoms, d ∈ tables_1 := by decide +kernel
def own_iteq (u w a b : Int32) : Int32 := if u = w then a else b
def own_itlt (u w a b : Int32) : Int32 := if u < w then a else b
def own_Glob (Z : State) (G1 : Int32) (k_EMPTY : Addr) : Prop := (Sta Z Z.heap "java/lang/String" "COMPACT_STRINGS" "Z" (.int G1)) ∧ (¬ (G1 = (0 : Int32))) ∧ (Sta Z Z.heap "java/util/Optional" "EMPTY" "Ljava/util/Optional;" (.ref k_EMPTY)) ∧ (Exa Z Z.heap k_EMPTY "java/util/Optional") ∧ (Fld Z Z.heap k_EMPTY "java/util/Optional" "value" "Ljava/lang/Object;" .null)
def own_kd (p : Int32) : Int32 := ((p &&& (2147483647 : Int32)) % (3 : Int32))
def own_a3 (p : Int32) : Int32 := (p &&& (3 : Int32))
def own_t0 (q : Int64) : Int32 := (((q &&& (255 : Int64)).toInt32).toUInt32.toUInt16.toUInt32.toInt32)
def own_t1 (q : Int64) (p : Int32) : Int32 := (((((q.toUInt64 >>> (p &&& 0x3f).toInt64.toUInt64).toInt64) &&& (255 : Int64)).toInt32).toUInt32.toUInt16.toUInt32.toInt32)
def own_n0 (q : Int64) : Int32 := (nar .char (own_t0 q))
def own_n1 (q : Int64) (p : Int32) : Int32 := (nar .char (own_t1 q p))
theorem own_rng_n0 (q : Int64) : ¬ own_n0 q < 0 ∧ ¬ (255 : Int32) < own_n0 q := by
  have t : ∀ k : Fin 256, ¬ nar .char ((Int32.ofNat k.val).toUInt32.toUInt16.toUInt32.toInt32) < 0 ∧ ¬ (255 : Int32) < nar .char ((Int32.ofNat k.val).toUInt32.toUInt16.toUInt32.toInt32) := by decide +kernel
  unfold own_n0 own_t0
  obtain ⟨k, hk⟩ := own_m64 q
  rw [hk]; exact t k
theorem own_rng_n1 (q : Int64) (p : Int32) : ¬ own_n1 q p < 0 ∧ ¬ (255 : Int32) < own_n1 q p := by
  have t : ∀ k : Fin 256, ¬ nar .char ((Int32.ofNat k.val).toUInt32.toUInt16.toUInt32.toInt32) < 0 ∧ ¬ (255 : Int32) < nar .char ((Int32.ofNat k.val).toUInt32.toUInt16.toUInt32.toInt32) := by decide +kernel
  unfold own_n1 own_t1
  obtain ⟨k, hk⟩ := own_m64 ((q.toUInt64 >>> (p &&& 0x3f).toInt64.toUInt64).toInt64)
  rw [hk]; exact t k
theorem own_a3c (x : Int32) : own_a3 x = 0 ∨ own_a3 x = 1 ∨ own_a3 x = 2 ∨ own_a3 x = 3 := by
  have h := c_mask x 3 2 (by decide) (by decide)
  have q : (x &&& 3).toInt = 0 ∨ (x &&& 3).toInt = 1 ∨ (x &&& 3).toInt = 2 ∨ (x &&& 3).toInt = 3 := by rw [h]; simp only [show ((2 ^ 2 : Nat) : Int) = 4 from rfl]; omega
  rcases q with q | q | q | q
  · exact Or.inl (Int32.toInt_inj.mp q)
  · exact Or.inr (Or.inl (Int32.toInt_inj.mp q))
  · exact Or.inr (Or.inr (Or.inl (Int32.toInt_inj.mp q)))
  · exact Or.inr (Or.inr (Or.inr (Int32.toInt_inj.mp q)))
theorem own_kdc (p : Int32) : own_kd p = 0 ∨ own_kd p = 1 ∨ own_kd p = 2 := by
  have h0 : 0 ≤ (p &&& 2147483647).toInt := (c_and p 2147483647 (by decide)).1
  have h1 := (c_irem (p &&& 2147483647) 3 3 (by decide)).1 h0
  have q : (own_kd p).toInt = 0 ∨ (own_kd p).toInt = 1 ∨ (own_kd p).toInt = 2 := by unfold own_kd; omega
  exact q.imp Int32.toInt_inj.mp (Or.imp Int32.toInt_inj.mp Int32.toInt_inj.mp)
theorem own_d_jdk_29_method_69_0 : decode jdk_29_method_69_code 0 = .ok (.iload_n 0, 1) := by decide +kernel
theorem own_d_jdk_29_method_69_1 : decode jdk_29_method_69_code 1 = .ok (.iload_n 1, 1) := by decide +kernel
theorem own_d_jdk_29_method_69_2 : decode jdk_29_method_69_code 2 = .ok (.if_icmp .gt 7, 3) := by decide +kernel
theorem own_d_jdk_29_method_69_5 : decode jdk_29_method_69_code 5 = .ok (.iload_n 0, 1) := by decide +kernel
theorem own_d_jdk_29_method_69_6 : decode jdk_29_method_69_code 6 = .ok (.goto 4, 3) := by decide +kernel
theorem own_d_jdk_29_method_69_10 : decode jdk_29_method_69_code 10 = .ok (.ireturn, 1) := by decide +kernel
def own_Qrm_minL (Z : State) (G1 : Int32) (k_EMPTY : Addr) (p1 : Int32) (p2 : Int32) (h0 : Heap) (n0 : Nat) (v : Option Value) (h : Heap) (L : List Loc) : Prop := (v = some (.int p1)) ∧ (Fr n0 L) ∧ (h = h0)
theorem own_efrm_minL (m : MethodId) (p1 : Int32) (p2 : Int32) : entryFrame m #[(.int p1), (.int p2)] 2 = mkF m 0 #[.val (.int p1), .val (.int p2)] [] := by first | (simp [entryFrame, mkF, argsToLocals, Value.category]; done) | rfl
set_option maxRecDepth 65536 in
set_option maxHeartbeats 40000000 in
theorem own_rm_minL (l : Launch) (Z : State) (a0 : Array Value) (hw : ∀ d ∈ tables_1, d.before a0 Z = true) (ws : List Jvm.Cond) (G1 : Int32) (k_EMPTY : Addr) (gl : own_Glob Z G1 k_EMPTY) (p1 : Int32) (p2 : Int32) (h0 : Heap) (n0 : Nat) (Z0 : n0 ≤ h0.size) (hc1 : ¬ (p2 < p1)) :
    MetFree l (⟨"java/lang/Math", "min", "(II)I"⟩ : MethodName) (head1 (Jvm.Cond.code (⟨"java/lang/Math", "min", "(II)I"⟩ : MethodName) jdk_29_method_69_code 2 (some .int) :: ws) ({ frames := 0, cells := 0, slots := 0, locals := 0 } : Room)) (fun a U => a = #[(.int p1), (.int p2)] ∧ Z.Warmed39 U.vm ∧ U.heap = h0) (fun _ _ _ _ _ => True) (fun _ U o U' => ∃ v L, o = .returned v ∧ own_Qrm_minL Z G1 k_EMPTY p1 p2 h0 n0 v U'.heap L ∧ FrameEnd U o U' L ({ frames := 0, cells := 0, slots := 0, locals := 0 } : Room).cells ({ frames := 0, cells := 0, slots := 0, locals := 0 } : Room).slots) := by
  refine MetFree.of_bodySF (Jvm.Free.JP.mathPlain rfl (by decide +kernel)) hisR ?_
  intro p e s m args below meth c s₁ Bd hml0 hP hK
  obtain ⟨rfl, hZ, hh⟩ := hP
  obtain ⟨O_CS, P_CS, O_EMPTY, E_EMPTY, F_EMPTY⟩ := id gl
  have hx := Bd.exec
  have hby := Bd.bytes
  have hml : c.maxLocals = 2 := hml0
  have hown : s.vm.findClass "java/lang/Math" = some m.cls := findClass_of_methodNamed Bd.named
  have hnm := (name_of_methodNamed Bd.named Bd.method).1
  have X0 : Stand p l e ({ frames := 0, cells := 0, slots := 0, locals := 0 } : Room) s m #[(.int p1), (.int p2)] below meth c s₁ [] 0 0 := Stand.of_body Bd
  have e0 : s₁.heap = h0 := by rw [← hh, Bd.state]; rfl
  have N0 := Fr.nil n0
  have pre0 : ∀ t, Steps p.tables e below (s₁.setTop (mkF m 0 #[.val (.int p1), .val (.int p2)] [])) t → Steps p.tables e below (s₁.setTop (entryFrame m #[(.int p1), (.int p2)] 2)) t := fun t k => castTop (own_efrm_minL m p1 p2) k
  obtain ⟨fs, hr, hrun, hended, hW, hsame⟩ := X0.leave (v := some (.int p1)) (fun h => by rw [Bd.returns] at h; cases h)
  refine ⟨_, _, pre0 _ ?_, hrun, hended, _, _, rfl, ?_, ⟨_, rfl⟩, hW, hsame.mono (by decide) (by decide)⟩
  · show Steps p.tables e below (s₁.setTop (mkF m 0 #[.val (.int p1), .val (.int p2)] [])) _
    refine XS.iloadN X0.here hx rfl (hb hby own_d_jdk_29_method_69_0) rfl ?_
    show Steps p.tables e below (s₁.setTop (mkF m 1 #[.val (.int p1), .val (.int p2)] [(.int p1)])) _
    refine XS.iloadN X0.here hx rfl (hb hby own_d_jdk_29_method_69_1) rfl ?_
    show Steps p.tables e below (s₁.setTop (mkF m 2 #[.val (.int p1), .val (.int p2)] [(.int p2), (.int p1)])) _
    refine XS.icmpNo X0.here hx rfl (hb hby own_d_jdk_29_method_69_2) rfl (flt hc1).2.2.1 ?_
    show Steps p.tables e below (s₁.setTop (mkF m 5 #[.val (.int p1), .val (.int p2)] [])) _
    refine XS.iloadN X0.here hx rfl (hb hby own_d_jdk_29_method_69_5) rfl ?_
    show Steps p.tables e below (s₁.setTop (mkF m 6 #[.val (.int p1), .val (.int p2)] [(.int p1)])) _
    refine XS.goto X0.here hx rfl (pc0 := 6) (pc' := 10) rfl (hb hby own_d_jdk_29_method_69_6) (by decide) (by decide) ?_
    show Steps p.tables e below (s₁.setTop (mkF m 10 #[.val (.int p1), .val (.int p2)] [(.int p1)])) _
    exact retI X0 hx Bd.returns (hb hby own_d_jdk_29_method_69_10) hr
  · show own_Qrm_minL Z G1 k_EMPTY p1 p2 h0 n0 _ s₁.heap _
    rw [e0]
    exact ⟨rfl, N0, rfl⟩
theorem own_d_jdk_29_method_69_9 : decode jdk_29_method_69_code 9 = .ok (.iload_n 1, 1) := by decide +kernel
def own_Qrm_minR (Z : State) (G1 : Int32) (k_EMPTY : Addr) (p1 : Int32) (p2 : Int32) (h0 : Heap) (n0 : Nat) (v : Option Value) (h : Heap) (L : List Loc) : Prop := (v = some (.int p2)) ∧ (Fr n0 L) ∧ (h = h0)
theorem own_efrm_minR (m : MethodId) (p1 : Int32) (p2 : Int32) : entryFrame m #[(.int p1), (.int p2)] 2 = mkF m 0 #[.val (.int p1), .val (.int p2)] [] := by first | (simp [entryFrame, mkF, argsToLocals, Value.category]; done) | rfl
set_option maxRecDepth 65536 in
set_option maxHeartbeats 40000000 in
theorem own_rm_minR (l : Launch) (Z : State) (a0 : Array Value) (hw : ∀ d ∈ tables_1, d.before a0 Z = true) (ws : List Jvm.Cond) (G1 : Int32) (k_EMPTY : Addr) (gl : own_Glob Z G1 k_EMPTY) (p1 : Int32) (p2 : Int32) (h0 : Heap) (n0 : Nat) (Z0 : n0 ≤ h0.size) (hc1 : p2 < p1) :
    MetFree l (⟨"java/lang/Math", "min", "(II)I"⟩ : MethodName) (head1 (Jvm.Cond.code (⟨"java/lang/Math", "min", "(II)I"⟩ : MethodName) jdk_29_method_69_code 2 (some .int) :: ws) ({ frames := 0, cells := 0, slots := 0, locals := 0 } : Room)) (fun a U => a = #[(.int p1), (.int p2)] ∧ Z.Warmed39 U.vm ∧ U.heap = h0) (fun _ _ _ _ _ => True) (fun _ U o U' => ∃ v L, o = .returned v ∧ own_Qrm_minR Z G1 k_EMPTY p1 p2 h0 n0 v U'.heap L ∧ FrameEnd U o U' L ({ frames := 0, cells := 0, slots := 0, locals := 0 } : Room).cells ({ frames := 0, cells := 0, slots := 0, locals := 0 } : Room).slots) := by
  refine MetFree.of_bodySF (Jvm.Free.JP.mathPlain rfl (by decide +kernel)) hisR ?_
  intro p e s m args below meth c s₁ Bd hml0 hP hK
  obtain ⟨rfl, hZ, hh⟩ := hP
  obtain ⟨O_CS, P_CS, O_EMPTY, E_EMPTY, F_EMPTY⟩ := id gl
  have hx := Bd.exec
  have hby := Bd.bytes
  have hml : c.maxLocals = 2 := hml0
  have hown : s.vm.findClass "java/lang/Math" = some m.cls := findClass_of_methodNamed Bd.named
  have hnm := (name_of_methodNamed Bd.named Bd.method).1
  have X0 : Stand p l e ({ frames := 0, cells := 0, slots := 0, locals := 0 } : Room) s m #[(.int p1), (.int p2)] below meth c s₁ [] 0 0 := Stand.of_body Bd
  have e0 : s₁.heap = h0 := by rw [← hh, Bd.state]; rfl
  have N0 := Fr.nil n0
  have pre0 : ∀ t, Steps p.tables e below (s₁.setTop (mkF m 0 #[.val (.int p1), .val (.int p2)] [])) t → Steps p.tables e below (s₁.setTop (entryFrame m #[(.int p1), (.int p2)] 2)) t := fun t k => castTop (own_efrm_minR m p1 p2) k
  obtain ⟨fs, hr, hrun, hended, hW, hsame⟩ := X0.leave (v := some (.int p2)) (fun h => by rw [Bd.returns] at h; cases h)
  refine ⟨_, _, pre0 _ ?_, hrun, hended, _, _, rfl, ?_, ⟨_, rfl⟩, hW, hsame.mono (by decide) (by decide)⟩
  · show Steps p.tables e below (s₁.setTop (mkF m 0 #[.val (.int p1), .val (.int p2)] [])) _
    refine XS.iloadN X0.here hx rfl (hb hby own_d_jdk_29_method_69_0) rfl ?_
    show Steps p.tables e below (s₁.setTop (mkF m 1 #[.val (.int p1), .val (.int p2)] [(.int p1)])) _
    refine XS.iloadN X0.here hx rfl (hb hby own_d_jdk_29_method_69_1) rfl ?_
    show Steps p.tables e below (s₁.setTop (mkF m 2 #[.val (.int p1), .val (.int p2)] [(.int p2), (.int p1)])) _
    refine XS.icmpYes X0.here hx rfl (pc0 := 2) (pc' := 9) rfl (hb hby own_d_jdk_29_method_69_2) rfl (tlt hc1).2.2.1 (by decide) (by decide) ?_
    show Steps p.tables e below (s₁.setTop (mkF m 9 #[.val (.int p1), .val (.int p2)] [])) _
    refine XS.iloadN X0.here hx rfl (hb hby own_d_jdk_29_method_69_9) rfl ?_
    show Steps p.tables e below (s₁.setTop (mkF m 10 #[.val (.int p1), .val (.int p2)] [(.int p2)])) _
    exact retI X0 hx Bd.returns (hb hby own_d_jdk_29_method_69_10) hr
  · show own_Qrm_minR Z G1 k_EMPTY p1 p2 h0 n0 _ s₁.heap _
    rw [e0]
    exact ⟨rfl, N0, rfl⟩
theorem own_d_jdk_30_method_1_0 : decode jdk_30_method_1_code 0 = .ok (.aload_n 0, 1) := by decide +kernel
theorem own_d_jdk_30_method_1_1 : decode jdk_30_method_1_code 1 = .ok (.invokespecial 1, 3) := by decide +kernel
theorem own_d_jdk_30_method_1_4 : decode jdk_30_method_1_code 4 = .ok (.return_, 1) := by decide +kernel
theorem own_pn0 : plainName "java/lang/Record" = true := by first | (simp [plainName, overriddenIn]; done) | decide +kernel
def own_Qrm_rec (Z : State) (G1 : Int32) (k_EMPTY : Addr) (a1 : Addr) (h0 : Heap) (n0 : Nat) (v : Option Value) (h : Heap) (L : List Loc) : Prop := (v = none) ∧ (Fr n0 L) ∧ (h = h0)
theorem own_efrm_rec (m : MethodId) (a1 : Addr) : entryFrame m #[(.ref a1)] 1 = mkF m 0 #[.val (.ref a1)] [] := by first | (simp [entryFrame, mkF, argsToLocals, Value.category]; done) | rfl
set_option maxRecDepth 65536 in
set_option maxHeartbeats 40000000 in
theorem own_rm_rec (l : Launch) (Z : State) (a0 : Array Value) (hw : ∀ d ∈ tables_1, d.before a0 Z = true) (ws : List Jvm.Cond) (G1 : Int32) (k_EMPTY : Addr) (gl : own_Glob Z G1 k_EMPTY) (a1 : Addr) (h0 : Heap) (n0 : Nat) (Z0 : n0 ≤ h0.size) :
    MetFree l (⟨"java/lang/Record", "<init>", "()V"⟩ : MethodName) (head1 (Jvm.Cond.code (⟨"java/lang/Record", "<init>", "()V"⟩ : MethodName) jdk_30_method_1_code 1 none :: ws) ({ frames := 1, cells := 0, slots := 0, locals := 12 } : Room)) (fun a U => a = #[(.ref a1)] ∧ Z.Warmed39 U.vm ∧ U.heap = h0) (fun _ _ _ _ _ => True) (fun _ U o U' => ∃ v L, o = .returned v ∧ own_Qrm_rec Z G1 k_EMPTY a1 h0 n0 v U'.heap L ∧ FrameEnd U o U' L ({ frames := 1, cells := 0, slots := 0, locals := 12 } : Room).cells ({ frames := 1, cells := 0, slots := 0, locals := 12 } : Room).slots) := by
  refine MetFree.of_bodySF (plainFor_of_name own_pn0) hisR ?_
  intro p e s m args below meth c s₁ Bd hml0 hP hK
  obtain ⟨rfl, hZ, hh⟩ := hP
  obtain ⟨O_CS, P_CS, O_EMPTY, E_EMPTY, F_EMPTY⟩ := id gl
  have hx := Bd.exec
  have hby := Bd.bytes
  have hml : c.maxLocals = 1 := hml0
  have hown : s.vm.findClass "java/lang/Record" = some m.cls := findClass_of_methodNamed Bd.named
  have hnm := (name_of_methodNamed Bd.named Bd.method).1
  have X0 : Stand p l e ({ frames := 1, cells := 0, slots := 0, locals := 12 } : Room) s m #[(.ref a1)] below meth c s₁ [] 0 0 := Stand.of_body Bd
  have e0 : s₁.heap = h0 := by rw [← hh, Bd.state]; rfl
  have N0 := Fr.nil n0
  have pre0 : ∀ t, Steps p.tables e below (s₁.setTop (mkF m 0 #[.val (.ref a1)] [])) t → Steps p.tables e below (s₁.setTop (entryFrame m #[(.ref a1)] 1)) t := fun t k => castTop (own_efrm_rec m a1) k
  obtain ⟨T1, X1, e1, st1⟩ := initO X0 hx hZ hown (hw _ (List.mem_of_getElem? (i := 47) rfl)) (hw _ (List.mem_of_getElem? (i := 18) rfl)) (hw _ (List.mem_of_getElem? (i := 19) rfl)) e0 (g := (mkF m 1 #[.val (.ref a1)] [(.ref a1)])) rfl (by rw [hml]; rfl) rfl (hb hby own_d_jdk_30_method_1_1) (by decide) (W := 0) (by show 2 * 0 + _ ≤ _; exact Nat.le_of_eq rfl) (by decide)
  obtain ⟨fs, hr, hrun, hended, hW, hsame⟩ := X1.leave (v := none) (fun _ => rfl)
  refine ⟨_, _, pre0 _ ?_, hrun, hended, _, _, rfl, ?_, ⟨_, rfl⟩, hW, hsame.mono (by decide) (by decide)⟩
  · show Steps p.tables e below (s₁.setTop (mkF m 0 #[.val (.ref a1)] [])) _
    refine XS.aloadN X0.here hx rfl (hb hby own_d_jdk_30_method_1_0) rfl rfl ?_
    show Steps p.tables e below (s₁.setTop (mkF m 1 #[.val (.ref a1)] [(.ref a1)])) _
    refine st1 _ ?_
    show Steps p.tables e below (T1.setTop (mkF m 4 #[.val (.ref a1)] [])) _
    exact X1.returnOut hx Bd.returns (hb hby own_d_jdk_30_method_1_4) hr
  · show own_Qrm_rec Z G1 k_EMPTY a1 h0 n0 _ T1.heap _
    rw [e1]
    exact ⟨rfl, N0, rfl⟩
theorem own_d_jdk_31_method_11_0 : decode jdk_31_method_11_code 0 = .ok (.aload_n 0, 1) := by decide +kernel
theorem own_d_jdk_31_method_11_1 : decode jdk_31_method_11_code 1 = .ok (.ifnonnull 12, 3) := by decide +kernel
theorem own_d_jdk_31_method_11_13 : decode jdk_31_method_11_code 13 = .ok (.aload_n 0, 1) := by decide +kernel
theorem own_d_jdk_31_method_11_14 : decode jdk_31_method_11_code 14 = .ok (.areturn, 1) := by decide +kernel
theorem own_pn1 : plainName "java/util/Objects" = true := by first | (simp [plainName, overriddenIn]; done) | decide +kernel
def own_Qrm_rn2 (Z : State) (G1 : Int32) (k_EMPTY : Addr) (a1 : Addr) (a2 : Addr) (h0 : Heap) (n0 : Nat) (v : Option Value) (h : Heap) (L : List Loc) : Prop := (v = some (.ref a1)) ∧ (Fr n0 L) ∧ (h = h0)
theorem own_efrm_rn2 (m : MethodId) (a1 : Addr) (a2 : Addr) : entryFrame m #[(.ref a1), (.ref a2)] 2 = mkF m 0 #[.val (.ref a1), .val (.ref a2)] [] := by first | (simp [entryFrame, mkF, argsToLocals, Value.category]; done) | rfl
set_option maxRecDepth 65536 in
set_option maxHeartbeats 40000000 in
theorem own_rm_rn2 (l : Launch) (Z : State) (a0 : Array Value) (hw : ∀ d ∈ tables_1, d.before a0 Z = true) (ws : List Jvm.Cond) (G1 : Int32) (k_EMPTY : Addr) (gl : own_Glob Z G1 k_EMPTY) (a1 : Addr) (a2 : Addr) (h0 : Heap) (n0 : Nat) (Z0 : n0 ≤ h0.size) :
    MetFree l (⟨"java/util/Objects", "requireNonNull", "(Ljava/lang/Object;Ljava/lang/String;)Ljava/lang/Object;"⟩ : MethodName) (head1 (Jvm.Cond.code (⟨"java/util/Objects", "requireNonNull", "(Ljava/lang/Object;Ljava/lang/String;)Ljava/lang/Object;"⟩ : MethodName) jdk_31_method_11_code 2 (some (.object "java/lang/Object")) :: ws) ({ frames := 0, cells := 0, slots := 0, locals := 0 } : Room)) (fun a U => a = #[(.ref a1), (.ref a2)] ∧ Z.Warmed39 U.vm ∧ U.heap = h0) (fun _ _ _ _ _ => True) (fun _ U o U' => ∃ v L, o = .returned v ∧ own_Qrm_rn2 Z G1 k_EMPTY a1 a2 h0 n0 v U'.heap L ∧ FrameEnd U o U' L ({ frames := 0, cells := 0, slots := 0, locals := 0 } : Room).cells ({ frames := 0, cells := 0, slots := 0, locals := 0 } : Room).slots) := by
  refine MetFree.of_bodySF (plainFor_of_name own_pn1) hisR ?_
  intro p e s m args below meth c s₁ Bd hml0 hP hK
  obtain ⟨rfl, hZ, hh⟩ := hP
  obtain ⟨O_CS, P_CS, O_EMPTY, E_EMPTY, F_EMPTY⟩ := id gl
  have hx := Bd.exec
  have hby := Bd.bytes
  have hml : c.maxLocals = 2 := hml0
  have hown : s.vm.findClass "java/util/Objects" = some m.cls := findClass_of_methodNamed Bd.named
  have hnm := (name_of_methodNamed Bd.named Bd.method).1
  have X0 : Stand p l e ({ frames := 0, cells := 0, slots := 0, locals := 0 } : Room) s m #[(.ref a1), (.ref a2)] below meth c s₁ [] 0 0 := Stand.of_body Bd
  have e0 : s₁.heap = h0 := by rw [← hh, Bd.state]; rfl
  have N0 := Fr.nil n0
  have pre0 : ∀ t, Steps p.tables e below (s₁.setTop (mkF m 0 #[.val (.ref a1), .val (.ref a2)] [])) t → Steps p.tables e below (s₁.setTop (entryFrame m #[(.ref a1), (.ref a2)] 2)) t := fun t k => castTop (own_efrm_rn2 m a1 a2) k
  obtain ⟨fs, hr, hrun, hended, hW, hsame⟩ := X0.leave (v := some (.ref a1)) (fun h => by rw [Bd.returns] at h; cases h)
  refine ⟨_, _, pre0 _ ?_, hrun, hended, _, _, rfl, ?_, ⟨_, rfl⟩, hW, hsame.mono (by decide) (by decide)⟩
  · show Steps p.tables e below (s₁.setTop (mkF m 0 #[.val (.ref a1), .val (.ref a2)] [])) _
    refine XS.aloadN X0.here hx rfl (hb hby own_d_jdk_31_method_11_0) rfl rfl ?_
    show Steps p.tables e below (s₁.setTop (mkF m 1 #[.val (.ref a1), .val (.ref a2)] [(.ref a1)])) _
    refine XS.ifnonnullYes X0.here hx rfl (pc0 := 1) (pc' := 13) rfl (hb hby own_d_jdk_31_method_11_1) rfl (by decide) (by decide) ?_
    show Steps p.tables e below (s₁.setTop (mkF m 13 #[.val (.ref a1), .val (.ref a2)] [])) _
    refine XS.aloadN X0.here hx rfl (hb hby own_d_jdk_31_method_11_13) rfl rfl ?_
    show Steps p.tables e below (s₁.setTop (mkF m 14 #[.val (.ref a1), .val (.ref a2)] [(.ref a1)])) _
    jvm_step X0.here [X0.here.top, hx, (hb hby own_d_jdk_31_method_11_14), X0.method', Bd.returns, Value.isRef, FieldType.isReference]
    first | (intro acts; rw [hr _ acts rfl rfl rfl]) | rw [hr _ _ rfl rfl rfl]
    exact Steps.refl _
  · show own_Qrm_rn2 Z G1 k_EMPTY a1 a2 h0 n0 _ s₁.heap _
    rw [e0]
    exact ⟨rfl, N0, rfl⟩
theorem own_d_jdk_31_method_10_0 : decode jdk_31_method_10_code 0 = .ok (.aload_n 0, 1) := by decide +kernel
theorem own_d_jdk_31_method_10_1 : decode jdk_31_method_10_code 1 = .ok (.ifnonnull 11, 3) := by decide +kernel
theorem own_d_jdk_31_method_10_12 : decode jdk_31_method_10_code 12 = .ok (.aload_n 0, 1) := by decide +kernel
theorem own_d_jdk_31_method_10_13 : decode jdk_31_method_10_code 13 = .ok (.areturn, 1) := by decide +kernel
def own_Qrm_rn1 (Z : State) (G1 : Int32) (k_EMPTY : Addr) (a1 : Addr) (h0 : Heap) (n0 : Nat) (v : Option Value) (h : Heap) (L : List Loc) : Prop := (v = some (.ref a1)) ∧ (Fr n0 L) ∧ (h = h0)
theorem own_efrm_rn1 (m : MethodId) (a1 : Addr) : entryFrame m #[(.ref a1)] 1 = mkF m 0 #[.val (.ref a1)] [] := by first | (simp [entryFrame, mkF, argsToLocals, Value.category]; done) | rfl
set_option maxRecDepth 65536 in
set_option maxHeartbeats 40000000 in
theorem own_rm_rn1 (l : Launch) (Z : State) (a0 : Array Value) (hw : ∀ d ∈ tables_1, d.before a0 Z = true) (ws : List Jvm.Cond) (G1 : Int32) (k_EMPTY : Addr) (gl : own_Glob Z G1 k_EMPTY) (a1 : Addr) (h0 : Heap) (n0 : Nat) (Z0 : n0 ≤ h0.size) :
    MetFree l (⟨"java/util/Objects", "requireNonNull", "(Ljava/lang/Object;)Ljava/lang/Object;"⟩ : MethodName) (head1 (Jvm.Cond.code (⟨"java/util/Objects", "requireNonNull", "(Ljava/lang/Object;)Ljava/lang/Object;"⟩ : MethodName) jdk_31_method_10_code 1 (some (.object "java/lang/Object")) :: ws) ({ frames := 0, cells := 0, slots := 0, locals := 0 } : Room)) (fun a U => a = #[(.ref a1)] ∧ Z.Warmed39 U.vm ∧ U.heap = h0) (fun _ _ _ _ _ => True) (fun _ U o U' => ∃ v L, o = .returned v ∧ own_Qrm_rn1 Z G1 k_EMPTY a1 h0 n0 v U'.heap L ∧ FrameEnd U o U' L ({ frames := 0, cells := 0, slots := 0, locals := 0 } : Room).cells ({ frames := 0, cells := 0, slots := 0, locals := 0 } : Room).slots) := by
  refine MetFree.of_bodySF (plainFor_of_name own_pn1) hisR ?_
  intro p e s m args below meth c s₁ Bd hml0 hP hK
  obtain ⟨rfl, hZ, hh⟩ := hP
  obtain ⟨O_CS, P_CS, O_EMPTY, E_EMPTY, F_EMPTY⟩ := id gl
  have hx := Bd.exec
  have hby := Bd.bytes
  have hml : c.maxLocals = 1 := hml0
  have hown : s.vm.findClass "java/util/Objects" = some m.cls := findClass_of_methodNamed Bd.named
  have hnm := (name_of_methodNamed Bd.named Bd.method).1
  have X0 : Stand p l e ({ frames := 0, cells := 0, slots := 0, locals := 0 } : Room) s m #[(.ref a1)] below meth c s₁ [] 0 0 := Stand.of_body Bd
  have e0 : s₁.heap = h0 := by rw [← hh, Bd.state]; rfl
  have N0 := Fr.nil n0
  have pre0 : ∀ t, Steps p.tables e below (s₁.setTop (mkF m 0 #[.val (.ref a1)] [])) t → Steps p.tables e below (s₁.setTop (entryFrame m #[(.ref a1)] 1)) t := fun t k => castTop (own_efrm_rn1 m a1) k
  obtain ⟨fs, hr, hrun, hended, hW, hsame⟩ := X0.leave (v := some (.ref a1)) (fun h => by rw [Bd.returns] at h; cases h)
  refine ⟨_, _, pre0 _ ?_, hrun, hended, _, _, rfl, ?_, ⟨_, rfl⟩, hW, hsame.mono (by decide) (by decide)⟩
  · show Steps p.tables e below (s₁.setTop (mkF m 0 #[.val (.ref a1)] [])) _
    refine XS.aloadN X0.here hx rfl (hb hby own_d_jdk_31_method_10_0) rfl rfl ?_
    show Steps p.tables e below (s₁.setTop (mkF m 1 #[.val (.ref a1)] [(.ref a1)])) _
    refine XS.ifnonnullYes X0.here hx rfl (pc0 := 1) (pc' := 12) rfl (hb hby own_d_jdk_31_method_10_1) rfl (by decide) (by decide) ?_
    show Steps p.tables e below (s₁.setTop (mkF m 12 #[.val (.ref a1)] [])) _
    refine XS.aloadN X0.here hx rfl (hb hby own_d_jdk_31_method_10_12) rfl rfl ?_
    show Steps p.tables e below (s₁.setTop (mkF m 13 #[.val (.ref a1)] [(.ref a1)])) _
    jvm_step X0.here [X0.here.top, hx, (hb hby own_d_jdk_31_method_10_13), X0.method', Bd.returns, Value.isRef, FieldType.isReference]
    first | (intro acts; rw [hr _ acts rfl rfl rfl]) | rw [hr _ _ rfl rfl rfl]
    exact Steps.refl _
  · show own_Qrm_rn1 Z G1 k_EMPTY a1 h0 n0 _ s₁.heap _
    rw [e0]
    exact ⟨rfl, N0, rfl⟩
theorem own_d_jdk_32_method_2_0 : decode jdk_32_method_2_code 0 = .ok (.aload_n 0, 1) := by decide +kernel
theorem own_d_jdk_32_method_2_1 : decode jdk_32_method_2_code 1 = .ok (.invokespecial 7, 3) := by decide +kernel
theorem own_d_jdk_32_method_2_4 : decode jdk_32_method_2_code 4 = .ok (.aload_n 0, 1) := by decide +kernel
theorem own_d_jdk_32_method_2_5 : decode jdk_32_method_2_code 5 = .ok (.aload_n 1, 1) := by decide +kernel
theorem own_d_jdk_32_method_2_6 : decode jdk_32_method_2_code 6 = .ok (.putfield 13, 3) := by decide +kernel
theorem own_d_jdk_32_method_2_9 : decode jdk_32_method_2_code 9 = .ok (.return_, 1) := by decide +kernel
theorem own_pn2 : plainName "java/util/Optional" = true := by first | (simp [plainName, overriddenIn]; done) | decide +kernel
def own_Qrm_opi (Z : State) (G1 : Int32) (k_EMPTY : Addr) (a1 : Addr) (a2 : Addr) (u3 : Value) (h0 : Heap) (n0 : Nat) (v : Option Value) (h : Heap) (L : List Loc) : Prop := (v = none) ∧ (Fr n0 L) ∧ (Keep h0 h [a1]) ∧ (Exa Z h a1 "java/util/Optional") ∧ (Fld Z h a1 "java/util/Optional" "value" "Ljava/lang/Object;" (.ref a2))
theorem own_efrm_opi (m : MethodId) (a1 : Addr) (a2 : Addr) : entryFrame m #[(.ref a1), (.ref a2)] 2 = mkF m 0 #[.val (.ref a1), .val (.ref a2)] [] := by first | (simp [entryFrame, mkF, argsToLocals, Value.category]; done) | rfl
set_option maxRecDepth 65536 in
set_option maxHeartbeats 40000000 in
theorem own_rm_opi (l : Launch) (Z : State) (a0 : Array Value) (hw : ∀ d ∈ tables_1, d.before a0 Z = true) (ws : List Jvm.Cond) (G1 : Int32) (k_EMPTY : Addr) (gl : own_Glob Z G1 k_EMPTY) (a1 : Addr) (a2 : Addr) (u3 : Value) (h0 : Heap) (n0 : Nat) (Z0 : n0 ≤ h0.size) (P1 : Exa Z h0 a1 "java/util/Optional") (P2 : Fld Z h0 a1 "java/util/Optional" "value" "Ljava/lang/Object;" u3) (P3 : n0 ≤ a1) :
    MetFree l (⟨"java/util/Optional", "<init>", "(Ljava/lang/Object;)V"⟩ : MethodName) (head1 (Jvm.Cond.code (⟨"java/util/Optional", "<init>", "(Ljava/lang/Object;)V"⟩ : MethodName) jdk_32_method_2_code 2 none :: ws) ({ frames := 1, cells := 0, slots := 0, locals := 12 } : Room)) (fun a U => a = #[(.ref a1), (.ref a2)] ∧ Z.Warmed39 U.vm ∧ U.heap = h0) (fun _ _ _ _ _ => True) (fun _ U o U' => ∃ v L, o = .returned v ∧ own_Qrm_opi Z G1 k_EMPTY a1 a2 u3 h0 n0 v U'.heap L ∧ FrameEnd U o U' L ({ frames := 1, cells := 0, slots := 0, locals := 12 } : Room).cells ({ frames := 1, cells := 0, slots := 0, locals := 12 } : Room).slots) := by
  refine MetFree.of_bodySF (plainFor_of_name own_pn2) hisR ?_
  intro p e s m args below meth c s₁ Bd hml0 hP hK
  obtain ⟨rfl, hZ, hh⟩ := hP
  obtain ⟨O_CS, P_CS, O_EMPTY, E_EMPTY, F_EMPTY⟩ := id gl
  have hx := Bd.exec
  have hby := Bd.bytes
  have hml : c.maxLocals = 2 := hml0
  have hown : s.vm.findClass "java/util/Optional" = some m.cls := findClass_of_methodNamed Bd.named
  have hnm := (name_of_methodNamed Bd.named Bd.method).1
  have X0 : Stand p l e ({ frames := 1, cells := 0, slots := 0, locals := 12 } : Room) s m #[(.ref a1), (.ref a2)] below meth c s₁ [] 0 0 := Stand.of_body Bd
  have e0 : s₁.heap = h0 := by rw [← hh, Bd.state]; rfl
  have N0 := Fr.nil n0
  have pre0 : ∀ t, Steps p.tables e below (s₁.setTop (mkF m 0 #[.val (.ref a1), .val (.ref a2)] [])) t → Steps p.tables e below (s₁.setTop (entryFrame m #[(.ref a1), (.ref a2)] 2)) t := fun t k => castTop (own_efrm_opi m a1 a2) k
  obtain ⟨T1, X1, e1, st1⟩ := initO X0 hx hZ hown (hw _ (List.mem_of_getElem? (i := 77) rfl)) (hw _ (List.mem_of_getElem? (i := 18) rfl)) (hw _ (List.mem_of_getElem? (i := 19) rfl)) e0 (g := (mkF m 1 #[.val (.ref a1), .val (.ref a2)] [(.ref a1)])) rfl (by rw [hml]; rfl) rfl (hb hby own_d_jdk_32_method_2_1) (by decide) (W := 0) (by show 2 * 0 + _ ≤ _; exact Nat.le_of_eq rfl) (by decide)
  obtain ⟨T2, h2, X2, e2, W2, st2⟩ := putF X1 hx hZ hown (host := "") (Or.inl (hw _ (List.mem_of_getElem? (i := 78) rfl))) Via.refl e1 P2 P1 (Or.inr ⟨(hw _ (List.mem_of_getElem? (i := 79) rfl)), rfl, hnm⟩) (hw _ (List.mem_of_getElem? (i := 69) rfl)) (ty := (.object "java/lang/Object")) (by decide) rfl rfl (g := (mkF m 6 #[.val (.ref a1), .val (.ref a2)] [(.ref a2), (.ref a1)])) rfl rfl (hb hby own_d_jdk_32_method_2_6)
  have Kp3 : Keep h0 h2 [a1] := (Keep.refl h0 [a1]).wr W2 (Or.inl (List.mem_of_getElem? (i := 0) rfl))
  obtain ⟨Lp2, X2, N2⟩ := own_pack X2 (Fr.snoc X2 N0 P3)
  have Fh4 : Fld Z h2 a1 "java/util/Optional" "value" "Ljava/lang/Object;" (.ref a2) := P2.same W2
  have Eh5 : Exa Z h2 a1 "java/util/Optional" := (P1.wr W2)
  obtain ⟨fs, hr, hrun, hended, hW, hsame⟩ := X2.leave (v := none) (fun _ => rfl)
  refine ⟨_, _, pre0 _ ?_, hrun, hended, _, _, rfl, ?_, ⟨_, rfl⟩, hW, hsame.mono (by decide) (by decide)⟩
  · show Steps p.tables e below (s₁.setTop (mkF m 0 #[.val (.ref a1), .val (.ref a2)] [])) _
    refine XS.aloadN X0.here hx rfl (hb hby own_d_jdk_32_method_2_0) rfl rfl ?_
    show Steps p.tables e below (s₁.setTop (mkF m 1 #[.val (.ref a1), .val (.ref a2)] [(.ref a1)])) _
    refine st1 _ ?_
    show Steps p.tables e below (T1.setTop (mkF m 4 #[.val (.ref a1), .val (.ref a2)] [])) _
    refine XS.aloadN X1.here hx rfl (hb hby own_d_jdk_32_method_2_4) rfl rfl ?_
    show Steps p.tables e below (T1.setTop (mkF m 5 #[.val (.ref a1), .val (.ref a2)] [(.ref a1)])) _
    refine XS.aloadN X1.here hx rfl (hb hby own_d_jdk_32_method_2_5) rfl rfl ?_
    show Steps p.tables e below (T1.setTop (mkF m 6 #[.val (.ref a1), .val (.ref a2)] [(.ref a2), (.ref a1)])) _
    refine st2 _ ?_
    show Steps p.tables e below (T2.setTop (mkF m 9 #[.val (.ref a1), .val (.ref a2)] [])) _
    exact X2.returnOut hx Bd.returns (hb hby own_d_jdk_32_method_2_9) hr
  · show own_Qrm_opi Z G1 k_EMPTY a1 a2 u3 h0 n0 _ T2.heap _
    rw [e2]
    exact ⟨rfl, N2, Kp3, Eh5, Fh4⟩
theorem own_d_jdk_32_method_3_0 : decode jdk_32_method_3_code 0 = .ok (.new 2, 3) := by decide +kernel
theorem own_d_jdk_32_method_3_3 : decode jdk_32_method_3_code 3 = .ok (.dup, 1) := by decide +kernel
theorem own_d_jdk_32_method_3_4 : decode jdk_32_method_3_code 4 = .ok (.aload_n 0, 1) := by decide +kernel
theorem own_d_jdk_32_method_3_5 : decode jdk_32_method_3_code 5 = .ok (.invokestatic 17, 3) := by decide +kernel
theorem own_pd3 : parseMethodDescriptor "(Ljava/lang/Object;)Ljava/lang/Object;" = some ⟨[(.object "java/lang/Object")], some (.object "java/lang/Object")⟩ := by decide +kernel
theorem own_d_jdk_32_method_3_8 : decode jdk_32_method_3_code 8 = .ok (.invokespecial 23, 3) := by decide +kernel
theorem own_pd4 : parseMethodDescriptor "(Ljava/lang/Object;)V" = some ⟨[(.object "java/lang/Object")], none⟩ := by decide +kernel
theorem own_d_jdk_32_method_3_11 : decode jdk_32_method_3_code 11 = .ok (.areturn, 1) := by decide +kernel
def own_Qrm_of (Z : State) (G1 : Int32) (k_EMPTY : Addr) (a1 : Addr) (h0 : Heap) (n0 : Nat) (v : Option Value) (h : Heap) (L : List Loc) : Prop := ∃ (b1 : Addr), (v = some (.ref b1)) ∧ (Fr n0 L) ∧ (Keep h0 h []) ∧ (h0.size ≤ b1) ∧ (Exa Z h b1 "java/util/Optional") ∧ (Fld Z h b1 "java/util/Optional" "value" "Ljava/lang/Object;" (.ref a1))
theorem own_efrm_of (m : MethodId) (a1 : Addr) : entryFrame m #[(.ref a1)] 1 = mkF m 0 #[.val (.ref a1)] [] := by first | (simp [entryFrame, mkF, argsToLocals, Value.category]; done) | rfl
set_option maxRecDepth 65536 in
set_option maxHeartbeats 40000000 in
theorem own_rm_of (l : Launch) (Z : State) (a0 : Array Value) (hw : ∀ d ∈ tables_1, d.before a0 Z = true) (ws : List Jvm.Cond) (G1 : Int32) (k_EMPTY : Addr) (gl : own_Glob Z G1 k_EMPTY) (a1 : Addr) (h0 : Heap) (n0 : Nat) (Z0 : n0 ≤ h0.size) :
    MetFree l (⟨"java/util/Optional", "of", "(Ljava/lang/Object;)Ljava/util/Optional;"⟩ : MethodName) (head1 (Jvm.Cond.code (⟨"java/util/Optional", "of", "(Ljava/lang/Object;)Ljava/util/Optional;"⟩ : MethodName) jdk_32_method_3_code 1 (some (.object "java/util/Optional")) :: ws) ({ frames := 2, cells := 1, slots := 1, locals := 26 } : Room)) (fun a U => a = #[(.ref a1)] ∧ Z.Warmed39 U.vm ∧ U.heap = h0) (fun _ _ _ _ _ => True) (fun _ U o U' => ∃ v L, o = .returned v ∧ own_Qrm_of Z G1 k_EMPTY a1 h0 n0 v U'.heap L ∧ FrameEnd U o U' L ({ frames := 2, cells := 1, slots := 1, locals := 26 } : Room).cells ({ frames := 2, cells := 1, slots := 1, locals := 26 } : Room).slots) := by
  refine MetFree.of_bodySF (plainFor_of_name own_pn2) hisR ?_
  intro p e s m args below meth c s₁ Bd hml0 hP hK
  obtain ⟨rfl, hZ, hh⟩ := hP
  obtain ⟨O_CS, P_CS, O_EMPTY, E_EMPTY, F_EMPTY⟩ := id gl
  have hx := Bd.exec
  have hby := Bd.bytes
  have hml : c.maxLocals = 1 := hml0
  have hown : s.vm.findClass "java/util/Optional" = some m.cls := findClass_of_methodNamed Bd.named
  have hnm := (name_of_methodNamed Bd.named Bd.method).1
  have X0 : Stand p l e ({ frames := 2, cells := 1, slots := 1, locals := 26 } : Room) s m #[(.ref a1)] below meth c s₁ [] 0 0 := Stand.of_body Bd
  have e0 : s₁.heap = h0 := by rw [← hh, Bd.state]; rfl
  have N0 := Fr.nil n0
  have pre0 : ∀ t, Steps p.tables e below (s₁.setTop (mkF m 0 #[.val (.ref a1)] [])) t → Steps p.tables e below (s₁.setTop (entryFrame m #[(.ref a1)] 1)) t := fun t k => castTop (own_efrm_of m a1) k
  obtain ⟨T1, h1, X1, e1, E1, A1, D1, U1, st1⟩ := newO X0 hx hZ hown (hw _ (List.mem_of_getElem? (i := 68) rfl)) (hw _ (List.mem_of_getElem? (i := 69) rfl)) (hw _ (List.mem_of_getElem? (i := 66) rfl)) e0 (g := (mkF m 0 #[.val (.ref a1)] [])) rfl (hb hby own_d_jdk_32_method_3_0) (by decide) (by decide)
  obtain ⟨b1, g1⟩ : ∃ z, z = h0.size := ⟨_, rfl⟩
  rw [← g1] at A1 D1 U1 st1
  have Kp2 : Keep h0 h1 [] := (Keep.refl h0 []).ext E1
  obtain ⟨_, _, ⟨T3, L3, k3, n3⟩, -, X3, ⟨Lc3, hQ3, l3, y3, z3⟩, st3⟩ := Jvm.LawKit.callS X1 hx (y := (⟨"java/util/Objects", "requireNonNull", "(Ljava/lang/Object;)Ljava/lang/Object;"⟩ : MethodName)) hown (mvT hZ (hw _ (List.mem_of_getElem? (i := 70) rfl))) (mvT hZ (hw _ (List.mem_of_getElem? (i := 71) rfl))) (mvT hZ (hw _ (List.mem_of_getElem? (i := 53) rfl))) (mvT hZ (hw _ (List.mem_of_getElem? (i := 72) rfl))) (by decide) (backOf (W := 2) (own_rm_rn1 l Z a0 hw [] G1 k_EMPTY gl a1 h1 n0 (Nat.le_trans Z0 Kp2.1) ) hZ (hw _ (List.mem_of_getElem? (i := 72) rfl)) (hw _ (List.mem_of_getElem? (i := 53) rfl)) (by decide) (by decide)) (g := (mkF m 5 #[.val (.ref a1)] [(.ref a1), (.ref b1), (.ref b1)])) rfl (by rw [hml]; rfl) (argsL := [(.ref a1)]) (rest := [(.ref b1), (.ref b1)]) (lenOf own_pd3 rfl) rfl (by show 2 * 0 + _ ≤ _; exact Nat.le_of_eq rfl) (hb hby own_d_jdk_32_method_3_5) (fun _ _ => ⟨rfl, e1, (by decide : 1 + 0 ≤ _), (by decide : 1 + 0 ≤ _)⟩)
  dsimp only [Pt.U, Pt.locs, Pt.cells, Pt.slots] at X3 l3 y3 z3 st3 hQ3
  subst y3 z3
  obtain ⟨rfl, Nq3, e3⟩ := hQ3
  have N3 : Fr n0 L3 := by rw [l3]; exact Fr.app N0 Nq3
  have Fh4 : Fld Z h1 b1 "java/util/Optional" "value" "Ljava/lang/Object;" .null := (D1 (Or.inr (hw _ (List.mem_of_getElem? (i := 79) rfl))) (ty := (.object "java/lang/Object")) (by decide))
  have gh5 : n0 ≤ b1 := Nat.le_trans Z0 (Nat.le_of_eq g1.symm)
  obtain ⟨_, _, ⟨T6, L6, k6, n6⟩, -, X6, ⟨Lc6, hQ6, l6, y6, z6⟩, st6⟩ := X3.specialBack hx (y := (⟨"java/util/Optional", "<init>", "(Ljava/lang/Object;)V"⟩ : MethodName)) rfl hown (mvT hZ (hw _ (List.mem_of_getElem? (i := 73) rfl))) (mvT hZ (hw _ (List.mem_of_getElem? (i := 74) rfl))) (mvT hZ (hw _ (List.mem_of_getElem? (i := 76) rfl))) (by decide) (backOf (W := 1) (own_rm_opi l Z a0 hw [] G1 k_EMPTY gl b1 a1 (.null) h1 n0 (Nat.le_trans Z0 Kp2.1) A1 Fh4 gh5) hZ (hw _ (List.mem_of_getElem? (i := 76) rfl)) (hw _ (List.mem_of_getElem? (i := 66) rfl)) (by decide) (by decide)) (g := (mkF m 8 #[.val (.ref a1)] [(.ref a1), (.ref b1), (.ref b1)])) rfl (by rw [hml]; rfl) (Steps.refl _) (a := b1) (argsL := [(.ref a1)]) (rest := [(.ref b1)]) (lenOf own_pd4 rfl) rfl (by show 2 * 0 + _ ≤ _; exact Nat.le_of_eq rfl) (hb hby own_d_jdk_32_method_3_8) (fun _ _ => ⟨rfl, e3, (by decide : 1 + 0 ≤ _), (by decide : 1 + 0 ≤ _)⟩)
  dsimp only [Pt.U, Pt.locs, Pt.cells, Pt.slots] at X6 l6 y6 z6 st6 hQ6
  subst y6 z6
  obtain ⟨rfl, Nq6, Kq6, f6_0, f6_1⟩ := hQ6
  have N6 : Fr n0 L6 := by rw [l6]; exact Fr.app N3 Nq6
  have Kp7 : Keep h0 T6.heap [] := Kp2.trans Kq6 (allS (Or.inr (Nat.le_trans (Keep.refl h0 []).1 (Nat.le_of_eq g1.symm))) all0)
  obtain ⟨fs, hr, hrun, hended, hW, hsame⟩ := X6.leave (v := some (.ref b1)) (fun h => by rw [Bd.returns] at h; cases h)
  refine ⟨_, _, pre0 _ ?_, hrun, hended, _, _, rfl, ?_, ⟨_, rfl⟩, hW, hsame.mono (by decide) (by decide)⟩
  · show Steps p.tables e below (s₁.setTop (mkF m 0 #[.val (.ref a1)] [])) _
    refine st1 _ ?_
    show Steps p.tables e below (T1.setTop (mkF m 3 #[.val (.ref a1)] [(.ref b1)])) _
    refine XS.dup X1.here hx rfl (hb hby own_d_jdk_32_method_3_3) rfl rfl ?_
    show Steps p.tables e below (T1.setTop (mkF m 4 #[.val (.ref a1)] [(.ref b1), (.ref b1)])) _
    refine XS.aloadN X1.here hx rfl (hb hby own_d_jdk_32_method_3_4) rfl rfl ?_
    show Steps p.tables e below (T1.setTop (mkF m 5 #[.val (.ref a1)] [(.ref a1), (.ref b1), (.ref b1)])) _
    refine st3 _ ?_
    show Steps p.tables e below (T3.setTop (mkF m 8 #[.val (.ref a1)] [(.ref a1), (.ref b1), (.ref b1)])) _
    refine st6.trans ?_
    show Steps p.tables e below (T6.setTop (mkF m 11 #[.val (.ref a1)] [(.ref b1)])) _
    jvm_step X6.here [X6.here.top, hx, (hb hby own_d_jdk_32_method_3_11), X6.method', Bd.returns, Value.isRef, FieldType.isReference]
    first | (intro acts; rw [hr _ acts rfl rfl rfl]) | rw [hr _ _ rfl rfl rfl]
    exact Steps.refl _
  · show own_Qrm_of Z G1 k_EMPTY a1 h0 n0 _ T6.heap _
    exact ⟨b1, rfl, N6, Kp7, (Nat.le_trans (Keep.refl h0 []).1 (Nat.le_of_eq g1.symm)), f6_0, f6_1⟩
theorem own_d_jdk_32_method_1_0 : decode jdk_32_method_1_code 0 = .ok (.getstatic 1, 3) := by decide +kernel
theorem own_d_jdk_32_method_1_3 : decode jdk_32_method_1_code 3 = .ok (.astore_n 0, 1) := by decide +kernel
theorem own_d_jdk_32_method_1_4 : decode jdk_32_method_1_code 4 = .ok (.aload_n 0, 1) := by decide +kernel
theorem own_d_jdk_32_method_1_5 : decode jdk_32_method_1_code 5 = .ok (.areturn, 1) := by decide +kernel
def own_Qrm_empty (Z : State) (G1 : Int32) (k_EMPTY : Addr)  (h0 : Heap) (n0 : Nat) (v : Option Value) (h : Heap) (L : List Loc) : Prop := (v = some (.ref k_EMPTY)) ∧ (Fr n0 L) ∧ (h = h0)
theorem own_efrm_empty (m : MethodId) : entryFrame m #[] 1 = mkF m 0 #[.unset] [] := by first | (simp [entryFrame, mkF, argsToLocals, Value.category]; done) | rfl
set_option maxRecDepth 65536 in
set_option maxHeartbeats 40000000 in
theorem own_rm_empty (l : Launch) (Z : State) (a0 : Array Value) (hw : ∀ d ∈ tables_1, d.before a0 Z = true) (ws : List Jvm.Cond) (G1 : Int32) (k_EMPTY : Addr) (gl : own_Glob Z G1 k_EMPTY)  (h0 : Heap) (n0 : Nat) (Z0 : n0 ≤ h0.size) (X00 : Old Z n0 h0) :
    MetFree l (⟨"java/util/Optional", "empty", "()Ljava/util/Optional;"⟩ : MethodName) (head1 (Jvm.Cond.code (⟨"java/util/Optional", "empty", "()Ljava/util/Optional;"⟩ : MethodName) jdk_32_method_1_code 1 (some (.object "java/util/Optional")) :: ws) ({ frames := 0, cells := 0, slots := 0, locals := 0 } : Room)) (fun a U => a = #[] ∧ Z.Warmed39 U.vm ∧ U.heap = h0) (fun _ _ _ _ _ => True) (fun _ U o U' => ∃ v L, o = .returned v ∧ own_Qrm_empty Z G1 k_EMPTY  h0 n0 v U'.heap L ∧ FrameEnd U o U' L ({ frames := 0, cells := 0, slots := 0, locals := 0 } : Room).cells ({ frames := 0, cells := 0, slots := 0, locals := 0 } : Room).slots) := by
  refine MetFree.of_bodySF (plainFor_of_name own_pn2) hisR ?_
  intro p e s m args below meth c s₁ Bd hml0 hP hK
  obtain ⟨rfl, hZ, hh⟩ := hP
  obtain ⟨O_CS, P_CS, O_EMPTY, E_EMPTY, F_EMPTY⟩ := id gl
  have hx := Bd.exec
  have hby := Bd.bytes
  have hml : c.maxLocals = 1 := hml0
  have hown : s.vm.findClass "java/util/Optional" = some m.cls := findClass_of_methodNamed Bd.named
  have hnm := (name_of_methodNamed Bd.named Bd.method).1
  have X0 : Stand p l e ({ frames := 0, cells := 0, slots := 0, locals := 0 } : Room) s m #[] below meth c s₁ [] 0 0 := Stand.of_body Bd
  have e0 : s₁.heap = h0 := by rw [← hh, Bd.state]; rfl
  have N0 := Fr.nil n0
  have pre0 : ∀ t, Steps p.tables e below (s₁.setTop (mkF m 0 #[.unset] [])) t → Steps p.tables e below (s₁.setTop (entryFrame m #[] 1)) t := fun t k => castTop (own_efrm_empty m) k
  obtain ⟨T1, X1, e1, st1⟩ := getS2 X0 hx hZ hown (host := "") (Or.inl (hw _ (List.mem_of_getElem? (i := 120) rfl))) Via.refl e0 (O_EMPTY.ext X00.2) (g := (mkF m 0 #[.unset] [])) rfl (hb hby own_d_jdk_32_method_1_0)
  obtain ⟨fs, hr, hrun, hended, hW, hsame⟩ := X1.leave (v := some (.ref k_EMPTY)) (fun h => by rw [Bd.returns] at h; cases h)
  refine ⟨_, _, pre0 _ ?_, hrun, hended, _, _, rfl, ?_, ⟨_, rfl⟩, hW, hsame.mono (by decide) (by decide)⟩
  · show Steps p.tables e below (s₁.setTop (mkF m 0 #[.unset] [])) _
    refine st1 _ ?_
    show Steps p.tables e below (T1.setTop (mkF m 3 #[.unset] [(.ref k_EMPTY)])) _
    refine XS.astoreN X1.here hx rfl (hb hby own_d_jdk_32_method_1_3) rfl rfl (l' := #[.val (.ref k_EMPTY)]) rfl ?_
    show Steps p.tables e below (T1.setTop (mkF m 4 #[.val (.ref k_EMPTY)] [])) _
    refine XS.aloadN X1.here hx rfl (hb hby own_d_jdk_32_method_1_4) rfl rfl ?_
    show Steps p.tables e below (T1.setTop (mkF m 5 #[.val (.ref k_EMPTY)] [(.ref k_EMPTY)])) _
    jvm_step X1.here [X1.here.top, hx, (hb hby own_d_jdk_32_method_1_5), X1.method', Bd.returns, Value.isRef, FieldType.isReference]
    first | (intro acts; rw [hr _ acts rfl rfl rfl]) | rw [hr _ _ rfl rfl rfl]
    exact Steps.refl _
  · show own_Qrm_empty Z G1 k_EMPTY  h0 n0 _ T1.heap _
    rw [e1]
    exact ⟨rfl, N0, rfl⟩
theorem own_d_prog_16_method_1_0 : decode prog_16_method_1_code 0 = .ok (.aload_n 0, 1) := by decide +kernel
theorem own_d_prog_16_method_1_1 : decode prog_16_method_1_code 1 = .ok (.invokespecial 1, 3) := by decide +kernel
theorem own_pd5 : parseMethodDescriptor "()V" = some ⟨[], none⟩ := by decide +kernel
theorem own_d_prog_16_method_1_4 : decode prog_16_method_1_code 4 = .ok (.aload_n 1, 1) := by decide +kernel
theorem own_d_prog_16_method_1_5 : decode prog_16_method_1_code 5 = .ok (.ldc 7, 2) := by decide +kernel
theorem own_d_prog_16_method_1_7 : decode prog_16_method_1_code 7 = .ok (.invokestatic 9, 3) := by decide +kernel
theorem own_pd6 : parseMethodDescriptor "(Ljava/lang/Object;Ljava/lang/String;)Ljava/lang/Object;" = some ⟨[(.object "java/lang/Object"), (.object "java/lang/String")], some (.object "java/lang/Object")⟩ := by decide +kernel
theorem own_d_prog_16_method_1_10 : decode prog_16_method_1_code 10 = .ok (.pop, 1) := by decide +kernel
theorem own_d_prog_16_method_1_11 : decode prog_16_method_1_code 11 = .ok (.aload_n 1, 1) := by decide +kernel
theorem own_d_prog_16_method_1_12 : decode prog_16_method_1_code 12 = .ok (.invokevirtual 15, 3) := by decide +kernel
theorem own_pd7 : parseMethodDescriptor "()Z" = some ⟨[], some .boolean⟩ := by decide +kernel
theorem own_d_prog_16_method_1_15 : decode prog_16_method_1_code 15 = .ok (.ifCond .eq 13, 3) := by decide +kernel
theorem own_d_prog_16_method_1_28 : decode prog_16_method_1_code 28 = .ok (.aload_n 0, 1) := by decide +kernel
theorem own_d_prog_16_method_1_29 : decode prog_16_method_1_code 29 = .ok (.aload_n 1, 1) := by decide +kernel
theorem own_d_prog_16_method_1_30 : decode prog_16_method_1_code 30 = .ok (.putfield 28, 3) := by decide +kernel
theorem own_d_prog_16_method_1_33 : decode prog_16_method_1_code 33 = .ok (.aload_n 0, 1) := by decide +kernel
theorem own_d_prog_16_method_1_34 : decode prog_16_method_1_code 34 = .ok (.iload_n 2, 1) := by decide +kernel
theorem own_d_prog_16_method_1_35 : decode prog_16_method_1_code 35 = .ok (.putfield 33, 3) := by decide +kernel
theorem own_d_prog_16_method_1_38 : decode prog_16_method_1_code 38 = .ok (.return_, 1) := by decide +kernel
theorem own_pn8 : plainName "com/example/leftmost/leftmost/grammar/Symbol" = true := by first | (simp [plainName, overriddenIn]; done) | decide +kernel
def own_Qrm_sym1 (Z : State) (G1 : Int32) (k_EMPTY : Addr) (a1 : Addr) (a2 : Addr) (p3 : Int32) (c4 : Int32) (t5 : Addr) (kb6 : ClassId) (u7 : Value) (u8 : Value) (h0 : Heap) (n0 : Nat) (v : Option Value) (h : Heap) (L : List Loc) : Prop := (v = none) ∧ (Fr n0 L) ∧ (Keep h0 h [a1]) ∧ (Exa Z h a1 "com/example/leftmost/leftmost/grammar/Symbol") ∧ (Fld Z h a1 "com/example/leftmost/leftmost/grammar/Symbol" "name" "Ljava/lang/String;" (.ref a2)) ∧ (Fld Z h a1 "com/example/leftmost/leftmost/grammar/Symbol" "isVariable" "Z" (.int (nar .boolean p3)))
theorem own_efrm_sym1 (m : MethodId) (a1 : Addr) (a2 : Addr) (p3 : Int32) : entryFrame m #[(.ref a1), (.ref a2), (.int p3)] 3 = mkF m 0 #[.val (.ref a1), .val (.ref a2), .val (.int p3)] [] := by first | (simp [entryFrame, mkF, argsToLocals, Value.category]; done) | rfl
set_option maxRecDepth 65536 in
set_option maxHeartbeats 40000000 in
theorem own_rm_sym1 (l : Launch) (Z : State) (a0 : Array Value) (hw : ∀ d ∈ tables_1, d.before a0 Z = true) (ws : List Jvm.Cond) (G1 : Int32) (k_EMPTY : Addr) (gl : own_Glob Z G1 k_EMPTY) (a1 : Addr) (a2 : Addr) (p3 : Int32) (c4 : Int32) (t5 : Addr) (kb6 : ClassId) (u7 : Value) (u8 : Value) (h0 : Heap) (n0 : Nat) (Z0 : n0 ≤ h0.size) (X00 : Old Z n0 h0) (P1 : Exa Z h0 a2 "java/lang/String") (P2 : Fld Z h0 a2 "java/lang/String" "value" "[B" (.ref t5)) (P3 : Fld Z h0 a2 "java/lang/String" "coder" "B" (.int (0 : Int32))) (P4 : Arv Z h0 t5 kb6 .byte (1 : Int32) ((([c4] : List Int32).map (fun c => c.toInt8.toInt32)).map Value.int) (.int (0 : Int32))) (P5 : ∀ c ∈ ([c4] : List Int32), ¬ c < 0 ∧ ¬ (255 : Int32) < c) (P6 : Exa Z h0 a1 "com/example/leftmost/leftmost/grammar/Symbol") (P7 : Fld Z h0 a1 "com/example/leftmost/leftmost/grammar/Symbol" "name" "Ljava/lang/String;" u7) (P8 : n0 ≤ a1) (P9 : Fld Z h0 a1 "com/example/leftmost/leftmost/grammar/Symbol" "isVariable" "Z" u8) :
    MetFree l (⟨"com/example/leftmost/leftmost/grammar/Symbol", "<init>", "(Ljava/lang/String;Z)V"⟩ : MethodName) (head1 (Jvm.Cond.code (⟨"com/example/leftmost/leftmost/grammar/Symbol", "<init>", "(Ljava/lang/String;Z)V"⟩ : MethodName) prog_16_method_1_code 3 none :: ws) ({ frames := 2, cells := 2, slots := 20, locals := 24 } : Room)) (fun a U => a = #[(.ref a1), (.ref a2), (.int p3)] ∧ Z.Warmed39 U.vm ∧ U.heap = h0) (fun _ _ _ _ _ => True) (fun _ U o U' => ∃ v L, o = .returned v ∧ own_Qrm_sym1 Z G1 k_EMPTY a1 a2 p3 c4 t5 kb6 u7 u8 h0 n0 v U'.heap L ∧ ReturnedEndW U o U' L ({ frames := 2, cells := 2, slots := 20, locals := 24 } : Room).cells ({ frames := 2, cells := 2, slots := 20, locals := 24 } : Room).slots) := by
  refine MetFree.of_bodySF (plainFor_of_name own_pn8) hisR ?_
  intro p e s m args below meth c s₁ Bd hml0 hP hK
  obtain ⟨rfl, hZ, hh⟩ := hP
  obtain ⟨O_CS, P_CS, O_EMPTY, E_EMPTY, F_EMPTY⟩ := id gl
  have hx := Bd.exec
  have hby := Bd.bytes
  have hml : c.maxLocals = 3 := hml0
  have hown : s.vm.findClass "com/example/leftmost/leftmost/grammar/Symbol" = some m.cls := findClass_of_methodNamed Bd.named
  have hnm := (name_of_methodNamed Bd.named Bd.method).1
  have X0 : Stand p l e ({ frames := 2, cells := 2, slots := 20, locals := 24 } : Room) s m #[(.ref a1), (.ref a2), (.int p3)] below meth c s₁ [] 0 0 := Stand.of_body Bd
  have e0 : s₁.heap = h0 := by rw [← hh, Bd.state]; rfl
  have N0 := Fr.nil n0
  have pre0 : ∀ t, Steps p.tables e below (s₁.setTop (mkF m 0 #[.val (.ref a1), .val (.ref a2), .val (.int p3)] [])) t → Steps p.tables e below (s₁.setTop (entryFrame m #[(.ref a1), (.ref a2), (.int p3)] 3)) t := fun t k => castTop (own_efrm_sym1 m a1 a2 p3) k
  obtain ⟨_, _, ⟨T1, L1, k1, n1⟩, -, X1, ⟨Lc1, hQ1, l1, y1, z1⟩, st1⟩ := X0.specialBack hx (y := (⟨"java/lang/Record", "<init>", "()V"⟩ : MethodName)) rfl hown (mvT hZ (hw _ (List.mem_of_getElem? (i := 42) rfl))) (mvT hZ (hw _ (List.mem_of_getElem? (i := 43) rfl))) (mvT hZ (hw _ (List.mem_of_getElem? (i := 46) rfl))) (by decide) (backOf (W := 0) (own_rm_rec l Z a0 hw [] G1 k_EMPTY gl a1 h0 n0 Z0 ) hZ (hw _ (List.mem_of_getElem? (i := 46) rfl)) (hw _ (List.mem_of_getElem? (i := 45) rfl)) (by decide) (by decide)) (g := (mkF m 1 #[.val (.ref a1), .val (.ref a2), .val (.int p3)] [(.ref a1)])) rfl (by rw [hml]; rfl) (Steps.refl _) (a := a1) (argsL := []) (rest := []) (lenOf own_pd5 rfl) rfl (by show 2 * 0 + _ ≤ _; exact Nat.le_of_eq rfl) (hb hby own_d_prog_16_method_1_1) (fun _ _ => ⟨rfl, e0, (by decide : 0 + 0 ≤ _), (by decide : 0 + 0 ≤ _)⟩)
  dsimp only [Pt.U, Pt.locs, Pt.cells, Pt.slots] at X1 l1 y1 z1 st1 hQ1
  subst y1 z1
  obtain ⟨rfl, Nq1, e1⟩ := hQ1
  have N1 : Fr n0 L1 := by rw [l1]; exact Fr.app N0 Nq1
  obtain ⟨la2, T2, h2, kS2, X2, e2, E2, hS2, hk2, hZ2, hown2, st2⟩ := ldcS (s := s) (vm0 := s.vm) X1 hx hZ hown (hw _ (List.mem_of_getElem? (i := 48) rfl)) (fun d hd => hw d (own_strAtoms d hd)) e1 ((State.WarmedH.refl s).since 0) (Nat.zero_le _) (g := (mkF m 5 #[.val (.ref a1), .val (.ref a2), .val (.int p3)] [(.ref a2)])) rfl (hb hby own_d_prog_16_method_1_5) (n := 16) (by decide) (by decide) (by decide) (by decide)
  have Kp3 : Keep h0 h2 [a1] := (Keep.refl h0 [a1]).ext E2
  obtain ⟨_, _, ⟨T4, L4, k4, n4⟩, -, X4, ⟨Lc4, hQ4, l4, y4, z4⟩, st4⟩ := Jvm.LawKit.callS X2 hx (y := (⟨"java/util/Objects", "requireNonNull", "(Ljava/lang/Object;Ljava/lang/String;)Ljava/lang/Object;"⟩ : MethodName)) hown2 (mvT hZ2 (hw _ (List.mem_of_getElem? (i := 51) rfl))) (mvT hZ2 (hw _ (List.mem_of_getElem? (i := 52) rfl))) (mvT hZ2 (hw _ (List.mem_of_getElem? (i := 53) rfl))) (mvT hZ2 (hw _ (List.mem_of_getElem? (i := 54) rfl))) (by decide) (backOf (W := 0) (own_rm_rn2 l Z a0 hw [] G1 k_EMPTY gl a2 la2 h2 n0 (Nat.le_trans Z0 Kp3.1) ) hZ2 (hw _ (List.mem_of_getElem? (i := 54) rfl)) (hw _ (List.mem_of_getElem? (i := 53) rfl)) (by decide) (by decide)) (g := (mkF m 7 #[.val (.ref a1), .val (.ref a2), .val (.int p3)] [(.ref la2), (.ref a2)])) rfl (by rw [hml]; rfl) (argsL := [(.ref a2), (.ref la2)]) (rest := []) (lenOf own_pd6 rfl) rfl (by show 2 * 0 + _ ≤ _; exact Nat.le_of_eq rfl) (hb hby own_d_prog_16_method_1_7) (fun _ _ => ⟨rfl, e2, (by decide : 2 + 0 ≤ _), (by decide : 20 + 0 ≤ _)⟩)
  dsimp only [Pt.U, Pt.locs, Pt.cells, Pt.slots] at X4 l4 y4 z4 st4 hQ4
  subst y4 z4
  obtain ⟨rfl, Nq4, e4⟩ := hQ4
  have N4 : Fr n0 L4 := by rw [l4]; exact Fr.app N1 Nq4
  have Eh5 : Exa Z h2 a2 "java/lang/String" := (P1.ext E2)
  have Fh6 : Fld Z h2 a2 "java/lang/String" "value" "[B" (.ref t5) := (P2.ext E2)
  have Fh7 : Fld Z h2 a2 "java/lang/String" "coder" "B" (.int (0 : Int32)) := (P3.ext E2)
  have Vh8 : Arv Z h2 t5 kb6 .byte (1 : Int32) ((([c4] : List Int32).map (fun c => c.toInt8.toInt32)).map Value.int) (.int (0 : Int32)) := (P4.ext E2)
  have cdh9 : StrChars.Road.CodA ([c4] : List Int32) 0 (1 : Int32) ((([c4] : List Int32).map (fun c => c.toInt8.toInt32)).map Value.int) := (StrChars.Road.codOf (cs := ([c4] : List Int32)) (n := 1) rfl (fun c hc => (P5 c hc).2))
  have hws_wordsEmp : ∀ d ∈ StrChars.Road.wordsEmp, d.before a0 Z = true := fun d hd => hw d (own_hws_wordsEmp d hd)
  have Old10 : Old Z n0 h2 := X00.ext E2
  obtain ⟨cq11, kq11, q11a, q11b, q11c⟩ := isOf hZ2 e4 Eh5
  obtain ⟨_, _, ⟨T11, L11, k11, n11⟩, -, X11, ⟨Lc11, hQ11, l11, y11, z11⟩, st11⟩ := X4.virtualBack hx (y := (⟨"java/lang/String", "isEmpty", "()Z"⟩ : MethodName)) (z := (⟨"java/lang/String", "isEmpty", "()Z"⟩ : MethodName)) hown2 (mvT hZ2 (hw _ (List.mem_of_getElem? (i := 55) rfl))) (mvT hZ2 (hw _ (List.mem_of_getElem? (i := 56) rfl))) (notFace_of_selects (args := #[]) (mvT hZ2 (hw _ (List.mem_of_getElem? (i := 58) rfl)))) (mvT hZ2 (hw _ (List.mem_of_getElem? (i := 58) rfl))) (mvT hZ2 (hw _ (List.mem_of_getElem? (i := 57) rfl))) (by decide) (StrChars.Road.empW (W := 0) hZ2 hws_wordsEmp (kI := 4) (hw _ (List.mem_of_getElem? (i := 8) rfl)) Eh5 Fh6 Fh7 Vh8 cdh9 (own_up _ P5) (Nat.le_of_ble_eq_true rfl) (by decide) (by decide)) q11a q11c (g := (mkF m 12 #[.val (.ref a1), .val (.ref a2), .val (.int p3)] [(.ref a2)])) rfl (by rw [hml]; rfl) (Steps.refl _) (argsL := []) (rest := []) (lenOf own_pd7 rfl) rfl (by show 2 * 0 + _ ≤ _; exact Nat.le_of_eq rfl) (hb hby own_d_prog_16_method_1_12) (fun _ _ => ⟨rfl, e4, (by decide : 2 + 0 ≤ _), (by decide : 20 + 0 ≤ _)⟩)
  dsimp only [Pt.U, Pt.locs, Pt.cells, Pt.slots] at X11 l11 y11 z11 st11 hQ11
  subst y11 z11
  obtain ⟨rfl, rfl, e11⟩ := hQ11
  have N11 : Fr n0 L11 := by rw [l11]; exact Fr.app N4 (Fr.nil n0)
  have Eh12 : Exa Z h2 a1 "com/example/leftmost/leftmost/grammar/Symbol" := (P6.ext E2)
  have Fh13 : Fld Z h2 a1 "com/example/leftmost/leftmost/grammar/Symbol" "name" "Ljava/lang/String;" u7 := (P7.ext E2)
  obtain ⟨T14, h14, X14, e14, W14, st14⟩ := putF X11 hx hZ2 hown2 (host := "") (Or.inl (hw _ (List.mem_of_getElem? (i := 60) rfl))) Via.refl e11 Fh13 Eh12 (Or.inr ⟨(hw _ (List.mem_of_getElem? (i := 61) rfl)), rfl, hnm⟩) (hw _ (List.mem_of_getElem? (i := 37) rfl)) (ty := (.object "java/lang/String")) (by decide) rfl rfl (g := (mkF m 30 #[.val (.ref a1), .val (.ref a2), .val (.int p3)] [(.ref a2), (.ref a1)])) rfl rfl (hb hby own_d_prog_16_method_1_30)
  have Kp15 : Keep h0 h14 [a1] := Kp3.wr W14 (Or.inl (List.mem_of_getElem? (i := 0) rfl))
  obtain ⟨Lp14, X14, N14⟩ := own_pack X14 (Fr.snoc X14 N11 P8)
  have Fh16 : Fld Z h14 a1 "com/example/leftmost/leftmost/grammar/Symbol" "name" "Ljava/lang/String;" (.ref a2) := Fh13.same W14
  have Eh17 : Exa Z h14 a1 "com/example/leftmost/leftmost/grammar/Symbol" := (Eh12.wr W14)
  have Fh18 : Fld Z h14 a1 "com/example/leftmost/leftmost/grammar/Symbol" "isVariable" "Z" u8 := ((P9.ext E2).other W14 (Or.inr (slot_ne (Or.inr (hw _ (List.mem_of_getElem? (i := 63) rfl))) (Or.inr (hw _ (List.mem_of_getElem? (i := 61) rfl))) (by decide) (t := .boolean) (t' := (.object "java/lang/String")) (by decide) (by decide))))
  obtain ⟨T19, h19, X19, e19, W19, st19⟩ := putFN X14 hx hZ2 hown2 (hw _ (List.mem_of_getElem? (i := 62) rfl)) Via.refl e14 Fh18 Eh17 (Or.inr ⟨(hw _ (List.mem_of_getElem? (i := 63) rfl)), rfl, hnm⟩) (hw _ (List.mem_of_getElem? (i := 37) rfl)) (ty := .boolean) (v' := (.int (nar .boolean p3))) (by decide) rfl (fits_nar_bool _) (g := (mkF m 35 #[.val (.ref a1), .val (.ref a2), .val (.int p3)] [(.int p3), (.ref a1)])) rfl rfl (hb hby own_d_prog_16_method_1_35)
  have Kp20 : Keep h0 h19 [a1] := Kp15.wr W19 (Or.inl (List.mem_of_getElem? (i := 0) rfl))
  obtain ⟨Lp19, X19, N19⟩ := own_pack X19 (Fr.snoc X19 N14 P8)
  have Fh21 : Fld Z h19 a1 "com/example/leftmost/leftmost/grammar/Symbol" "isVariable" "Z" (.int (nar .boolean p3)) := Fh18.same W19
  have Eh22 : Exa Z h19 a1 "com/example/leftmost/leftmost/grammar/Symbol" := (Eh17.wr W19)
  have Fh23 : Fld Z h19 a1 "com/example/leftmost/leftmost/grammar/Symbol" "name" "Ljava/lang/String;" (.ref a2) := (Fh16.other W19 (Or.inr (slot_ne (Or.inr (hw _ (List.mem_of_getElem? (i := 61) rfl))) (Or.inr (hw _ (List.mem_of_getElem? (i := 63) rfl))) (by decide) (t := (.object "java/lang/String")) (t' := .boolean) (by decide) (by decide))))
  obtain ⟨fs, hr, hrun, hended, hREW⟩ := X19.leaveW hS2 (by rw [e19]; exact (Nat.le_trans hk2 (Nat.le_trans (Keep.of_wr W14).1 (Keep.of_wr W19).1))) (v := none) (fun _ => rfl)
  refine ⟨_, _, pre0 _ ?_, hrun, hended, _, _, rfl, ?_, hREW.1, hREW.2.1, hREW.2.2.1, hREW.2.2.2.mono (by decide) (by decide)⟩
  · show Steps p.tables e below (s₁.setTop (mkF m 0 #[.val (.ref a1), .val (.ref a2), .val (.int p3)] [])) _
    refine XS.aloadN X0.here hx rfl (hb hby own_d_prog_16_method_1_0) rfl rfl ?_
    show Steps p.tables e below (s₁.setTop (mkF m 1 #[.val (.ref a1), .val (.ref a2), .val (.int p3)] [(.ref a1)])) _
    refine st1.trans ?_
    show Steps p.tables e below (T1.setTop (mkF m 4 #[.val (.ref a1), .val (.ref a2), .val (.int p3)] [])) _
    refine XS.aloadN X1.here hx rfl (hb hby own_d_prog_16_method_1_4) rfl rfl ?_
    show Steps p.tables e below (T1.setTop (mkF m 5 #[.val (.ref a1), .val (.ref a2), .val (.int p3)] [(.ref a2)])) _
    refine st2 _ ?_
    show Steps p.tables e below (T2.setTop (mkF m 7 #[.val (.ref a1), .val (.ref a2), .val (.int p3)] [(.ref la2), (.ref a2)])) _
    refine st4 _ ?_
    show Steps p.tables e below (T4.setTop (mkF m 10 #[.val (.ref a1), .val (.ref a2), .val (.int p3)] [(.ref a2)])) _
    refine XS.pop X4.here hx rfl (hb hby own_d_prog_16_method_1_10) rfl rfl ?_
    show Steps p.tables e below (T4.setTop (mkF m 11 #[.val (.ref a1), .val (.ref a2), .val (.int p3)] [])) _
    refine XS.aloadN X4.here hx rfl (hb hby own_d_prog_16_method_1_11) rfl rfl ?_
    show Steps p.tables e below (T4.setTop (mkF m 12 #[.val (.ref a1), .val (.ref a2), .val (.int p3)] [(.ref a2)])) _
    refine st11.trans ?_
    show Steps p.tables e below (T11.setTop (mkF m 15 #[.val (.ref a1), .val (.ref a2), .val (.int p3)] [(.int (0 : Int32))])) _
    refine XS.ifYes X11.here hx rfl (pc0 := 15) (pc' := 28) rfl (hb hby own_d_prog_16_method_1_15) rfl ((if0 _ _).trans (teq (rfl : (0 : Int32) = (0 : Int32))).1) (by decide) (by decide) ?_
    show Steps p.tables e below (T11.setTop (mkF m 28 #[.val (.ref a1), .val (.ref a2), .val (.int p3)] [])) _
    refine XS.aloadN X11.here hx rfl (hb hby own_d_prog_16_method_1_28) rfl rfl ?_
    show Steps p.tables e below (T11.setTop (mkF m 29 #[.val (.ref a1), .val (.ref a2), .val (.int p3)] [(.ref a1)])) _
    refine XS.aloadN X11.here hx rfl (hb hby own_d_prog_16_method_1_29) rfl rfl ?_
    show Steps p.tables e below (T11.setTop (mkF m 30 #[.val (.ref a1), .val (.ref a2), .val (.int p3)] [(.ref a2), (.ref a1)])) _
    refine st14 _ ?_
    show Steps p.tables e below (T14.setTop (mkF m 33 #[.val (.ref a1), .val (.ref a2), .val (.int p3)] [])) _
    refine XS.aloadN X14.here hx rfl (hb hby own_d_prog_16_method_1_33) rfl rfl ?_
    show Steps p.tables e below (T14.setTop (mkF m 34 #[.val (.ref a1), .val (.ref a2), .val (.int p3)] [(.ref a1)])) _
    refine XS.iloadN X14.here hx rfl (hb hby own_d_prog_16_method_1_34) rfl ?_
    show Steps p.tables e below (T14.setTop (mkF m 35 #[.val (.ref a1), .val (.ref a2), .val (.int p3)] [(.int p3), (.ref a1)])) _
    refine st19 _ ?_
    show Steps p.tables e below (T19.setTop (mkF m 38 #[.val (.ref a1), .val (.ref a2), .val (.int p3)] [])) _
    exact X19.returnOut hx Bd.returns (hb hby own_d_prog_16_method_1_38) hr
  · show own_Qrm_sym1 Z G1 k_EMPTY a1 a2 p3 c4 t5 kb6 u7 u8 h0 n0 _ T19.heap _
    rw [e19]
    exact ⟨rfl, N19, Kp20, Eh22, Fh23, Fh21⟩
def own_Qrm_sym2 (Z : State) (G1 : Int32) (k_EMPTY : Addr) (a1 : Addr) (a2 : Addr) (p3 : Int32) (c4 : Int32) (c5 : Int32) (t6 : Addr) (kb7 : ClassId) (u8 : Value) (u9 : Value) (h0 : Heap) (n0 : Nat) (v : Option Value) (h : Heap) (L : List Loc) : Prop := (v = none) ∧ (Fr n0 L) ∧ (Keep h0 h [a1]) ∧ (Exa Z h a1 "com/example/leftmost/leftmost/grammar/Symbol") ∧ (Fld Z h a1 "com/example/leftmost/leftmost/grammar/Symbol" "name" "Ljava/lang/String;" (.ref a2)) ∧ (Fld Z h a1 "com/example/leftmost/leftmost/grammar/Symbol" "isVariable" "Z" (.int (nar .boolean p3)))
theorem own_efrm_sym2 (m : MethodId) (a1 : Addr) (a2 : Addr) (p3 : Int32) : entryFrame m #[(.ref a1), (.ref a2), (.int p3)] 3 = mkF m 0 #[.val (.ref a1), .val (.ref a2), .val (.int p3)] [] := by first | (simp [entryFrame, mkF, argsToLocals, Value.category]; done) | rfl
set_option maxRecDepth 65536 in
set_option maxHeartbeats 40000000 in
theorem own_rm_sym2 (l : Launch) (Z : State) (a0 : Array Value) (hw : ∀ d ∈ tables_1, d.before a0 Z = true) (ws : List Jvm.Cond) (G1 : Int32) (k_EMPTY : Addr) (gl : own_Glob Z G1 k_EMPTY) (a1 : Addr) (a2 : Addr) (p3 : Int32) (c4 : Int32) (c5 : Int32) (t6 : Addr) (kb7 : ClassId) (u8 : Value) (u9 : Value) (h0 : Heap) (n0 : Nat) (Z0 : n0 ≤ h0.size) (X00 : Old Z n0 h0) (P1 : Exa Z h0 a2 "java/lang/String") (P2 : Fld Z h0 a2 "java/lang/String" "value" "[B" (.ref t6)) (P3 : Fld Z h0 a2 "java/lang/String" "coder" "B" (.int (0 : Int32))) (P4 : Arv Z h0 t6 kb7 .byte (2 : Int32) ((([c4, c5] : List Int32).map (fun c => c.toInt8.toInt32)).map Value.int) (.int (0 : Int32))) (P5 : ∀ c ∈ ([c4, c5] : List Int32), ¬ c < 0 ∧ ¬ (255 : Int32) < c) (P6 : Exa Z h0 a1 "com/example/leftmost/leftmost/grammar/Symbol") (P7 : Fld Z h0 a1 "com/example/leftmost/leftmost/grammar/Symbol" "name" "Ljava/lang/String;" u8) (P8 : n0 ≤ a1) (P9 : Fld Z h0 a1 "com/example/leftmost/leftmost/grammar/Symbol" "isVariable" "Z" u9) :
    MetFree l (⟨"com/example/leftmost/leftmost/grammar/Symbol", "<init>", "(Ljava/lang/String;Z)V"⟩ : MethodName) (head1 (Jvm.Cond.code (⟨"com/example/leftmost/leftmost/grammar/Symbol", "<init>", "(Ljava/lang/String;Z)V"⟩ : MethodName) prog_16_method_1_code 3 none :: ws) ({ frames := 2, cells := 2, slots := 20, locals := 24 } : Room)) (fun a U => a = #[(.ref a1), (.ref a2), (.int p3)] ∧ Z.Warmed39 U.vm ∧ U.heap = h0) (fun _ _ _ _ _ => True) (fun _ U o U' => ∃ v L, o = .returned v ∧ own_Qrm_sym2 Z G1 k_EMPTY a1 a2 p3 c4 c5 t6 kb7 u8 u9 h0 n0 v U'.heap L ∧ ReturnedEndW U o U' L ({ frames := 2, cells := 2, slots := 20, locals := 24 } : Room).cells ({ frames := 2, cells := 2, slots := 20, locals := 24 } : Room).slots) := by
  refine MetFree.of_bodySF (plainFor_of_name own_pn8) hisR ?_
  intro p e s m args below meth c s₁ Bd hml0 hP hK
  obtain ⟨rfl, hZ, hh⟩ := hP
  obtain ⟨O_CS, P_CS, O_EMPTY, E_EMPTY, F_EMPTY⟩ := id gl
  have hx := Bd.exec
  have hby := Bd.bytes
  have hml : c.maxLocals = 3 := hml0
  have hown : s.vm.findClass "com/example/leftmost/leftmost/grammar/Symbol" = some m.cls := findClass_of_methodNamed Bd.named
  have hnm := (name_of_methodNamed Bd.named Bd.method).1
  have X0 : Stand p l e ({ frames := 2, cells := 2, slots := 20, locals := 24 } : Room) s m #[(.ref a1), (.ref a2), (.int p3)] below meth c s₁ [] 0 0 := Stand.of_body Bd
  have e0 : s₁.heap = h0 := by rw [← hh, Bd.state]; rfl
  have N0 := Fr.nil n0
  have pre0 : ∀ t, Steps p.tables e below (s₁.setTop (mkF m 0 #[.val (.ref a1), .val (.ref a2), .val (.int p3)] [])) t → Steps p.tables e below (s₁.setTop (entryFrame m #[(.ref a1), (.ref a2), (.int p3)] 3)) t := fun t k => castTop (own_efrm_sym2 m a1 a2 p3) k
  obtain ⟨_, _, ⟨T1, L1, k1, n1⟩, -, X1, ⟨Lc1, hQ1, l1, y1, z1⟩, st1⟩ := X0.specialBack hx (y := (⟨"java/lang/Record", "<init>", "()V"⟩ : MethodName)) rfl hown (mvT hZ (hw _ (List.mem_of_getElem? (i := 42) rfl))) (mvT hZ (hw _ (List.mem_of_getElem? (i := 43) rfl))) (mvT hZ (hw _ (List.mem_of_getElem? (i := 46) rfl))) (by decide) (backOf (W := 0) (own_rm_rec l Z a0 hw [] G1 k_EMPTY gl a1 h0 n0 Z0 ) hZ (hw _ (List.mem_of_getElem? (i := 46) rfl)) (hw _ (List.mem_of_getElem? (i := 45) rfl)) (by decide) (by decide)) (g := (mkF m 1 #[.val (.ref a1), .val (.ref a2), .val (.int p3)] [(.ref a1)])) rfl (by rw [hml]; rfl) (Steps.refl _) (a := a1) (argsL := []) (rest := []) (lenOf own_pd5 rfl) rfl (by show 2 * 0 + _ ≤ _; exact Nat.le_of_eq rfl) (hb hby own_d_prog_16_method_1_1) (fun _ _ => ⟨rfl, e0, (by decide : 0 + 0 ≤ _), (by decide : 0 + 0 ≤ _)⟩)
  dsimp only [Pt.U, Pt.locs, Pt.cells, Pt.slots] at X1 l1 y1 z1 st1 hQ1
  subst y1 z1
  obtain ⟨rfl, Nq1, e1⟩ := hQ1
  have N1 : Fr n0 L1 := by rw [l1]; exact Fr.app N0 Nq1
  obtain ⟨la2, T2, h2, kS2, X2, e2, E2, hS2, hk2, hZ2, hown2, st2⟩ := ldcS (s := s) (vm0 := s.vm) X1 hx hZ hown (hw _ (List.mem_of_getElem? (i := 48) rfl)) (fun d hd => hw d (own_strAtoms d hd)) e1 ((State.WarmedH.refl s).since 0) (Nat.zero_le _) (g := (mkF m 5 #[.val (.ref a1), .val (.ref a2), .val (.int p3)] [(.ref a2)])) rfl (hb hby own_d_prog_16_method_1_5) (n := 16) (by decide) (by decide) (by decide) (by decide)
  have Kp3 : Keep h0 h2 [a1] := (Keep.refl h0 [a1]).ext E2
  obtain ⟨_, _, ⟨T4, L4, k4, n4⟩, -, X4, ⟨Lc4, hQ4, l4, y4, z4⟩, st4⟩ := Jvm.LawKit.callS X2 hx (y := (⟨"java/util/Objects", "requireNonNull", "(Ljava/lang/Object;Ljava/lang/String;)Ljava/lang/Object;"⟩ : MethodName)) hown2 (mvT hZ2 (hw _ (List.mem_of_getElem? (i := 51) rfl))) (mvT hZ2 (hw _ (List.mem_of_getElem? (i := 52) rfl))) (mvT hZ2 (hw _ (List.mem_of_getElem? (i := 53) rfl))) (mvT hZ2 (hw _ (List.mem_of_getElem? (i := 54) rfl))) (by decide) (backOf (W := 0) (own_rm_rn2 l Z a0 hw [] G1 k_EMPTY gl a2 la2 h2 n0 (Nat.le_trans Z0 Kp3.1) ) hZ2 (hw _ (List.mem_of_getElem? (i := 54) rfl)) (hw _ (List.mem_of_getElem? (i := 53) rfl)) (by decide) (by decide)) (g := (mkF m 7 #[.val (.ref a1), .val (.ref a2), .val (.int p3)] [(.ref la2), (.ref a2)])) rfl (by rw [hml]; rfl) (argsL := [(.ref a2), (.ref la2)]) (rest := []) (lenOf own_pd6 rfl) rfl (by show 2 * 0 + _ ≤ _; exact Nat.le_of_eq rfl) (hb hby own_d_prog_16_method_1_7) (fun _ _ => ⟨rfl, e2, (by decide : 2 + 0 ≤ _), (by decide : 20 + 0 ≤ _)⟩)
  dsimp only [Pt.U, Pt.locs, Pt.cells, Pt.slots] at X4 l4 y4 z4 st4 hQ4
  subst y4 z4
  obtain ⟨rfl, Nq4, e4⟩ := hQ4
  have N4 : Fr n0 L4 := by rw [l4]; exact Fr.app N1 Nq4
  have Eh5 : Exa Z h2 a2 "java/lang/String" := (P1.ext E2)
  have Fh6 : Fld Z h2 a2 "java/lang/String" "value" "[B" (.ref t6) := (P2.ext E2)
  have Fh7 : Fld Z h2 a2 "java/lang/String" "coder" "B" (.int (0 : Int32)) := (P3.ext E2)
  have Vh8 : Arv Z h2 t6 kb7 .byte (2 : Int32) ((([c4, c5] : List Int32).map (fun c => c.toInt8.toInt32)).map Value.int) (.int (0 : Int32)) := (P4.ext E2)
  have cdh9 : StrChars.Road.CodA ([c4, c5] : List Int32) 0 (2 : Int32) ((([c4, c5] : List Int32).map (fun c => c.toInt8.toInt32)).map Value.int) := (StrChars.Road.codOf (cs := ([c4, c5] : List Int32)) (n := 2) rfl (fun c hc => (P5 c hc).2))
  have hws_wordsEmp : ∀ d ∈ StrChars.Road.wordsEmp, d.before a0 Z = true := fun d hd => hw d (own_hws_wordsEmp d hd)
  have Old10 : Old Z n0 h2 := X00.ext E2
  obtain ⟨cq11, kq11, q11a, q11b, q11c⟩ := isOf hZ2 e4 Eh5
  obtain ⟨_, _, ⟨T11, L11, k11, n11⟩, -, X11, ⟨Lc11, hQ11, l11, y11, z11⟩, st11⟩ := X4.virtualBack hx (y := (⟨"java/lang/String", "isEmpty", "()Z"⟩ : MethodName)) (z := (⟨"java/lang/String", "isEmpty", "()Z"⟩ : MethodName)) hown2 (mvT hZ2 (hw _ (List.mem_of_getElem? (i := 55) rfl))) (mvT hZ2 (hw _ (List.mem_of_getElem? (i := 56) rfl))) (notFace_of_selects (args := #[]) (mvT hZ2 (hw _ (List.mem_of_getElem? (i := 58) rfl)))) (mvT hZ2 (hw _ (List.mem_of_getElem? (i := 58) rfl))) (mvT hZ2 (hw _ (List.mem_of_getElem? (i := 57) rfl))) (by decide) (StrChars.Road.empW (W := 0) hZ2 hws_wordsEmp (kI := 4) (hw _ (List.mem_of_getElem? (i := 8) rfl)) Eh5 Fh6 Fh7 Vh8 cdh9 (own_up _ P5) (Nat.le_of_ble_eq_true rfl) (by decide) (by decide)) q11a q11c (g := (mkF m 12 #[.val (.ref a1), .val (.ref a2), .val (.int p3)] [(.ref a2)])) rfl (by rw [hml]; rfl) (Steps.refl _) (argsL := []) (rest := []) (lenOf own_pd7 rfl) rfl (by show 2 * 0 + _ ≤ _; exact Nat.le_of_eq rfl) (hb hby own_d_prog_16_method_1_12) (fun _ _ => ⟨rfl, e4, (by decide : 2 + 0 ≤ _), (by decide : 20 + 0 ≤ _)⟩)
  dsimp only [Pt.U, Pt.locs, Pt.cells, Pt.slots] at X11 l11 y11 z11 st11 hQ11
  subst y11 z11
  obtain ⟨rfl, rfl, e11⟩ := hQ11
  have N11 : Fr n0 L11 := by rw [l11]; exact Fr.app N4 (Fr.nil n0)
  have Eh12 : Exa Z h2 a1 "com/example/leftmost/leftmost/grammar/Symbol" := (P6.ext E2)
  have Fh13 : Fld Z h2 a1 "com/example/leftmost/leftmost/grammar/Symbol" "name" "Ljava/lang/String;" u8 := (P7.ext E2)
  obtain ⟨T14, h14, X14, e14, W14, st14⟩ := putF X11 hx hZ2 hown2 (host := "") (Or.inl (hw _ (List.mem_of_getElem? (i := 60) rfl))) Via.refl e11 Fh13 Eh12 (Or.inr ⟨(hw _ (List.mem_of_getElem? (i := 61) rfl)), rfl, hnm⟩) (hw _ (List.mem_of_getElem? (i := 37) rfl)) (ty := (.object "java/lang/String")) (by decide) rfl rfl (g := (mkF m 30 #[.val (.ref a1), .val (.ref a2), .val (.int p3)] [(.ref a2), (.ref a1)])) rfl rfl (hb hby own_d_prog_16_method_1_30)
  have Kp15 : Keep h0 h14 [a1] := Kp3.wr W14 (Or.inl (List.mem_of_getElem? (i := 0) rfl))
  obtain ⟨Lp14, X14, N14⟩ := own_pack X14 (Fr.snoc X14 N11 P8)
  have Fh16 : Fld Z h14 a1 "com/example/leftmost/leftmost/grammar/Symbol" "name" "Ljava/lang/String;" (.ref a2) := Fh13.same W14
  have Eh17 : Exa Z h14 a1 "com/example/leftmost/leftmost/grammar/Symbol" := (Eh12.wr W14)
  have Fh18 : Fld Z h14 a1 "com/example/leftmost/leftmost/grammar/Symbol" "isVariable" "Z" u9 := ((P9.ext E2).other W14 (Or.inr (slot_ne (Or.inr (hw _ (List.mem_of_getElem? (i := 63) rfl))) (Or.inr (hw _ (List.mem_of_getElem? (i := 61) rfl))) (by decide) (t := .boolean) (t' := (.object "java/lang/String")) (by decide) (by decide))))
  obtain ⟨T19, h19, X19, e19, W19, st19⟩ := putFN X14 hx hZ2 hown2 (hw _ (List.mem_of_getElem? (i := 62) rfl)) Via.refl e14 Fh18 Eh17 (Or.inr ⟨(hw _ (List.mem_of_getElem? (i := 63) rfl)), rfl, hnm⟩) (hw _ (List.mem_of_getElem? (i := 37) rfl)) (ty := .boolean) (v' := (.int (nar .boolean p3))) (by decide) rfl (fits_nar_bool _) (g := (mkF m 35 #[.val (.ref a1), .val (.ref a2), .val (.int p3)] [(.int p3), (.ref a1)])) rfl rfl (hb hby own_d_prog_16_method_1_35)
  have Kp20 : Keep h0 h19 [a1] := Kp15.wr W19 (Or.inl (List.mem_of_getElem? (i := 0) rfl))
  obtain ⟨Lp19, X19, N19⟩ := own_pack X19 (Fr.snoc X19 N14 P8)
  have Fh21 : Fld Z h19 a1 "com/example/leftmost/leftmost/grammar/Symbol" "isVariable" "Z" (.int (nar .boolean p3)) := Fh18.same W19
  have Eh22 : Exa Z h19 a1 "com/example/leftmost/leftmost/grammar/Symbol" := (Eh17.wr W19)
  have Fh23 : Fld Z h19 a1 "com/example/leftmost/leftmost/grammar/Symbol" "name" "Ljava/lang/String;" (.ref a2) := (Fh16.other W19 (Or.inr (slot_ne (Or.inr (hw _ (List.mem_of_getElem? (i := 61) rfl))) (Or.inr (hw _ (List.mem_of_getElem? (i := 63) rfl))) (by decide) (t := (.object "java/lang/String")) (t' := .boolean) (by decide) (by decide))))
  obtain ⟨fs, hr, hrun, hended, hREW⟩ := X19.leaveW hS2 (by rw [e19]; exact (Nat.le_trans hk2 (Nat.le_trans (Keep.of_wr W14).1 (Keep.of_wr W19).1))) (v := none) (fun _ => rfl)
  refine ⟨_, _, pre0 _ ?_, hrun, hended, _, _, rfl, ?_, hREW.1, hREW.2.1, hREW.2.2.1, hREW.2.2.2.mono (by decide) (by decide)⟩
  · show Steps p.tables e below (s₁.setTop (mkF m 0 #[.val (.ref a1), .val (.ref a2), .val (.int p3)] [])) _
    refine XS.aloadN X0.here hx rfl (hb hby own_d_prog_16_method_1_0) rfl rfl ?_
    show Steps p.tables e below (s₁.setTop (mkF m 1 #[.val (.ref a1), .val (.ref a2), .val (.int p3)] [(.ref a1)])) _
    refine st1.trans ?_
    show Steps p.tables e below (T1.setTop (mkF m 4 #[.val (.ref a1), .val (.ref a2), .val (.int p3)] [])) _
    refine XS.aloadN X1.here hx rfl (hb hby own_d_prog_16_method_1_4) rfl rfl ?_
    show Steps p.tables e below (T1.setTop (mkF m 5 #[.val (.ref a1), .val (.ref a2), .val (.int p3)] [(.ref a2)])) _
    refine st2 _ ?_
    show Steps p.tables e below (T2.setTop (mkF m 7 #[.val (.ref a1), .val (.ref a2), .val (.int p3)] [(.ref la2), (.ref a2)])) _
    refine st4 _ ?_
    show Steps p.tables e below (T4.setTop (mkF m 10 #[.val (.ref a1), .val (.ref a2), .val (.int p3)] [(.ref a2)])) _
    refine XS.pop X4.here hx rfl (hb hby own_d_prog_16_method_1_10) rfl rfl ?_
    show Steps p.tables e below (T4.setTop (mkF m 11 #[.val (.ref a1), .val (.ref a2), .val (.int p3)] [])) _
    refine XS.aloadN X4.here hx rfl (hb hby own_d_prog_16_method_1_11) rfl rfl ?_
    show Steps p.tables e below (T4.setTop (mkF m 12 #[.val (.ref a1), .val (.ref a2), .val (.int p3)] [(.ref a2)])) _
    refine st11.trans ?_
    show Steps p.tables e below (T11.setTop (mkF m 15 #[.val (.ref a1), .val (.ref a2), .val (.int p3)] [(.int (0 : Int32))])) _
    refine XS.ifYes X11.here hx rfl (pc0 := 15) (pc' := 28) rfl (hb hby own_d_prog_16_method_1_15) rfl ((if0 _ _).trans (teq (rfl : (0 : Int32) = (0 : Int32))).1) (by decide) (by decide) ?_
    show Steps p.tables e below (T11.setTop (mkF m 28 #[.val (.ref a1), .val (.ref a2), .val (.int p3)] [])) _
    refine XS.aloadN X11.here hx rfl (hb hby own_d_prog_16_method_1_28) rfl rfl ?_
    show Steps p.tables e below (T11.setTop (mkF m 29 #[.val (.ref a1), .val (.ref a2), .val (.int p3)] [(.ref a1)])) _
    refine XS.aloadN X11.here hx rfl (hb hby own_d_prog_16_method_1_29) rfl rfl ?_
    show Steps p.tables e below (T11.setTop (mkF m 30 #[.val (.ref a1), .val (.ref a2), .val (.int p3)] [(.ref a2), (.ref a1)])) _
    refine st14 _ ?_
    show Steps p.tables e below (T14.setTop (mkF m 33 #[.val (.ref a1), .val (.ref a2), .val (.int p3)] [])) _
    refine XS.aloadN X14.here hx rfl (hb hby own_d_prog_16_method_1_33) rfl rfl ?_
    show Steps p.tables e below (T14.setTop (mkF m 34 #[.val (.ref a1), .val (.ref a2), .val (.int p3)] [(.ref a1)])) _
    refine XS.iloadN X14.here hx rfl (hb hby own_d_prog_16_method_1_34) rfl ?_
    show Steps p.tables e below (T14.setTop (mkF m 35 #[.val (.ref a1), .val (.ref a2), .val (.int p3)] [(.int p3), (.ref a1)])) _
    refine st19 _ ?_
    show Steps p.tables e below (T19.setTop (mkF m 38 #[.val (.ref a1), .val (.ref a2), .val (.int p3)] [])) _
    exact X19.returnOut hx Bd.returns (hb hby own_d_prog_16_method_1_38) hr
  · show own_Qrm_sym2 Z G1 k_EMPTY a1 a2 p3 c4 c5 t6 kb7 u8 u9 h0 n0 _ T19.heap _
    rw [e19]
    exact ⟨rfl, N19, Kp20, Eh22, Fh23, Fh21⟩
def own_Qrm_sym3 (Z : State) (G1 : Int32) (k_EMPTY : Addr) (a1 : Addr) (a2 : Addr) (p3 : Int32) (c4 : Int32) (c5 : Int32) (c6 : Int32) (t7 : Addr) (kb8 : ClassId) (u9 : Value) (u10 : Value) (h0 : Heap) (n0 : Nat) (v : Option Value) (h : Heap) (L : List Loc) : Prop := (v = none) ∧ (Fr n0 L) ∧ (Keep h0 h [a1]) ∧ (Exa Z h a1 "com/example/leftmost/leftmost/grammar/Symbol") ∧ (Fld Z h a1 "com/example/leftmost/leftmost/grammar/Symbol" "name" "Ljava/lang/String;" (.ref a2)) ∧ (Fld Z h a1 "com/example/leftmost/leftmost/grammar/Symbol" "isVariable" "Z" (.int (nar .boolean p3)))
theorem own_efrm_sym3 (m : MethodId) (a1 : Addr) (a2 : Addr) (p3 : Int32) : entryFrame m #[(.ref a1), (.ref a2), (.int p3)] 3 = mkF m 0 #[.val (.ref a1), .val (.ref a2), .val (.int p3)] [] := by first | (simp [entryFrame, mkF, argsToLocals, Value.category]; done) | rfl
set_option maxRecDepth 65536 in
set_option maxHeartbeats 40000000 in
theorem own_rm_sym3 (l : Launch) (Z : State) (a0 : Array Value) (hw : ∀ d ∈ tables_1, d.before a0 Z = true) (ws : List Jvm.Cond) (G1 : Int32) (k_EMPTY : Addr) (gl : own_Glob Z G1 k_EMPTY) (a1 : Addr) (a2 : Addr) (p3 : Int32) (c4 : Int32) (c5 : Int32) (c6 : Int32) (t7 : Addr) (kb8 : ClassId) (u9 : Value) (u10 : Value) (h0 : Heap) (n0 : Nat) (Z0 : n0 ≤ h0.size) (X00 : Old Z n0 h0) (P1 : Exa Z h0 a2 "java/lang/String") (P2 : Fld Z h0 a2 "java/lang/String" "value" "[B" (.ref t7)) (P3 : Fld Z h0 a2 "java/lang/String" "coder" "B" (.int (0 : Int32))) (P4 : Arv Z h0 t7 kb8 .byte (3 : Int32) ((([c4, c5, c6] : List Int32).map (fun c => c.toInt8.toInt32)).map Value.int) (.int (0 : Int32))) (P5 : ∀ c ∈ ([c4, c5, c6] : List Int32), ¬ c < 0 ∧ ¬ (255 : Int32) < c) (P6 : Exa Z h0 a1 "com/example/leftmost/leftmost/grammar/Symbol") (P7 : Fld Z h0 a1 "com/example/leftmost/leftmost/grammar/Symbol" "name" "Ljava/lang/String;" u9) (P8 : n0 ≤ a1) (P9 : Fld Z h0 a1 "com/example/leftmost/leftmost/grammar/Symbol" "isVariable" "Z" u10) :
    MetFree l (⟨"com/example/leftmost/leftmost/grammar/Symbol", "<init>", "(Ljava/lang/String;Z)V"⟩ : MethodName) (head1 (Jvm.Cond.code (⟨"com/example/leftmost/leftmost/grammar/Symbol", "<init>", "(Ljava/lang/String;Z)V"⟩ : MethodName) prog_16_method_1_code 3 none :: ws) ({ frames := 2, cells := 2, slots := 20, locals := 24 } : Room)) (fun a U => a = #[(.ref a1), (.ref a2), (.int p3)] ∧ Z.Warmed39 U.vm ∧ U.heap = h0) (fun _ _ _ _ _ => True) (fun _ U o U' => ∃ v L, o = .returned v ∧ own_Qrm_sym3 Z G1 k_EMPTY a1 a2 p3 c4 c5 c6 t7 kb8 u9 u10 h0 n0 v U'.heap L ∧ ReturnedEndW U o U' L ({ frames := 2, cells := 2, slots := 20, locals := 24 } : Room).cells ({ frames := 2, cells := 2, slots := 20, locals := 24 } : Room).slots) := by
  refine MetFree.of_bodySF (plainFor_of_name own_pn8) hisR ?_
  intro p e s m args below meth c s₁ Bd hml0 hP hK
  obtain ⟨rfl, hZ, hh⟩ := hP
  obtain ⟨O_CS, P_CS, O_EMPTY, E_EMPTY, F_EMPTY⟩ := id gl
  have hx := Bd.exec
  have hby := Bd.bytes
  have hml : c.maxLocals = 3 := hml0
  have hown : s.vm.findClass "com/example/leftmost/leftmost/grammar/Symbol" = some m.cls := findClass_of_methodNamed Bd.named
  have hnm := (name_of_methodNamed Bd.named Bd.method).1
  have X0 : Stand p l e ({ frames := 2, cells := 2, slots := 20, locals := 24 } : Room) s m #[(.ref a1), (.ref a2), (.int p3)] below meth c s₁ [] 0 0 := Stand.of_body Bd
  have e0 : s₁.heap = h0 := by rw [← hh, Bd.state]; rfl
  have N0 := Fr.nil n0
  have pre0 : ∀ t, Steps p.tables e below (s₁.setTop (mkF m 0 #[.val (.ref a1), .val (.ref a2), .val (.int p3)] [])) t → Steps p.tables e below (s₁.setTop (entryFrame m #[(.ref a1), (.ref a2), (.int p3)] 3)) t := fun t k => castTop (own_efrm_sym3 m a1 a2 p3) k
  obtain ⟨_, _, ⟨T1, L1, k1, n1⟩, -, X1, ⟨Lc1, hQ1, l1, y1, z1⟩, st1⟩ := X0.specialBack hx (y := (⟨"java/lang/Record", "<init>", "()V"⟩ : MethodName)) rfl hown (mvT hZ (hw _ (List.mem_of_getElem? (i := 42) rfl))) (mvT hZ (hw _ (List.mem_of_getElem? (i := 43) rfl))) (mvT hZ (hw _ (List.mem_of_getElem? (i := 46) rfl))) (by decide) (backOf (W := 0) (own_rm_rec l Z a0 hw [] G1 k_EMPTY gl a1 h0 n0 Z0 ) hZ (hw _ (List.mem_of_getElem? (i := 46) rfl)) (hw _ (List.mem_of_getElem? (i := 45) rfl)) (by decide) (by decide)) (g := (mkF m 1 #[.val (.ref a1), .val (.ref a2), .val (.int p3)] [(.ref a1)])) rfl (by rw [hml]; rfl) (Steps.refl _) (a := a1) (argsL := []) (rest := []) (lenOf own_pd5 rfl) rfl (by show 2 * 0 + _ ≤ _; exact Nat.le_of_eq rfl) (hb hby own_d_prog_16_method_1_1) (fun _ _ => ⟨rfl, e0, (by decide : 0 + 0 ≤ _), (by decide : 0 + 0 ≤ _)⟩)
  dsimp only [Pt.U, Pt.locs, Pt.cells, Pt.slots] at X1 l1 y1 z1 st1 hQ1
  subst y1 z1
  obtain ⟨rfl, Nq1, e1⟩ := hQ1
  have N1 : Fr n0 L1 := by rw [l1]; exact Fr.app N0 Nq1
  obtain ⟨la2, T2, h2, kS2, X2, e2, E2, hS2, hk2, hZ2, hown2, st2⟩ := ldcS (s := s) (vm0 := s.vm) X1 hx hZ hown (hw _ (List.mem_of_getElem? (i := 48) rfl)) (fun d hd => hw d (own_strAtoms d hd)) e1 ((State.WarmedH.refl s).since 0) (Nat.zero_le _) (g := (mkF m 5 #[.val (.ref a1), .val (.ref a2), .val (.int p3)] [(.ref a2)])) rfl (hb hby own_d_prog_16_method_1_5) (n := 16) (by decide) (by decide) (by decide) (by decide)
  have Kp3 : Keep h0 h2 [a1] := (Keep.refl h0 [a1]).ext E2
  obtain ⟨_, _, ⟨T4, L4, k4, n4⟩, -, X4, ⟨Lc4, hQ4, l4, y4, z4⟩, st4⟩ := Jvm.LawKit.callS X2 hx (y := (⟨"java/util/Objects", "requireNonNull", "(Ljava/lang/Object;Ljava/lang/String;)Ljava/lang/Object;"⟩ : MethodName)) hown2 (mvT hZ2 (hw _ (List.mem_of_getElem? (i := 51) rfl))) (mvT hZ2 (hw _ (List.mem_of_getElem? (i := 52) rfl))) (mvT hZ2 (hw _ (List.mem_of_getElem? (i := 53) rfl))) (mvT hZ2 (hw _ (List.mem_of_getElem? (i := 54) rfl))) (by decide) (backOf (W := 0) (own_rm_rn2 l Z a0 hw [] G1 k_EMPTY gl a2 la2 h2 n0 (Nat.le_trans Z0 Kp3.1) ) hZ2 (hw _ (List.mem_of_getElem? (i := 54) rfl)) (hw _ (List.mem_of_getElem? (i := 53) rfl)) (by decide) (by decide)) (g := (mkF m 7 #[.val (.ref a1), .val (.ref a2), .val (.int p3)] [(.ref la2), (.ref a2)])) rfl (by rw [hml]; rfl) (argsL := [(.ref a2), (.ref la2)]) (rest := []) (lenOf own_pd6 rfl) rfl (by show 2 * 0 + _ ≤ _; exact Nat.le_of_eq rfl) (hb hby own_d_prog_16_method_1_7) (fun _ _ => ⟨rfl, e2, (by decide : 2 + 0 ≤ _), (by decide : 20 + 0 ≤ _)⟩)
  dsimp only [Pt.U, Pt.locs, Pt.cells, Pt.slots] at X4 l4 y4 z4 st4 hQ4
  subst y4 z4
  obtain ⟨rfl, Nq4, e4⟩ := hQ4
  have N4 : Fr n0 L4 := by rw [l4]; exact Fr.app N1 Nq4
  have Eh5 : Exa Z h2 a2 "java/lang/String" := (P1.ext E2)
  have Fh6 : Fld Z h2 a2 "java/lang/String" "value" "[B" (.ref t7) := (P2.ext E2)
  have Fh7 : Fld Z h2 a2 "java/lang/String" "coder" "B" (.int (0 : Int32)) := (P3.ext E2)
  have Vh8 : Arv Z h2 t7 kb8 .byte (3 : Int32) ((([c4, c5, c6] : List Int32).map (fun c => c.toInt8.toInt32)).map Value.int) (.int (0 : Int32)) := (P4.ext E2)
  have cdh9 : StrChars.Road.CodA ([c4, c5, c6] : List Int32) 0 (3 : Int32) ((([c4, c5, c6] : List Int32).map (fun c => c.toInt8.toInt32)).map Value.int) := (StrChars.Road.codOf (cs := ([c4, c5, c6] : List Int32)) (n := 3) rfl (fun c hc => (P5 c hc).2))
  have hws_wordsEmp : ∀ d ∈ StrChars.Road.wordsEmp, d.before a0 Z = true := fun d hd => hw d (own_hws_wordsEmp d hd)
  have Old10 : Old Z n0 h2 := X00.ext E2
  obtain ⟨cq11, kq11, q11a, q11b, q11c⟩ := isOf hZ2 e4 Eh5
  obtain ⟨_, _, ⟨T11, L11, k11, n11⟩, -, X11, ⟨Lc11, hQ11, l11, y11, z11⟩, st11⟩ := X4.virtualBack hx (y := (⟨"java/lang/String", "isEmpty", "()Z"⟩ : MethodName)) (z := (⟨"java/lang/String", "isEmpty", "()Z"⟩ : MethodName)) hown2 (mvT hZ2 (hw _ (List.mem_of_getElem? (i := 55) rfl))) (mvT hZ2 (hw _ (List.mem_of_getElem? (i := 56) rfl))) (notFace_of_selects (args := #[]) (mvT hZ2 (hw _ (List.mem_of_getElem? (i := 58) rfl)))) (mvT hZ2 (hw _ (List.mem_of_getElem? (i := 58) rfl))) (mvT hZ2 (hw _ (List.mem_of_getElem? (i := 57) rfl))) (by decide) (StrChars.Road.empW (W := 0) hZ2 hws_wordsEmp (kI := 4) (hw _ (List.mem_of_getElem? (i := 8) rfl)) Eh5 Fh6 Fh7 Vh8 cdh9 (own_up _ P5) (Nat.le_of_ble_eq_true rfl) (by decide) (by decide)) q11a q11c (g := (mkF m 12 #[.val (.ref a1), .val (.ref a2), .val (.int p3)] [(.ref a2)])) rfl (by rw [hml]; rfl) (Steps.refl _) (argsL := []) (rest := []) (lenOf own_pd7 rfl) rfl (by show 2 * 0 + _ ≤ _; exact Nat.le_of_eq rfl) (hb hby own_d_prog_16_method_1_12) (fun _ _ => ⟨rfl, e4, (by decide : 2 + 0 ≤ _), (by decide : 20 + 0 ≤ _)⟩)
  dsimp only [Pt.U, Pt.locs, Pt.cells, Pt.slots] at X11 l11 y11 z11 st11 hQ11
  subst y11 z11
  obtain ⟨rfl, rfl, e11⟩ := hQ11
  have N11 : Fr n0 L11 := by rw [l11]; exact Fr.app N4 (Fr.nil n0)
  have Eh12 : Exa Z h2 a1 "com/example/leftmost/leftmost/grammar/Symbol" := (P6.ext E2)
  have Fh13 : Fld Z h2 a1 "com/example/leftmost/leftmost/grammar/Symbol" "name" "Ljava/lang/String;" u9 := (P7.ext E2)
  obtain ⟨T14, h14, X14, e14, W14, st14⟩ := putF X11 hx hZ2 hown2 (host := "") (Or.inl (hw _ (List.mem_of_getElem? (i := 60) rfl))) Via.refl e11 Fh13 Eh12 (Or.inr ⟨(hw _ (List.mem_of_getElem? (i := 61) rfl)), rfl, hnm⟩) (hw _ (List.mem_of_getElem? (i := 37) rfl)) (ty := (.object "java/lang/String")) (by decide) rfl rfl (g := (mkF m 30 #[.val (.ref a1), .val (.ref a2), .val (.int p3)] [(.ref a2), (.ref a1)])) rfl rfl (hb hby own_d_prog_16_method_1_30)
  have Kp15 : Keep h0 h14 [a1] := Kp3.wr W14 (Or.inl (List.mem_of_getElem? (i := 0) rfl))
  obtain ⟨Lp14, X14, N14⟩ := own_pack X14 (Fr.snoc X14 N11 P8)
  have Fh16 : Fld Z h14 a1 "com/example/leftmost/leftmost/grammar/Symbol" "name" "Ljava/lang/String;" (.ref a2) := Fh13.same W14
  have Eh17 : Exa Z h14 a1 "com/example/leftmost/leftmost/grammar/Symbol" := (Eh12.wr W14)
  have Fh18 : Fld Z h14 a1 "com/example/leftmost/leftmost/grammar/Symbol" "isVariable" "Z" u10 := ((P9.ext E2).other W14 (Or.inr (slot_ne (Or.inr (hw _ (List.mem_of_getElem? (i := 63) rfl))) (Or.inr (hw _ (List.mem_of_getElem? (i := 61) rfl))) (by decide) (t := .boolean) (t' := (.object "java/lang/String")) (by decide) (by decide))))
  obtain ⟨T19, h19, X19, e19, W19, st19⟩ := putFN X14 hx hZ2 hown2 (hw _ (List.mem_of_getElem? (i := 62) rfl)) Via.refl e14 Fh18 Eh17 (Or.inr ⟨(hw _ (List.mem_of_getElem? (i := 63) rfl)), rfl, hnm⟩) (hw _ (List.mem_of_getElem? (i := 37) rfl)) (ty := .boolean) (v' := (.int (nar .boolean p3))) (by decide) rfl (fits_nar_bool _) (g := (mkF m 35 #[.val (.ref a1), .val (.ref a2), .val (.int p3)] [(.int p3), (.ref a1)])) rfl rfl (hb hby own_d_prog_16_method_1_35)
  have Kp20 : Keep h0 h19 [a1] := Kp15.wr W19 (Or.inl (List.mem_of_getElem? (i := 0) rfl))
  obtain ⟨Lp19, X19, N19⟩ := own_pack X19 (Fr.snoc X19 N14 P8)
  have Fh21 : Fld Z h19 a1 "com/example/leftmost/leftmost/grammar/Symbol" "isVariable" "Z" (.int (nar .boolean p3)) := Fh18.same W19
  have Eh22 : Exa Z h19 a1 "com/example/leftmost/leftmost/grammar/Symbol" := (Eh17.wr W19)
  have Fh23 : Fld Z h19 a1 "com/example/leftmost/leftmost/grammar/Symbol" "name" "Ljava/lang/String;" (.ref a2) := (Fh16.other W19 (Or.inr (slot_ne (Or.inr (hw _ (List.mem_of_getElem? (i := 61) rfl))) (Or.inr (hw _ (List.mem_of_getElem? (i := 63) rfl))) (by decide) (t := (.object "java/lang/String")) (t' := .boolean) (by decide) (by decide))))
  obtain ⟨fs, hr, hrun, hended, hREW⟩ := X19.leaveW hS2 (by rw [e19]; exact (Nat.le_trans hk2 (Nat.le_trans (Keep.of_wr W14).1 (Keep.of_wr W19).1))) (v := none) (fun _ => rfl)
  refine ⟨_, _, pre0 _ ?_, hrun, hended, _, _, rfl, ?_, hREW.1, hREW.2.1, hREW.2.2.1, hREW.2.2.2.mono (by decide) (by decide)⟩
  · show Steps p.tables e below (s₁.setTop (mkF m 0 #[.val (.ref a1), .val (.ref a2), .val (.int p3)] [])) _
    refine XS.aloadN X0.here hx rfl (hb hby own_d_prog_16_method_1_0) rfl rfl ?_
    show Steps p.tables e below (s₁.setTop (mkF m 1 #[.val (.ref a1), .val (.ref a2), .val (.int p3)] [(.ref a1)])) _
    refine st1.trans ?_
    show Steps p.tables e below (T1.setTop (mkF m 4 #[.val (.ref a1), .val (.ref a2), .val (.int p3)] [])) _
    refine XS.aloadN X1.here hx rfl (hb hby own_d_prog_16_method_1_4) rfl rfl ?_
    show Steps p.tables e below (T1.setTop (mkF m 5 #[.val (.ref a1), .val (.ref a2), .val (.int p3)] [(.ref a2)])) _
    refine st2 _ ?_
    show Steps p.tables e below (T2.setTop (mkF m 7 #[.val (.ref a1), .val (.ref a2), .val (.int p3)] [(.ref la2), (.ref a2)])) _
    refine st4 _ ?_
    show Steps p.tables e below (T4.setTop (mkF m 10 #[.val (.ref a1), .val (.ref a2), .val (.int p3)] [(.ref a2)])) _
    refine XS.pop X4.here hx rfl (hb hby own_d_prog_16_method_1_10) rfl rfl ?_
    show Steps p.tables e below (T4.setTop (mkF m 11 #[.val (.ref a1), .val (.ref a2), .val (.int p3)] [])) _
    refine XS.aloadN X4.here hx rfl (hb hby own_d_prog_16_method_1_11) rfl rfl ?_
    show Steps p.tables e below (T4.setTop (mkF m 12 #[.val (.ref a1), .val (.ref a2), .val (.int p3)] [(.ref a2)])) _
    refine st11.trans ?_
    show Steps p.tables e below (T11.setTop (mkF m 15 #[.val (.ref a1), .val (.ref a2), .val (.int p3)] [(.int (0 : Int32))])) _
    refine XS.ifYes X11.here hx rfl (pc0 := 15) (pc' := 28) rfl (hb hby own_d_prog_16_method_1_15) rfl ((if0 _ _).trans (teq (rfl : (0 : Int32) = (0 : Int32))).1) (by decide) (by decide) ?_
    show Steps p.tables e below (T11.setTop (mkF m 28 #[.val (.ref a1), .val (.ref a2), .val (.int p3)] [])) _
    refine XS.aloadN X11.here hx rfl (hb hby own_d_prog_16_method_1_28) rfl rfl ?_
    show Steps p.tables e below (T11.setTop (mkF m 29 #[.val (.ref a1), .val (.ref a2), .val (.int p3)] [(.ref a1)])) _
    refine XS.aloadN X11.here hx rfl (hb hby own_d_prog_16_method_1_29) rfl rfl ?_
    show Steps p.tables e below (T11.setTop (mkF m 30 #[.val (.ref a1), .val (.ref a2), .val (.int p3)] [(.ref a2), (.ref a1)])) _
    refine st14 _ ?_
    show Steps p.tables e below (T14.setTop (mkF m 33 #[.val (.ref a1), .val (.ref a2), .val (.int p3)] [])) _
    refine XS.aloadN X14.here hx rfl (hb hby own_d_prog_16_method_1_33) rfl rfl ?_
    show Steps p.tables e below (T14.setTop (mkF m 34 #[.val (.ref a1), .val (.ref a2), .val (.int p3)] [(.ref a1)])) _
    refine XS.iloadN X14.here hx rfl (hb hby own_d_prog_16_method_1_34) rfl ?_
    show Steps p.tables e below (T14.setTop (mkF m 35 #[.val (.ref a1), .val (.ref a2), .val (.int p3)] [(.int p3), (.ref a1)])) _
    refine st19 _ ?_
    show Steps p.tables e below (T19.setTop (mkF m 38 #[.val (.ref a1), .val (.ref a2), .val (.int p3)] [])) _
    exact X19.returnOut hx Bd.returns (hb hby own_d_prog_16_method_1_38) hr
  · show own_Qrm_sym3 Z G1 k_EMPTY a1 a2 p3 c4 c5 c6 t7 kb8 u9 u10 h0 n0 _ T19.heap _
    rw [e19]
    exact ⟨rfl, N19, Kp20, Eh22, Fh23, Fh21⟩
theorem own_d_prog_64_method_1_0 : decode prog_64_method_1_code 0 = .ok (.aload_n 0, 1) := by decide +kernel
theorem own_d_prog_64_method_1_1 : decode prog_64_method_1_code 1 = .ok (.invokespecial 1, 3) := by decide +kernel
theorem own_d_prog_64_method_1_4 : decode prog_64_method_1_code 4 = .ok (.aload_n 0, 1) := by decide +kernel
theorem own_d_prog_64_method_1_5 : decode prog_64_method_1_code 5 = .ok (.iload_n 1, 1) := by decide +kernel
theorem own_d_prog_64_method_1_6 : decode prog_64_method_1_code 6 = .ok (.putfield 7, 3) := by decide +kernel
theorem own_d_prog_64_method_1_9 : decode prog_64_method_1_code 9 = .ok (.aload_n 0, 1) := by decide +kernel
theorem own_d_prog_64_method_1_10 : decode prog_64_method_1_code 10 = .ok (.iload_n 2, 1) := by decide +kernel
theorem own_d_prog_64_method_1_11 : decode prog_64_method_1_code 11 = .ok (.putfield 13, 3) := by decide +kernel
theorem own_d_prog_64_method_1_14 : decode prog_64_method_1_code 14 = .ok (.aload_n 0, 1) := by decide +kernel
theorem own_d_prog_64_method_1_15 : decode prog_64_method_1_code 15 = .ok (.iload_n 3, 1) := by decide +kernel
theorem own_d_prog_64_method_1_16 : decode prog_64_method_1_code 16 = .ok (.putfield 16, 3) := by decide +kernel
theorem own_d_prog_64_method_1_19 : decode prog_64_method_1_code 19 = .ok (.aload_n 0, 1) := by decide +kernel
theorem own_d_prog_64_method_1_20 : decode prog_64_method_1_code 20 = .ok (.aload 4, 2) := by decide +kernel
theorem own_d_prog_64_method_1_22 : decode prog_64_method_1_code 22 = .ok (.putfield 19, 3) := by decide +kernel
theorem own_d_prog_64_method_1_25 : decode prog_64_method_1_code 25 = .ok (.return_, 1) := by decide +kernel
theorem own_pn9 : plainName "com/example/leftmost/leftmost/tree/ParseTree$Node" = true := by first | (simp [plainName, overriddenIn]; done) | decide +kernel
def own_Qrm_node (Z : State) (G1 : Int32) (k_EMPTY : Addr) (a1 : Addr) (p2 : Int32) (p3 : Int32) (p4 : Int32) (a5 : Addr) (u6 : Value) (u7 : Value) (u8 : Value) (u9 : Value) (h0 : Heap) (n0 : Nat) (v : Option Value) (h : Heap) (L : List Loc) : Prop := (v = none) ∧ (Fr n0 L) ∧ (Keep h0 h [a1]) ∧ (Exa Z h a1 "com/example/leftmost/leftmost/tree/ParseTree$Node") ∧ (Fld Z h a1 "com/example/leftmost/leftmost/tree/ParseTree$Node" "index" "I" (.int p2)) ∧ (Fld Z h a1 "com/example/leftmost/leftmost/tree/ParseTree$Node" "parent" "I" (.int p3)) ∧ (Fld Z h a1 "com/example/leftmost/leftmost/tree/ParseTree$Node" "depth" "I" (.int p4)) ∧ (Fld Z h a1 "com/example/leftmost/leftmost/tree/ParseTree$Node" "symbol" "Ljava/util/Optional;" (.ref a5))
theorem own_efrm_node (m : MethodId) (a1 : Addr) (p2 : Int32) (p3 : Int32) (p4 : Int32) (a5 : Addr) : entryFrame m #[(.ref a1), (.int p2), (.int p3), (.int p4), (.ref a5)] 5 = mkF m 0 #[.val (.ref a1), .val (.int p2), .val (.int p3), .val (.int p4), .val (.ref a5)] [] := by first | (simp [entryFrame, mkF, argsToLocals, Value.category]; done) | rfl
set_option maxRecDepth 65536 in
set_option maxHeartbeats 40000000 in
theorem own_rm_node (l : Launch) (Z : State) (a0 : Array Value) (hw : ∀ d ∈ tables_1, d.before a0 Z = true) (ws : List Jvm.Cond) (G1 : Int32) (k_EMPTY : Addr) (gl : own_Glob Z G1 k_EMPTY) (a1 : Addr) (p2 : Int32) (p3 : Int32) (p4 : Int32) (a5 : Addr) (u6 : Value) (u7 : Value) (u8 : Value) (u9 : Value) (h0 : Heap) (n0 : Nat) (Z0 : n0 ≤ h0.size) (P1 : Exa Z h0 a1 "com/example/leftmost/leftmost/tree/ParseTree$Node") (P2 : Fld Z h0 a1 "com/example/leftmost/leftmost/tree/ParseTree$Node" "index" "I" u6) (P3 : n0 ≤ a1) (P4 : Fld Z h0 a1 "com/example/leftmost/leftmost/tree/ParseTree$Node" "parent" "I" u7) (P5 : Fld Z h0 a1 "com/example/leftmost/leftmost/tree/ParseTree$Node" "depth" "I" u8) (P6 : Fld Z h0 a1 "com/example/leftmost/leftmost/tree/ParseTree$Node" "symbol" "Ljava/util/Optional;" u9) :
    MetFree l (⟨"com/example/leftmost/leftmost/tree/ParseTree$Node", "<init>", "(IIILjava/util/Optional;)V"⟩ : MethodName) (head1 (Jvm.Cond.code (⟨"com/example/leftmost/leftmost/tree/ParseTree$Node", "<init>", "(IIILjava/util/Optional;)V"⟩ : MethodName) prog_64_method_1_code 5 none :: ws) ({ frames := 2, cells := 0, slots := 0, locals := 24 } : Room)) (fun a U => a = #[(.ref a1), (.int p2), (.int p3), (.int p4), (.ref a5)] ∧ Z.Warmed39 U.vm ∧ U.heap = h0) (fun _ _ _ _ _ => True) (fun _ U o U' => ∃ v L, o = .returned v ∧ own_Qrm_node Z G1 k_EMPTY a1 p2 p3 p4 a5 u6 u7 u8 u9 h0 n0 v U'.heap L ∧ FrameEnd U o U' L ({ frames := 2, cells := 0, slots := 0, locals := 24 } : Room).cells ({ frames := 2, cells := 0, slots := 0, locals := 24 } : Room).slots) := by
  refine MetFree.of_bodySF (plainFor_of_name own_pn9) hisR ?_
  intro p e s m args below meth c s₁ Bd hml0 hP hK
  obtain ⟨rfl, hZ, hh⟩ := hP
  obtain ⟨O_CS, P_CS, O_EMPTY, E_EMPTY, F_EMPTY⟩ := id gl
  have hx := Bd.exec
  have hby := Bd.bytes
  have hml : c.maxLocals = 5 := hml0
  have hown : s.vm.findClass "com/example/leftmost/leftmost/tree/ParseTree$Node" = some m.cls := findClass_of_methodNamed Bd.named
  have hnm := (name_of_methodNamed Bd.named Bd.method).1
  have X0 : Stand p l e ({ frames := 2, cells := 0, slots := 0, locals := 24 } : Room) s m #[(.ref a1), (.int p2), (.int p3), (.int p4), (.ref a5)] below meth c s₁ [] 0 0 := Stand.of_body Bd
  have e0 : s₁.heap = h0 := by rw [← hh, Bd.state]; rfl
  have N0 := Fr.nil n0
  have pre0 : ∀ t, Steps p.tables e below (s₁.setTop (mkF m 0 #[.val (.ref a1), .val (.int p2), .val (.int p3), .val (.int p4), .val (.ref a5)] [])) t → Steps p.tables e below (s₁.setTop (entryFrame m #[(.ref a1), (.int p2), (.int p3), (.int p4), (.ref a5)] 5)) t := fun t k => castTop (own_efrm_node m a1 p2 p3 p4 a5) k
  obtain ⟨_, _, ⟨T1, L1, k1, n1⟩, -, X1, ⟨Lc1, hQ1, l1, y1, z1⟩, st1⟩ := X0.specialBack hx (y := (⟨"java/lang/Record", "<init>", "()V"⟩ : MethodName)) rfl hown (mvT hZ (hw _ (List.mem_of_getElem? (i := 86) rfl))) (mvT hZ (hw _ (List.mem_of_getElem? (i := 43) rfl))) (mvT hZ (hw _ (List.mem_of_getElem? (i := 46) rfl))) (by decide) (backOf (W := 0) (own_rm_rec l Z a0 hw [] G1 k_EMPTY gl a1 h0 n0 Z0 ) hZ (hw _ (List.mem_of_getElem? (i := 46) rfl)) (hw _ (List.mem_of_getElem? (i := 45) rfl)) (by decide) (by decide)) (g := (mkF m 1 #[.val (.ref a1), .val (.int p2), .val (.int p3), .val (.int p4), .val (.ref a5)] [(.ref a1)])) rfl (by rw [hml]; rfl) (Steps.refl _) (a := a1) (argsL := []) (rest := []) (lenOf own_pd5 rfl) rfl (by show 2 * 0 + _ ≤ _; exact Nat.le_of_eq rfl) (hb hby own_d_prog_64_method_1_1) (fun _ _ => ⟨rfl, e0, (by decide : 0 + 0 ≤ _), (by decide : 0 + 0 ≤ _)⟩)
  dsimp only [Pt.U, Pt.locs, Pt.cells, Pt.slots] at X1 l1 y1 z1 st1 hQ1
  subst y1 z1
  obtain ⟨rfl, Nq1, e1⟩ := hQ1
  have N1 : Fr n0 L1 := by rw [l1]; exact Fr.app N0 Nq1
  obtain ⟨T2, h2, X2, e2, W2, st2⟩ := putF X1 hx hZ hown (host := "") (Or.inl (hw _ (List.mem_of_getElem? (i := 87) rfl))) Via.refl e1 P2 P1 (Or.inr ⟨(hw _ (List.mem_of_getElem? (i := 88) rfl)), rfl, hnm⟩) (hw _ (List.mem_of_getElem? (i := 81) rfl)) (ty := .int) (by decide) rfl rfl (g := (mkF m 6 #[.val (.ref a1), .val (.int p2), .val (.int p3), .val (.int p4), .val (.ref a5)] [(.int p2), (.ref a1)])) rfl rfl (hb hby own_d_prog_64_method_1_6)
  have Kp3 : Keep h0 h2 [a1] := (Keep.refl h0 [a1]).wr W2 (Or.inl (List.mem_of_getElem? (i := 0) rfl))
  obtain ⟨Lp2, X2, N2⟩ := own_pack X2 (Fr.snoc X2 N1 P3)
  have Fh4 : Fld Z h2 a1 "com/example/leftmost/leftmost/tree/ParseTree$Node" "index" "I" (.int p2) := P2.same W2
  have Eh5 : Exa Z h2 a1 "com/example/leftmost/leftmost/tree/ParseTree$Node" := (P1.wr W2)
  have Fh6 : Fld Z h2 a1 "com/example/leftmost/leftmost/tree/ParseTree$Node" "parent" "I" u7 := (P4.other W2 (Or.inr (slot_ne (Or.inr (hw _ (List.mem_of_getElem? (i := 90) rfl))) (Or.inr (hw _ (List.mem_of_getElem? (i := 88) rfl))) (by decide) (t := .int) (t' := .int) (by decide) (by decide))))
  obtain ⟨T7, h7, X7, e7, W7, st7⟩ := putF X2 hx hZ hown (host := "") (Or.inl (hw _ (List.mem_of_getElem? (i := 89) rfl))) Via.refl e2 Fh6 Eh5 (Or.inr ⟨(hw _ (List.mem_of_getElem? (i := 90) rfl)), rfl, hnm⟩) (hw _ (List.mem_of_getElem? (i := 81) rfl)) (ty := .int) (by decide) rfl rfl (g := (mkF m 11 #[.val (.ref a1), .val (.int p2), .val (.int p3), .val (.int p4), .val (.ref a5)] [(.int p3), (.ref a1)])) rfl rfl (hb hby own_d_prog_64_method_1_11)
  have Kp8 : Keep h0 h7 [a1] := Kp3.wr W7 (Or.inl (List.mem_of_getElem? (i := 0) rfl))
  obtain ⟨Lp7, X7, N7⟩ := own_pack X7 (Fr.snoc X7 N2 P3)
  have Fh9 : Fld Z h7 a1 "com/example/leftmost/leftmost/tree/ParseTree$Node" "parent" "I" (.int p3) := Fh6.same W7
  have Eh10 : Exa Z h7 a1 "com/example/leftmost/leftmost/tree/ParseTree$Node" := (Eh5.wr W7)
  have Fh11 : Fld Z h7 a1 "com/example/leftmost/leftmost/tree/ParseTree$Node" "depth" "I" u8 := ((P5.other W2 (Or.inr (slot_ne (Or.inr (hw _ (List.mem_of_getElem? (i := 92) rfl))) (Or.inr (hw _ (List.mem_of_getElem? (i := 88) rfl))) (by decide) (t := .int) (t' := .int) (by decide) (by decide)))).other W7 (Or.inr (slot_ne (Or.inr (hw _ (List.mem_of_getElem? (i := 92) rfl))) (Or.inr (hw _ (List.mem_of_getElem? (i := 90) rfl))) (by decide) (t := .int) (t' := .int) (by decide) (by decide))))
  obtain ⟨T12, h12, X12, e12, W12, st12⟩ := putF X7 hx hZ hown (host := "") (Or.inl (hw _ (List.mem_of_getElem? (i := 91) rfl))) Via.refl e7 Fh11 Eh10 (Or.inr ⟨(hw _ (List.mem_of_getElem? (i := 92) rfl)), rfl, hnm⟩) (hw _ (List.mem_of_getElem? (i := 81) rfl)) (ty := .int) (by decide) rfl rfl (g := (mkF m 16 #[.val (.ref a1), .val (.int p2), .val (.int p3), .val (.int p4), .val (.ref a5)] [(.int p4), (.ref a1)])) rfl rfl (hb hby own_d_prog_64_method_1_16)
  have Kp13 : Keep h0 h12 [a1] := Kp8.wr W12 (Or.inl (List.mem_of_getElem? (i := 0) rfl))
  obtain ⟨Lp12, X12, N12⟩ := own_pack X12 (Fr.snoc X12 N7 P3)
  have Fh14 : Fld Z h12 a1 "com/example/leftmost/leftmost/tree/ParseTree$Node" "depth" "I" (.int p4) := Fh11.same W12
  have Eh15 : Exa Z h12 a1 "com/example/leftmost/leftmost/tree/ParseTree$Node" := (Eh10.wr W12)
  have Fh16 : Fld Z h12 a1 "com/example/leftmost/leftmost/tree/ParseTree$Node" "symbol" "Ljava/util/Optional;" u9 := (((P6.other W2 (Or.inr (slot_ne (Or.inr (hw _ (List.mem_of_getElem? (i := 94) rfl))) (Or.inr (hw _ (List.mem_of_getElem? (i := 88) rfl))) (by decide) (t := (.object "java/util/Optional")) (t' := .int) (by decide) (by decide)))).other W7 (Or.inr (slot_ne (Or.inr (hw _ (List.mem_of_getElem? (i := 94) rfl))) (Or.inr (hw _ (List.mem_of_getElem? (i := 90) rfl))) (by decide) (t := (.object "java/util/Optional")) (t' := .int) (by decide) (by decide)))).other W12 (Or.inr (slot_ne (Or.inr (hw _ (List.mem_of_getElem? (i := 94) rfl))) (Or.inr (hw _ (List.mem_of_getElem? (i := 92) rfl))) (by decide) (t := (.object "java/util/Optional")) (t' := .int) (by decide) (by decide))))
  obtain ⟨T17, h17, X17, e17, W17, st17⟩ := putF X12 hx hZ hown (host := "") (Or.inl (hw _ (List.mem_of_getElem? (i := 93) rfl))) Via.refl e12 Fh16 Eh15 (Or.inr ⟨(hw _ (List.mem_of_getElem? (i := 94) rfl)), rfl, hnm⟩) (hw _ (List.mem_of_getElem? (i := 81) rfl)) (ty := (.object "java/util/Optional")) (by decide) rfl rfl (g := (mkF m 22 #[.val (.ref a1), .val (.int p2), .val (.int p3), .val (.int p4), .val (.ref a5)] [(.ref a5), (.ref a1)])) rfl rfl (hb hby own_d_prog_64_method_1_22)
  have Kp18 : Keep h0 h17 [a1] := Kp13.wr W17 (Or.inl (List.mem_of_getElem? (i := 0) rfl))
  obtain ⟨Lp17, X17, N17⟩ := own_pack X17 (Fr.snoc X17 N12 P3)
  have Fh19 : Fld Z h17 a1 "com/example/leftmost/leftmost/tree/ParseTree$Node" "symbol" "Ljava/util/Optional;" (.ref a5) := Fh16.same W17
  have Eh20 : Exa Z h17 a1 "com/example/leftmost/leftmost/tree/ParseTree$Node" := (Eh15.wr W17)
  have Fh21 : Fld Z h17 a1 "com/example/leftmost/leftmost/tree/ParseTree$Node" "index" "I" (.int p2) := (((Fh4.other W7 (Or.inr (slot_ne (Or.inr (hw _ (List.mem_of_getElem? (i := 88) rfl))) (Or.inr (hw _ (List.mem_of_getElem? (i := 90) rfl))) (by decide) (t := .int) (t' := .int) (by decide) (by decide)))).other W12 (Or.inr (slot_ne (Or.inr (hw _ (List.mem_of_getElem? (i := 88) rfl))) (Or.inr (hw _ (List.mem_of_getElem? (i := 92) rfl))) (by decide) (t := .int) (t' := .int) (by decide) (by decide)))).other W17 (Or.inr (slot_ne (Or.inr (hw _ (List.mem_of_getElem? (i := 88) rfl))) (Or.inr (hw _ (List.mem_of_getElem? (i := 94) rfl))) (by decide) (t := .int) (t' := (.object "java/util/Optional")) (by decide) (by decide))))
  have Fh22 : Fld Z h17 a1 "com/example/leftmost/leftmost/tree/ParseTree$Node" "parent" "I" (.int p3) := ((Fh9.other W12 (Or.inr (slot_ne (Or.inr (hw _ (List.mem_of_getElem? (i := 90) rfl))) (Or.inr (hw _ (List.mem_of_getElem? (i := 92) rfl))) (by decide) (t := .int) (t' := .int) (by decide) (by decide)))).other W17 (Or.inr (slot_ne (Or.inr (hw _ (List.mem_of_getElem? (i := 90) rfl))) (Or.inr (hw _ (List.mem_of_getElem? (i := 94) rfl))) (by decide) (t := .int) (t' := (.object "java/util/Optional")) (by decide) (by decide))))
  have Fh23 : Fld Z h17 a1 "com/example/leftmost/leftmost/tree/ParseTree$Node" "depth" "I" (.int p4) := (Fh14.other W17 (Or.inr (slot_ne (Or.inr (hw _ (List.mem_of_getElem? (i := 92) rfl))) (Or.inr (hw _ (List.mem_of_getElem? (i := 94) rfl))) (by decide) (t := .int) (t' := (.object "java/util/Optional")) (by decide) (by decide))))
  obtain ⟨fs, hr, hrun, hended, hW, hsame⟩ := X17.leave (v := none) (fun _ => rfl)
  refine ⟨_, _, pre0 _ ?_, hrun, hended, _, _, rfl, ?_, ⟨_, rfl⟩, hW, hsame.mono (by decide) (by decide)⟩
  · show Steps p.tables e below (s₁.setTop (mkF m 0 #[.val (.ref a1), .val (.int p2), .val (.int p3), .val (.int p4), .val (.ref a5)] [])) _
    refine XS.aloadN X0.here hx rfl (hb hby own_d_prog_64_method_1_0) rfl rfl ?_
    show Steps p.tables e below (s₁.setTop (mkF m 1 #[.val (.ref a1), .val (.int p2), .val (.int p3), .val (.int p4), .val (.ref a5)] [(.ref a1)])) _
    refine st1.trans ?_
    show Steps p.tables e below (T1.setTop (mkF m 4 #[.val (.ref a1), .val (.int p2), .val (.int p3), .val (.int p4), .val (.ref a5)] [])) _
    refine XS.aloadN X1.here hx rfl (hb hby own_d_prog_64_method_1_4) rfl rfl ?_
    show Steps p.tables e below (T1.setTop (mkF m 5 #[.val (.ref a1), .val (.int p2), .val (.int p3), .val (.int p4), .val (.ref a5)] [(.ref a1)])) _
    refine XS.iloadN X1.here hx rfl (hb hby own_d_prog_64_method_1_5) rfl ?_
    show Steps p.tables e below (T1.setTop (mkF m 6 #[.val (.ref a1), .val (.int p2), .val (.int p3), .val (.int p4), .val (.ref a5)] [(.int p2), (.ref a1)])) _
    refine st2 _ ?_
    show Steps p.tables e below (T2.setTop (mkF m 9 #[.val (.ref a1), .val (.int p2), .val (.int p3), .val (.int p4), .val (.ref a5)] [])) _
    refine XS.aloadN X2.here hx rfl (hb hby own_d_prog_64_method_1_9) rfl rfl ?_
    show Steps p.tables e below (T2.setTop (mkF m 10 #[.val (.ref a1), .val (.int p2), .val (.int p3), .val (.int p4), .val (.ref a5)] [(.ref a1)])) _
    refine XS.iloadN X2.here hx rfl (hb hby own_d_prog_64_method_1_10) rfl ?_
    show Steps p.tables e below (T2.setTop (mkF m 11 #[.val (.ref a1), .val (.int p2), .val (.int p3), .val (.int p4), .val (.ref a5)] [(.int p3), (.ref a1)])) _
    refine st7 _ ?_
    show Steps p.tables e below (T7.setTop (mkF m 14 #[.val (.ref a1), .val (.int p2), .val (.int p3), .val (.int p4), .val (.ref a5)] [])) _
    refine XS.aloadN X7.here hx rfl (hb hby own_d_prog_64_method_1_14) rfl rfl ?_
    show Steps p.tables e below (T7.setTop (mkF m 15 #[.val (.ref a1), .val (.int p2), .val (.int p3), .val (.int p4), .val (.ref a5)] [(.ref a1)])) _
    refine XS.iloadN X7.here hx rfl (hb hby own_d_prog_64_method_1_15) rfl ?_
    show Steps p.tables e below (T7.setTop (mkF m 16 #[.val (.ref a1), .val (.int p2), .val (.int p3), .val (.int p4), .val (.ref a5)] [(.int p4), (.ref a1)])) _
    refine st12 _ ?_
    show Steps p.tables e below (T12.setTop (mkF m 19 #[.val (.ref a1), .val (.int p2), .val (.int p3), .val (.int p4), .val (.ref a5)] [])) _
    refine XS.aloadN X12.here hx rfl (hb hby own_d_prog_64_method_1_19) rfl rfl ?_
    show Steps p.tables e below (T12.setTop (mkF m 20 #[.val (.ref a1), .val (.int p2), .val (.int p3), .val (.int p4), .val (.ref a5)] [(.ref a1)])) _
    refine XS.aload X12.here hx rfl (hb hby own_d_prog_64_method_1_20) rfl rfl ?_
    show Steps p.tables e below (T12.setTop (mkF m 22 #[.val (.ref a1), .val (.int p2), .val (.int p3), .val (.int p4), .val (.ref a5)] [(.ref a5), (.ref a1)])) _
    refine st17 _ ?_
    show Steps p.tables e below (T17.setTop (mkF m 25 #[.val (.ref a1), .val (.int p2), .val (.int p3), .val (.int p4), .val (.ref a5)] [])) _
    exact X17.returnOut hx Bd.returns (hb hby own_d_prog_64_method_1_25) hr
  · show own_Qrm_node Z G1 k_EMPTY a1 p2 p3 p4 a5 u6 u7 u8 u9 h0 n0 _ T17.heap _
    rw [e17]
    exact ⟨rfl, N17, Kp18, Eh20, Fh21, Fh22, Fh23, Fh19⟩
theorem own_d_jdk_32_method_7_0 : decode jdk_32_method_7_code 0 = .ok (.aload_n 0, 1) := by decide +kernel
theorem own_d_jdk_32_method_7_1 : decode jdk_32_method_7_code 1 = .ok (.getfield 13, 3) := by decide +kernel
theorem own_d_jdk_32_method_7_4 : decode jdk_32_method_7_code 4 = .ok (.ifnonnull 7, 3) := by decide +kernel
theorem own_d_jdk_32_method_7_7 : decode jdk_32_method_7_code 7 = .ok (.iconst 1, 1) := by decide +kernel
theorem own_d_jdk_32_method_7_8 : decode jdk_32_method_7_code 8 = .ok (.goto 4, 3) := by decide +kernel
theorem own_d_jdk_32_method_7_12 : decode jdk_32_method_7_code 12 = .ok (.ireturn, 1) := by decide +kernel
def own_Qrm_oe1 (Z : State) (G1 : Int32) (k_EMPTY : Addr) (a1 : Addr) (h0 : Heap) (n0 : Nat) (v : Option Value) (h : Heap) (L : List Loc) : Prop := (v = some (.int (1 : Int32))) ∧ (Fr n0 L) ∧ (h = h0)
theorem own_efrm_oe1 (m : MethodId) (a1 : Addr) : entryFrame m #[(.ref a1)] 1 = mkF m 0 #[.val (.ref a1)] [] := by first | (simp [entryFrame, mkF, argsToLocals, Value.category]; done) | rfl
set_option maxRecDepth 65536 in
set_option maxHeartbeats 40000000 in
theorem own_rm_oe1 (l : Launch) (Z : State) (a0 : Array Value) (hw : ∀ d ∈ tables_1, d.before a0 Z = true) (ws : List Jvm.Cond) (G1 : Int32) (k_EMPTY : Addr) (gl : own_Glob Z G1 k_EMPTY) (a1 : Addr) (h0 : Heap) (n0 : Nat) (Z0 : n0 ≤ h0.size) (P1 : Fld Z h0 a1 "java/util/Optional" "value" "Ljava/lang/Object;" .null) :
    MetFree l (⟨"java/util/Optional", "isEmpty", "()Z"⟩ : MethodName) (head1 (Jvm.Cond.code (⟨"java/util/Optional", "isEmpty", "()Z"⟩ : MethodName) jdk_32_method_7_code 1 (some .boolean) :: ws) ({ frames := 0, cells := 0, slots := 0, locals := 0 } : Room)) (fun a U => a = #[(.ref a1)] ∧ Z.Warmed39 U.vm ∧ U.heap = h0) (fun _ _ _ _ _ => True) (fun _ U o U' => ∃ v L, o = .returned v ∧ own_Qrm_oe1 Z G1 k_EMPTY a1 h0 n0 v U'.heap L ∧ FrameEnd U o U' L ({ frames := 0, cells := 0, slots := 0, locals := 0 } : Room).cells ({ frames := 0, cells := 0, slots := 0, locals := 0 } : Room).slots) := by
  refine MetFree.of_bodySF (plainFor_of_name own_pn2) hisR ?_
  intro p e s m args below meth c s₁ Bd hml0 hP hK
  obtain ⟨rfl, hZ, hh⟩ := hP
  obtain ⟨O_CS, P_CS, O_EMPTY, E_EMPTY, F_EMPTY⟩ := id gl
  have hx := Bd.exec
  have hby := Bd.bytes
  have hml : c.maxLocals = 1 := hml0
  have hown : s.vm.findClass "java/util/Optional" = some m.cls := findClass_of_methodNamed Bd.named
  have hnm := (name_of_methodNamed Bd.named Bd.method).1
  have X0 : Stand p l e ({ frames := 0, cells := 0, slots := 0, locals := 0 } : Room) s m #[(.ref a1)] below meth c s₁ [] 0 0 := Stand.of_body Bd
  have e0 : s₁.heap = h0 := by rw [← hh, Bd.state]; rfl
  have N0 := Fr.nil n0
  have pre0 : ∀ t, Steps p.tables e below (s₁.setTop (mkF m 0 #[.val (.ref a1)] [])) t → Steps p.tables e below (s₁.setTop (entryFrame m #[(.ref a1)] 1)) t := fun t k => castTop (own_efrm_oe1 m a1) k
  obtain ⟨T1, X1, e1, st1⟩ := getF X0 hx hZ hown (host := "") (Or.inl (hw _ (List.mem_of_getElem? (i := 78) rfl))) Via.refl e0 P1 (g := (mkF m 1 #[.val (.ref a1)] [(.ref a1)])) rfl rfl (hb hby own_d_jdk_32_method_7_1)
  obtain ⟨fs, hr, hrun, hended, hW, hsame⟩ := X1.leave (v := some (.int (1 : Int32))) (fun h => by rw [Bd.returns] at h; cases h)
  refine ⟨_, _, pre0 _ ?_, hrun, hended, _, _, rfl, ?_, ⟨_, rfl⟩, hW, hsame.mono (by decide) (by decide)⟩
  · show Steps p.tables e below (s₁.setTop (mkF m 0 #[.val (.ref a1)] [])) _
    refine XS.aloadN X0.here hx rfl (hb hby own_d_jdk_32_method_7_0) rfl rfl ?_
    show Steps p.tables e below (s₁.setTop (mkF m 1 #[.val (.ref a1)] [(.ref a1)])) _
    refine st1 _ ?_
    show Steps p.tables e below (T1.setTop (mkF m 4 #[.val (.ref a1)] [.null])) _
    refine XS.ifnonnullNo X1.here hx rfl (hb hby own_d_jdk_32_method_7_4) rfl ?_
    show Steps p.tables e below (T1.setTop (mkF m 7 #[.val (.ref a1)] [])) _
    refine XS.iconst X1.here hx rfl (hb hby own_d_jdk_32_method_7_7) ?_
    show Steps p.tables e below (T1.setTop (mkF m 8 #[.val (.ref a1)] [(.int (1 : Int32))])) _
    refine XS.goto X1.here hx rfl (pc0 := 8) (pc' := 12) rfl (hb hby own_d_jdk_32_method_7_8) (by decide) (by decide) ?_
    show Steps p.tables e below (T1.setTop (mkF m 12 #[.val (.ref a1)] [(.int (1 : Int32))])) _
    exact retN X1 hx (t := .boolean) Bd.returns (by simp) (hb hby own_d_jdk_32_method_7_12) hr
  · show own_Qrm_oe1 Z G1 k_EMPTY a1 h0 n0 _ T1.heap _
    rw [e1]
    exact ⟨rfl, N0, rfl⟩
theorem own_d_jdk_32_method_7_11 : decode jdk_32_method_7_code 11 = .ok (.iconst 0, 1) := by decide +kernel
def own_Qrm_oe0 (Z : State) (G1 : Int32) (k_EMPTY : Addr) (a1 : Addr) (o2 : Addr) (h0 : Heap) (n0 : Nat) (v : Option Value) (h : Heap) (L : List Loc) : Prop := (v = some (.int (0 : Int32))) ∧ (Fr n0 L) ∧ (h = h0)
theorem own_efrm_oe0 (m : MethodId) (a1 : Addr) : entryFrame m #[(.ref a1)] 1 = mkF m 0 #[.val (.ref a1)] [] := by first | (simp [entryFrame, mkF, argsToLocals, Value.category]; done) | rfl
set_option maxRecDepth 65536 in
set_option maxHeartbeats 40000000 in
theorem own_rm_oe0 (l : Launch) (Z : State) (a0 : Array Value) (hw : ∀ d ∈ tables_1, d.before a0 Z = true) (ws : List Jvm.Cond) (G1 : Int32) (k_EMPTY : Addr) (gl : own_Glob Z G1 k_EMPTY) (a1 : Addr) (o2 : Addr) (h0 : Heap) (n0 : Nat) (Z0 : n0 ≤ h0.size) (P1 : Fld Z h0 a1 "java/util/Optional" "value" "Ljava/lang/Object;" (.ref o2)) :
    MetFree l (⟨"java/util/Optional", "isEmpty", "()Z"⟩ : MethodName) (head1 (Jvm.Cond.code (⟨"java/util/Optional", "isEmpty", "()Z"⟩ : MethodName) jdk_32_method_7_code 1 (some .boolean) :: ws) ({ frames := 0, cells := 0, slots := 0, locals := 0 } : Room)) (fun a U => a = #[(.ref a1)] ∧ Z.Warmed39 U.vm ∧ U.heap = h0) (fun _ _ _ _ _ => True) (fun _ U o U' => ∃ v L, o = .returned v ∧ own_Qrm_oe0 Z G1 k_EMPTY a1 o2 h0 n0 v U'.heap L ∧ FrameEnd U o U' L ({ frames := 0, cells := 0, slots := 0, locals := 0 } : Room).cells ({ frames := 0, cells := 0, slots := 0, locals := 0 } : Room).slots) := by
  refine MetFree.of_bodySF (plainFor_of_name own_pn2) hisR ?_
  intro p e s m args below meth c s₁ Bd hml0 hP hK
  obtain ⟨rfl, hZ, hh⟩ := hP
  obtain ⟨O_CS, P_CS, O_EMPTY, E_EMPTY, F_EMPTY⟩ := id gl
  have hx := Bd.exec
  have hby := Bd.bytes
  have hml : c.maxLocals = 1 := hml0
  have hown : s.vm.findClass "java/util/Optional" = some m.cls := findClass_of_methodNamed Bd.named
  have hnm := (name_of_methodNamed Bd.named Bd.method).1
  have X0 : Stand p l e ({ frames := 0, cells := 0, slots := 0, locals := 0 } : Room) s m #[(.ref a1)] below meth c s₁ [] 0 0 := Stand.of_body Bd
  have e0 : s₁.heap = h0 := by rw [← hh, Bd.state]; rfl
  have N0 := Fr.nil n0
  have pre0 : ∀ t, Steps p.tables e below (s₁.setTop (mkF m 0 #[.val (.ref a1)] [])) t → Steps p.tables e below (s₁.setTop (entryFrame m #[(.ref a1)] 1)) t := fun t k => castTop (own_efrm_oe0 m a1) k
  obtain ⟨T1, X1, e1, st1⟩ := getF X0 hx hZ hown (host := "") (Or.inl (hw _ (List.mem_of_getElem? (i := 78) rfl))) Via.refl e0 P1 (g := (mkF m 1 #[.val (.ref a1)] [(.ref a1)])) rfl rfl (hb hby own_d_jdk_32_method_7_1)
  obtain ⟨fs, hr, hrun, hended, hW, hsame⟩ := X1.leave (v := some (.int (0 : Int32))) (fun h => by rw [Bd.returns] at h; cases h)
  refine ⟨_, _, pre0 _ ?_, hrun, hended, _, _, rfl, ?_, ⟨_, rfl⟩, hW, hsame.mono (by decide) (by decide)⟩
  · show Steps p.tables e below (s₁.setTop (mkF m 0 #[.val (.ref a1)] [])) _
    refine XS.aloadN X0.here hx rfl (hb hby own_d_jdk_32_method_7_0) rfl rfl ?_
    show Steps p.tables e below (s₁.setTop (mkF m 1 #[.val (.ref a1)] [(.ref a1)])) _
    refine st1 _ ?_
    show Steps p.tables e below (T1.setTop (mkF m 4 #[.val (.ref a1)] [(.ref o2)])) _
    refine XS.ifnonnullYes X1.here hx rfl (pc0 := 4) (pc' := 11) rfl (hb hby own_d_jdk_32_method_7_4) rfl (by decide) (by decide) ?_
    show Steps p.tables e below (T1.setTop (mkF m 11 #[.val (.ref a1)] [])) _
    refine XS.iconst X1.here hx rfl (hb hby own_d_jdk_32_method_7_11) ?_
    show Steps p.tables e below (T1.setTop (mkF m 12 #[.val (.ref a1)] [(.int (0 : Int32))])) _
    exact retN X1 hx (t := .boolean) Bd.returns (by simp) (hb hby own_d_jdk_32_method_7_12) hr
  · show own_Qrm_oe0 Z G1 k_EMPTY a1 o2 h0 n0 _ T1.heap _
    rw [e1]
    exact ⟨rfl, N0, rfl⟩
theorem own_d_jdk_32_method_5_0 : decode jdk_32_method_5_code 0 = .ok (.aload_n 0, 1) := by decide +kernel
theorem own_d_jdk_32_method_5_1 : decode jdk_32_method_5_code 1 = .ok (.getfield 13, 3) := by decide +kernel
theorem own_d_jdk_32_method_5_4 : decode jdk_32_method_5_code 4 = .ok (.ifnonnull 13, 3) := by decide +kernel
theorem own_d_jdk_32_method_5_17 : decode jdk_32_method_5_code 17 = .ok (.aload_n 0, 1) := by decide +kernel
theorem own_d_jdk_32_method_5_18 : decode jdk_32_method_5_code 18 = .ok (.getfield 13, 3) := by decide +kernel
theorem own_d_jdk_32_method_5_21 : decode jdk_32_method_5_code 21 = .ok (.areturn, 1) := by decide +kernel
def own_Qrm_get (Z : State) (G1 : Int32) (k_EMPTY : Addr) (a1 : Addr) (o2 : Addr) (h0 : Heap) (n0 : Nat) (v : Option Value) (h : Heap) (L : List Loc) : Prop := (v = some (.ref o2)) ∧ (Fr n0 L) ∧ (h = h0)
theorem own_efrm_get (m : MethodId) (a1 : Addr) : entryFrame m #[(.ref a1)] 1 = mkF m 0 #[.val (.ref a1)] [] := by first | (simp [entryFrame, mkF, argsToLocals, Value.category]; done) | rfl
set_option maxRecDepth 65536 in
set_option maxHeartbeats 40000000 in
theorem own_rm_get (l : Launch) (Z : State) (a0 : Array Value) (hw : ∀ d ∈ tables_1, d.before a0 Z = true) (ws : List Jvm.Cond) (G1 : Int32) (k_EMPTY : Addr) (gl : own_Glob Z G1 k_EMPTY) (a1 : Addr) (o2 : Addr) (h0 : Heap) (n0 : Nat) (Z0 : n0 ≤ h0.size) (P1 : Fld Z h0 a1 "java/util/Optional" "value" "Ljava/lang/Object;" (.ref o2)) :
    MetFree l (⟨"java/util/Optional", "get", "()Ljava/lang/Object;"⟩ : MethodName) (head1 (Jvm.Cond.code (⟨"java/util/Optional", "get", "()Ljava/lang/Object;"⟩ : MethodName) jdk_32_method_5_code 1 (some (.object "java/lang/Object")) :: ws) ({ frames := 0, cells := 0, slots := 0, locals := 0 } : Room)) (fun a U => a = #[(.ref a1)] ∧ Z.Warmed39 U.vm ∧ U.heap = h0) (fun _ _ _ _ _ => True) (fun _ U o U' => ∃ v L, o = .returned v ∧ own_Qrm_get Z G1 k_EMPTY a1 o2 h0 n0 v U'.heap L ∧ FrameEnd U o U' L ({ frames := 0, cells := 0, slots := 0, locals := 0 } : Room).cells ({ frames := 0, cells := 0, slots := 0, locals := 0 } : Room).slots) := by
  refine MetFree.of_bodySF (plainFor_of_name own_pn2) hisR ?_
  intro p e s m args below meth c s₁ Bd hml0 hP hK
  obtain ⟨rfl, hZ, hh⟩ := hP
  obtain ⟨O_CS, P_CS, O_EMPTY, E_EMPTY, F_EMPTY⟩ := id gl
  have hx := Bd.exec
  have hby := Bd.bytes
  have hml : c.maxLocals = 1 := hml0
  have hown : s.vm.findClass "java/util/Optional" = some m.cls := findClass_of_methodNamed Bd.named
  have hnm := (name_of_methodNamed Bd.named Bd.method).1
  have X0 : Stand p l e ({ frames := 0, cells := 0, slots := 0, locals := 0 } : Room) s m #[(.ref a1)] below meth c s₁ [] 0 0 := Stand.of_body Bd
  have e0 : s₁.heap = h0 := by rw [← hh, Bd.state]; rfl
  have N0 := Fr.nil n0
  have pre0 : ∀ t, Steps p.tables e below (s₁.setTop (mkF m 0 #[.val (.ref a1)] [])) t → Steps p.tables e below (s₁.setTop (entryFrame m #[(.ref a1)] 1)) t := fun t k => castTop (own_efrm_get m a1) k
  obtain ⟨T1, X1, e1, st1⟩ := getF X0 hx hZ hown (host := "") (Or.inl (hw _ (List.mem_of_getElem? (i := 78) rfl))) Via.refl e0 P1 (g := (mkF m 1 #[.val (.ref a1)] [(.ref a1)])) rfl rfl (hb hby own_d_jdk_32_method_5_1)
  obtain ⟨T2, X2, e2, st2⟩ := getF X1 hx hZ hown (host := "") (Or.inl (hw _ (List.mem_of_getElem? (i := 78) rfl))) Via.refl e1 P1 (g := (mkF m 18 #[.val (.ref a1)] [(.ref a1)])) rfl rfl (hb hby own_d_jdk_32_method_5_18)
  obtain ⟨fs, hr, hrun, hended, hW, hsame⟩ := X2.leave (v := some (.ref o2)) (fun h => by rw [Bd.returns] at h; cases h)
  refine ⟨_, _, pre0 _ ?_, hrun, hended, _, _, rfl, ?_, ⟨_, rfl⟩, hW, hsame.mono (by decide) (by decide)⟩
  · show Steps p.tables e below (s₁.setTop (mkF m 0 #[.val (.ref a1)] [])) _
    refine XS.aloadN X0.here hx rfl (hb hby own_d_jdk_32_method_5_0) rfl rfl ?_
    show Steps p.tables e below (s₁.setTop (mkF m 1 #[.val (.ref a1)] [(.ref a1)])) _
    refine st1 _ ?_
    show Steps p.tables e below (T1.setTop (mkF m 4 #[.val (.ref a1)] [(.ref o2)])) _
    refine XS.ifnonnullYes X1.here hx rfl (pc0 := 4) (pc' := 17) rfl (hb hby own_d_jdk_32_method_5_4) rfl (by decide) (by decide) ?_
    show Steps p.tables e below (T1.setTop (mkF m 17 #[.val (.ref a1)] [])) _
    refine XS.aloadN X1.here hx rfl (hb hby own_d_jdk_32_method_5_17) rfl rfl ?_
    show Steps p.tables e below (T1.setTop (mkF m 18 #[.val (.ref a1)] [(.ref a1)])) _
    refine st2 _ ?_
    show Steps p.tables e below (T2.setTop (mkF m 21 #[.val (.ref a1)] [(.ref o2)])) _
    jvm_step X2.here [X2.here.top, hx, (hb hby own_d_jdk_32_method_5_21), X2.method', Bd.returns, Value.isRef, FieldType.isReference]
    first | (intro acts; rw [hr _ acts rfl rfl rfl]) | rw [hr _ _ rfl rfl rfl]
    exact Steps.refl _
  · show own_Qrm_get Z G1 k_EMPTY a1 o2 h0 n0 _ T2.heap _
    rw [e2]
    exact ⟨rfl, N0, rfl⟩
theorem own_d_prog_16_method_11_0 : decode prog_16_method_11_code 0 = .ok (.aload_n 0, 1) := by decide +kernel
theorem own_d_prog_16_method_11_1 : decode prog_16_method_11_code 1 = .ok (.getfield 33, 3) := by decide +kernel
theorem own_d_prog_16_method_11_4 : decode prog_16_method_11_code 4 = .ok (.ireturn, 1) := by decide +kernel
def own_Qrm_isv (Z : State) (G1 : Int32) (k_EMPTY : Addr) (a1 : Addr) (w2 : Int32) (h0 : Heap) (n0 : Nat) (v : Option Value) (h : Heap) (L : List Loc) : Prop := (v = some (.int (nar .boolean w2))) ∧ (Fr n0 L) ∧ (h = h0)
theorem own_efrm_isv (m : MethodId) (a1 : Addr) : entryFrame m #[(.ref a1)] 1 = mkF m 0 #[.val (.ref a1)] [] := by first | (simp [entryFrame, mkF, argsToLocals, Value.category]; done) | rfl
set_option maxRecDepth 65536 in
set_option maxHeartbeats 40000000 in
theorem own_rm_isv (l : Launch) (Z : State) (a0 : Array Value) (hw : ∀ d ∈ tables_1, d.before a0 Z = true) (ws : List Jvm.Cond) (G1 : Int32) (k_EMPTY : Addr) (gl : own_Glob Z G1 k_EMPTY) (a1 : Addr) (w2 : Int32) (h0 : Heap) (n0 : Nat) (Z0 : n0 ≤ h0.size) (P1 : Fld Z h0 a1 "com/example/leftmost/leftmost/grammar/Symbol" "isVariable" "Z" (.int w2)) :
    MetFree l (⟨"com/example/leftmost/leftmost/grammar/Symbol", "isVariable", "()Z"⟩ : MethodName) (head1 (Jvm.Cond.code (⟨"com/example/leftmost/leftmost/grammar/Symbol", "isVariable", "()Z"⟩ : MethodName) prog_16_method_11_code 1 (some .boolean) :: ws) ({ frames := 0, cells := 0, slots := 0, locals := 0 } : Room)) (fun a U => a = #[(.ref a1)] ∧ Z.Warmed39 U.vm ∧ U.heap = h0) (fun _ _ _ _ _ => True) (fun _ U o U' => ∃ v L, o = .returned v ∧ own_Qrm_isv Z G1 k_EMPTY a1 w2 h0 n0 v U'.heap L ∧ FrameEnd U o U' L ({ frames := 0, cells := 0, slots := 0, locals := 0 } : Room).cells ({ frames := 0, cells := 0, slots := 0, locals := 0 } : Room).slots) := by
  refine MetFree.of_bodySF (plainFor_of_name own_pn8) hisR ?_
  intro p e s m args below meth c s₁ Bd hml0 hP hK
  obtain ⟨rfl, hZ, hh⟩ := hP
  obtain ⟨O_CS, P_CS, O_EMPTY, E_EMPTY, F_EMPTY⟩ := id gl
  have hx := Bd.exec
  have hby := Bd.bytes
  have hml : c.maxLocals = 1 := hml0
  have hown : s.vm.findClass "com/example/leftmost/leftmost/grammar/Symbol" = some m.cls := findClass_of_methodNamed Bd.named
  have hnm := (name_of_methodNamed Bd.named Bd.method).1
  have X0 : Stand p l e ({ frames := 0, cells := 0, slots := 0, locals := 0 } : Room) s m #[(.ref a1)] below meth c s₁ [] 0 0 := Stand.of_body Bd
  have e0 : s₁.heap = h0 := by rw [← hh, Bd.state]; rfl
  have N0 := Fr.nil n0
  have pre0 : ∀ t, Steps p.tables e below (s₁.setTop (mkF m 0 #[.val (.ref a1)] [])) t → Steps p.tables e below (s₁.setTop (entryFrame m #[(.ref a1)] 1)) t := fun t k => castTop (own_efrm_isv m a1) k
  obtain ⟨T1, X1, e1, st1⟩ := getF X0 hx hZ hown (host := "") (Or.inl (hw _ (List.mem_of_getElem? (i := 62) rfl))) Via.refl e0 P1 (g := (mkF m 1 #[.val (.ref a1)] [(.ref a1)])) rfl rfl (hb hby own_d_prog_16_method_11_1)
  obtain ⟨fs, hr, hrun, hended, hW, hsame⟩ := X1.leave (v := some (.int (nar .boolean w2))) (fun h => by rw [Bd.returns] at h; cases h)
  refine ⟨_, _, pre0 _ ?_, hrun, hended, _, _, rfl, ?_, ⟨_, rfl⟩, hW, hsame.mono (by decide) (by decide)⟩
  · show Steps p.tables e below (s₁.setTop (mkF m 0 #[.val (.ref a1)] [])) _
    refine XS.aloadN X0.here hx rfl (hb hby own_d_prog_16_method_11_0) rfl rfl ?_
    show Steps p.tables e below (s₁.setTop (mkF m 1 #[.val (.ref a1)] [(.ref a1)])) _
    refine st1 _ ?_
    show Steps p.tables e below (T1.setTop (mkF m 4 #[.val (.ref a1)] [(.int w2)])) _
    exact retN X1 hx (t := .boolean) Bd.returns (by simp) (hb hby own_d_prog_16_method_11_4) hr
  · show own_Qrm_isv Z G1 k_EMPTY a1 w2 h0 n0 _ T1.heap _
    rw [e1]
    exact ⟨rfl, N0, rfl⟩
theorem own_d_prog_64_method_2_0 : decode prog_64_method_2_code 0 = .ok (.aload_n 0, 1) := by decide +kernel
theorem own_d_prog_64_method_2_1 : decode prog_64_method_2_code 1 = .ok (.getfield 19, 3) := by decide +kernel
theorem own_d_prog_64_method_2_4 : decode prog_64_method_2_code 4 = .ok (.invokevirtual 23, 3) := by decide +kernel
theorem own_d_prog_64_method_2_7 : decode prog_64_method_2_code 7 = .ok (.ifCond .ne 19, 3) := by decide +kernel
theorem own_d_prog_64_method_2_26 : decode prog_64_method_2_code 26 = .ok (.iconst 1, 1) := by decide +kernel
theorem own_d_prog_64_method_2_27 : decode prog_64_method_2_code 27 = .ok (.goto 4, 3) := by decide +kernel
theorem own_d_prog_64_method_2_31 : decode prog_64_method_2_code 31 = .ok (.ireturn, 1) := by decide +kernel
def own_Qrm_leafE (Z : State) (G1 : Int32) (k_EMPTY : Addr) (a1 : Addr) (h0 : Heap) (n0 : Nat) (v : Option Value) (h : Heap) (L : List Loc) : Prop := (v = some (.int (1 : Int32))) ∧ (Fr n0 L) ∧ (h = h0)
theorem own_efrm_leafE (m : MethodId) (a1 : Addr) : entryFrame m #[(.ref a1)] 1 = mkF m 0 #[.val (.ref a1)] [] := by first | (simp [entryFrame, mkF, argsToLocals, Value.category]; done) | rfl
set_option maxRecDepth 65536 in
set_option maxHeartbeats 40000000 in
theorem own_rm_leafE (l : Launch) (Z : State) (a0 : Array Value) (hw : ∀ d ∈ tables_1, d.before a0 Z = true) (ws : List Jvm.Cond) (G1 : Int32) (k_EMPTY : Addr) (gl : own_Glob Z G1 k_EMPTY) (a1 : Addr) (h0 : Heap) (n0 : Nat) (Z0 : n0 ≤ h0.size) (X00 : Old Z n0 h0) (P1 : Fld Z h0 a1 "com/example/leftmost/leftmost/tree/ParseTree$Node" "symbol" "Ljava/util/Optional;" (.ref k_EMPTY)) :
    MetFree l (⟨"com/example/leftmost/leftmost/tree/ParseTree$Node", "isLeaf", "()Z"⟩ : MethodName) (head1 (Jvm.Cond.code (⟨"com/example/leftmost/leftmost/tree/ParseTree$Node", "isLeaf", "()Z"⟩ : MethodName) prog_64_method_2_code 1 (some .boolean) :: ws) ({ frames := 1, cells := 0, slots := 0, locals := 12 } : Room)) (fun a U => a = #[(.ref a1)] ∧ Z.Warmed39 U.vm ∧ U.heap = h0) (fun _ _ _ _ _ => True) (fun _ U o U' => ∃ v L, o = .returned v ∧ own_Qrm_leafE Z G1 k_EMPTY a1 h0 n0 v U'.heap L ∧ FrameEnd U o U' L ({ frames := 1, cells := 0, slots := 0, locals := 12 } : Room).cells ({ frames := 1, cells := 0, slots := 0, locals := 12 } : Room).slots) := by
  refine MetFree.of_bodySF (plainFor_of_name own_pn9) hisR ?_
  intro p e s m args below meth c s₁ Bd hml0 hP hK
  obtain ⟨rfl, hZ, hh⟩ := hP
  obtain ⟨O_CS, P_CS, O_EMPTY, E_EMPTY, F_EMPTY⟩ := id gl
  have hx := Bd.exec
  have hby := Bd.bytes
  have hml : c.maxLocals = 1 := hml0
  have hown : s.vm.findClass "com/example/leftmost/leftmost/tree/ParseTree$Node" = some m.cls := findClass_of_methodNamed Bd.named
  have hnm := (name_of_methodNamed Bd.named Bd.method).1
  have X0 : Stand p l e ({ frames := 1, cells := 0, slots := 0, locals := 12 } : Room) s m #[(.ref a1)] below meth c s₁ [] 0 0 := Stand.of_body Bd
  have e0 : s₁.heap = h0 := by rw [← hh, Bd.state]; rfl
  have N0 := Fr.nil n0
  have pre0 : ∀ t, Steps p.tables e below (s₁.setTop (mkF m 0 #[.val (.ref a1)] [])) t → Steps p.tables e below (s₁.setTop (entryFrame m #[(.ref a1)] 1)) t := fun t k => castTop (own_efrm_leafE m a1) k
  obtain ⟨T1, X1, e1, st1⟩ := getF X0 hx hZ hown (host := "") (Or.inl (hw _ (List.mem_of_getElem? (i := 93) rfl))) Via.refl e0 P1 (g := (mkF m 1 #[.val (.ref a1)] [(.ref a1)])) rfl rfl (hb hby own_d_prog_64_method_2_1)
  obtain ⟨cq2, kq2, q2a, q2b, q2c⟩ := isOf hZ e1 (E_EMPTY.ext X00.2)
  obtain ⟨_, _, ⟨T2, L2, k2, n2⟩, -, X2, ⟨Lc2, hQ2, l2, y2, z2⟩, st2⟩ := X1.virtualBack hx (y := (⟨"java/util/Optional", "isEmpty", "()Z"⟩ : MethodName)) (z := (⟨"java/util/Optional", "isEmpty", "()Z"⟩ : MethodName)) hown (mvT hZ (hw _ (List.mem_of_getElem? (i := 100) rfl))) (mvT hZ (hw _ (List.mem_of_getElem? (i := 101) rfl))) (notFace_of_selects (args := #[]) (mvT hZ (hw _ (List.mem_of_getElem? (i := 103) rfl)))) (mvT hZ (hw _ (List.mem_of_getElem? (i := 103) rfl))) (mvT hZ (hw _ (List.mem_of_getElem? (i := 102) rfl))) (by decide) (backOf (W := 0) (own_rm_oe1 l Z a0 hw [] G1 k_EMPTY gl k_EMPTY h0 n0 Z0 (F_EMPTY.ext X00.2)) hZ (hw _ (List.mem_of_getElem? (i := 104) rfl)) (hw _ (List.mem_of_getElem? (i := 66) rfl)) (by decide) (by decide)) q2a q2c (g := (mkF m 4 #[.val (.ref a1)] [(.ref k_EMPTY)])) rfl (by rw [hml]; rfl) (Steps.refl _) (argsL := []) (rest := []) (lenOf own_pd7 rfl) rfl (by show 2 * 0 + _ ≤ _; exact Nat.le_of_eq rfl) (hb hby own_d_prog_64_method_2_4) (fun _ _ => ⟨rfl, e1, (by decide : 0 + 0 ≤ _), (by decide : 0 + 0 ≤ _)⟩)
  dsimp only [Pt.U, Pt.locs, Pt.cells, Pt.slots] at X2 l2 y2 z2 st2 hQ2
  subst y2 z2
  obtain ⟨rfl, Nq2, e2⟩ := hQ2
  have N2 : Fr n0 L2 := by rw [l2]; exact Fr.app N0 Nq2
  obtain ⟨fs, hr, hrun, hended, hW, hsame⟩ := X2.leave (v := some (.int (1 : Int32))) (fun h => by rw [Bd.returns] at h; cases h)
  refine ⟨_, _, pre0 _ ?_, hrun, hended, _, _, rfl, ?_, ⟨_, rfl⟩, hW, hsame.mono (by decide) (by decide)⟩
  · show Steps p.tables e below (s₁.setTop (mkF m 0 #[.val (.ref a1)] [])) _
    refine XS.aloadN X0.here hx rfl (hb hby own_d_prog_64_method_2_0) rfl rfl ?_
    show Steps p.tables e below (s₁.setTop (mkF m 1 #[.val (.ref a1)] [(.ref a1)])) _
    refine st1 _ ?_
    show Steps p.tables e below (T1.setTop (mkF m 4 #[.val (.ref a1)] [(.ref k_EMPTY)])) _
    refine st2.trans ?_
    show Steps p.tables e below (T2.setTop (mkF m 7 #[.val (.ref a1)] [(.int (1 : Int32))])) _
    refine XS.ifYes X2.here hx rfl (pc0 := 7) (pc' := 26) rfl (hb hby own_d_prog_64_method_2_7) rfl ((if0 _ _).trans (feq (by decide : ¬ ((1 : Int32) = (0 : Int32)))).2) (by decide) (by decide) ?_
    show Steps p.tables e below (T2.setTop (mkF m 26 #[.val (.ref a1)] [])) _
    refine XS.iconst X2.here hx rfl (hb hby own_d_prog_64_method_2_26) ?_
    show Steps p.tables e below (T2.setTop (mkF m 27 #[.val (.ref a1)] [(.int (1 : Int32))])) _
    refine XS.goto X2.here hx rfl (pc0 := 27) (pc' := 31) rfl (hb hby own_d_prog_64_method_2_27) (by decide) (by decide) ?_
    show Steps p.tables e below (T2.setTop (mkF m 31 #[.val (.ref a1)] [(.int (1 : Int32))])) _
    exact retN X2 hx (t := .boolean) Bd.returns (by simp) (hb hby own_d_prog_64_method_2_31) hr
  · show own_Qrm_leafE Z G1 k_EMPTY a1 h0 n0 _ T2.heap _
    rw [e2]
    exact ⟨rfl, N2, rfl⟩
theorem own_d_prog_64_method_2_10 : decode prog_64_method_2_code 10 = .ok (.aload_n 0, 1) := by decide +kernel
theorem own_d_prog_64_method_2_11 : decode prog_64_method_2_code 11 = .ok (.getfield 19, 3) := by decide +kernel
theorem own_d_prog_64_method_2_14 : decode prog_64_method_2_code 14 = .ok (.invokevirtual 29, 3) := by decide +kernel
theorem own_pd10 : parseMethodDescriptor "()Ljava/lang/Object;" = some ⟨[], some (.object "java/lang/Object")⟩ := by decide +kernel
theorem own_d_prog_64_method_2_17 : decode prog_64_method_2_code 17 = .ok (.checkcast 33, 3) := by decide +kernel
theorem own_d_prog_64_method_2_20 : decode prog_64_method_2_code 20 = .ok (.invokevirtual 35, 3) := by decide +kernel
theorem own_d_prog_64_method_2_23 : decode prog_64_method_2_code 23 = .ok (.ifCond .ne 7, 3) := by decide +kernel
def own_Qrm_leaf0 (Z : State) (G1 : Int32) (k_EMPTY : Addr) (a1 : Addr) (o2 : Addr) (o3 : Addr) (h0 : Heap) (n0 : Nat) (v : Option Value) (h : Heap) (L : List Loc) : Prop := (v = some (.int (1 : Int32))) ∧ (Fr n0 L) ∧ (h = h0)
theorem own_efrm_leaf0 (m : MethodId) (a1 : Addr) : entryFrame m #[(.ref a1)] 1 = mkF m 0 #[.val (.ref a1)] [] := by first | (simp [entryFrame, mkF, argsToLocals, Value.category]; done) | rfl
set_option maxRecDepth 65536 in
set_option maxHeartbeats 40000000 in
theorem own_rm_leaf0 (l : Launch) (Z : State) (a0 : Array Value) (hw : ∀ d ∈ tables_1, d.before a0 Z = true) (ws : List Jvm.Cond) (G1 : Int32) (k_EMPTY : Addr) (gl : own_Glob Z G1 k_EMPTY) (a1 : Addr) (o2 : Addr) (o3 : Addr) (h0 : Heap) (n0 : Nat) (Z0 : n0 ≤ h0.size) (P1 : Fld Z h0 a1 "com/example/leftmost/leftmost/tree/ParseTree$Node" "symbol" "Ljava/util/Optional;" (.ref o2)) (P2 : Exa Z h0 o2 "java/util/Optional") (P3 : Fld Z h0 o2 "java/util/Optional" "value" "Ljava/lang/Object;" (.ref o3)) (P4 : Exa Z h0 o3 "com/example/leftmost/leftmost/grammar/Symbol") (P5 : Fld Z h0 o3 "com/example/leftmost/leftmost/grammar/Symbol" "isVariable" "Z" (.int (0 : Int32))) :
    MetFree l (⟨"com/example/leftmost/leftmost/tree/ParseTree$Node", "isLeaf", "()Z"⟩ : MethodName) (head1 (Jvm.Cond.code (⟨"com/example/leftmost/leftmost/tree/ParseTree$Node", "isLeaf", "()Z"⟩ : MethodName) prog_64_method_2_code 1 (some .boolean) :: ws) ({ frames := 1, cells := 0, slots := 0, locals := 12 } : Room)) (fun a U => a = #[(.ref a1)] ∧ Z.Warmed39 U.vm ∧ U.heap = h0) (fun _ _ _ _ _ => True) (fun _ U o U' => ∃ v L, o = .returned v ∧ own_Qrm_leaf0 Z G1 k_EMPTY a1 o2 o3 h0 n0 v U'.heap L ∧ FrameEnd U o U' L ({ frames := 1, cells := 0, slots := 0, locals := 12 } : Room).cells ({ frames := 1, cells := 0, slots := 0, locals := 12 } : Room).slots) := by
  refine MetFree.of_bodySF (plainFor_of_name own_pn9) hisR ?_
  intro p e s m args below meth c s₁ Bd hml0 hP hK
  obtain ⟨rfl, hZ, hh⟩ := hP
  obtain ⟨O_CS, P_CS, O_EMPTY, E_EMPTY, F_EMPTY⟩ := id gl
  have hx := Bd.exec
  have hby := Bd.bytes
  have hml : c.maxLocals = 1 := hml0
  have hown : s.vm.findClass "com/example/leftmost/leftmost/tree/ParseTree$Node" = some m.cls := findClass_of_methodNamed Bd.named
  have hnm := (name_of_methodNamed Bd.named Bd.method).1
  have X0 : Stand p l e ({ frames := 1, cells := 0, slots := 0, locals := 12 } : Room) s m #[(.ref a1)] below meth c s₁ [] 0 0 := Stand.of_body Bd
  have e0 : s₁.heap = h0 := by rw [← hh, Bd.state]; rfl
  have N0 := Fr.nil n0
  have pre0 : ∀ t, Steps p.tables e below (s₁.setTop (mkF m 0 #[.val (.ref a1)] [])) t → Steps p.tables e below (s₁.setTop (entryFrame m #[(.ref a1)] 1)) t := fun t k => castTop (own_efrm_leaf0 m a1) k
  obtain ⟨T1, X1, e1, st1⟩ := getF X0 hx hZ hown (host := "") (Or.inl (hw _ (List.mem_of_getElem? (i := 93) rfl))) Via.refl e0 P1 (g := (mkF m 1 #[.val (.ref a1)] [(.ref a1)])) rfl rfl (hb hby own_d_prog_64_method_2_1)
  obtain ⟨cq2, kq2, q2a, q2b, q2c⟩ := isOf hZ e1 P2
  obtain ⟨_, _, ⟨T2, L2, k2, n2⟩, -, X2, ⟨Lc2, hQ2, l2, y2, z2⟩, st2⟩ := X1.virtualBack hx (y := (⟨"java/util/Optional", "isEmpty", "()Z"⟩ : MethodName)) (z := (⟨"java/util/Optional", "isEmpty", "()Z"⟩ : MethodName)) hown (mvT hZ (hw _ (List.mem_of_getElem? (i := 100) rfl))) (mvT hZ (hw _ (List.mem_of_getElem? (i := 101) rfl))) (notFace_of_selects (args := #[]) (mvT hZ (hw _ (List.mem_of_getElem? (i := 103) rfl)))) (mvT hZ (hw _ (List.mem_of_getElem? (i := 103) rfl))) (mvT hZ (hw _ (List.mem_of_getElem? (i := 102) rfl))) (by decide) (backOf (W := 0) (own_rm_oe0 l Z a0 hw [] G1 k_EMPTY gl o2 o3 h0 n0 Z0 P3) hZ (hw _ (List.mem_of_getElem? (i := 104) rfl)) (hw _ (List.mem_of_getElem? (i := 66) rfl)) (by decide) (by decide)) q2a q2c (g := (mkF m 4 #[.val (.ref a1)] [(.ref o2)])) rfl (by rw [hml]; rfl) (Steps.refl _) (argsL := []) (rest := []) (lenOf own_pd7 rfl) rfl (by show 2 * 0 + _ ≤ _; exact Nat.le_of_eq rfl) (hb hby own_d_prog_64_method_2_4) (fun _ _ => ⟨rfl, e1, (by decide : 0 + 0 ≤ _), (by decide : 0 + 0 ≤ _)⟩)
  dsimp only [Pt.U, Pt.locs, Pt.cells, Pt.slots] at X2 l2 y2 z2 st2 hQ2
  subst y2 z2
  obtain ⟨rfl, Nq2, e2⟩ := hQ2
  have N2 : Fr n0 L2 := by rw [l2]; exact Fr.app N0 Nq2
  obtain ⟨T3, X3, e3, st3⟩ := getF X2 hx hZ hown (host := "") (Or.inl (hw _ (List.mem_of_getElem? (i := 93) rfl))) Via.refl e2 P1 (g := (mkF m 11 #[.val (.ref a1)] [(.ref a1)])) rfl rfl (hb hby own_d_prog_64_method_2_11)
  obtain ⟨cq4, kq4, q4a, q4b, q4c⟩ := isOf hZ e3 P2
  obtain ⟨_, _, ⟨T4, L4, k4, n4⟩, -, X4, ⟨Lc4, hQ4, l4, y4, z4⟩, st4⟩ := X3.virtualBack hx (y := (⟨"java/util/Optional", "get", "()Ljava/lang/Object;"⟩ : MethodName)) (z := (⟨"java/util/Optional", "get", "()Ljava/lang/Object;"⟩ : MethodName)) hown (mvT hZ (hw _ (List.mem_of_getElem? (i := 105) rfl))) (mvT hZ (hw _ (List.mem_of_getElem? (i := 106) rfl))) (notFace_of_selects (args := #[]) (mvT hZ (hw _ (List.mem_of_getElem? (i := 108) rfl)))) (mvT hZ (hw _ (List.mem_of_getElem? (i := 108) rfl))) (mvT hZ (hw _ (List.mem_of_getElem? (i := 107) rfl))) (by decide) (backOf (W := 0) (own_rm_get l Z a0 hw [] G1 k_EMPTY gl o2 o3 h0 n0 Z0 P3) hZ (hw _ (List.mem_of_getElem? (i := 109) rfl)) (hw _ (List.mem_of_getElem? (i := 66) rfl)) (by decide) (by decide)) q4a q4c (g := (mkF m 14 #[.val (.ref a1)] [(.ref o2)])) rfl (by rw [hml]; rfl) (Steps.refl _) (argsL := []) (rest := []) (lenOf own_pd10 rfl) rfl (by show 2 * 0 + _ ≤ _; exact Nat.le_of_eq rfl) (hb hby own_d_prog_64_method_2_14) (fun _ _ => ⟨rfl, e3, (by decide : 0 + 0 ≤ _), (by decide : 0 + 0 ≤ _)⟩)
  dsimp only [Pt.U, Pt.locs, Pt.cells, Pt.slots] at X4 l4 y4 z4 st4 hQ4
  subst y4 z4
  obtain ⟨rfl, Nq4, e4⟩ := hQ4
  have N4 : Fr n0 L4 := by rw [l4]; exact Fr.app N2 Nq4
  obtain ⟨T5, X5, e5, st5⟩ := castY X4 hx hZ hown (hw _ (List.mem_of_getElem? (i := 110) rfl)) e4 (Ins.self P4) (g := (mkF m 17 #[.val (.ref a1)] [(.ref o3)])) rfl rfl (hb hby own_d_prog_64_method_2_17)
  obtain ⟨cq6, kq6, q6a, q6b, q6c⟩ := isOf hZ e5 P4
  obtain ⟨_, _, ⟨T6, L6, k6, n6⟩, -, X6, ⟨Lc6, hQ6, l6, y6, z6⟩, st6⟩ := X5.virtualBack hx (y := (⟨"com/example/leftmost/leftmost/grammar/Symbol", "isVariable", "()Z"⟩ : MethodName)) (z := (⟨"com/example/leftmost/leftmost/grammar/Symbol", "isVariable", "()Z"⟩ : MethodName)) hown (mvT hZ (hw _ (List.mem_of_getElem? (i := 112) rfl))) (mvT hZ (hw _ (List.mem_of_getElem? (i := 113) rfl))) (notFace_of_selects (args := #[]) (mvT hZ (hw _ (List.mem_of_getElem? (i := 115) rfl)))) (mvT hZ (hw _ (List.mem_of_getElem? (i := 115) rfl))) (mvT hZ (hw _ (List.mem_of_getElem? (i := 114) rfl))) (by decide) (backOf (W := 0) (own_rm_isv l Z a0 hw [] G1 k_EMPTY gl o3 (0 : Int32) h0 n0 Z0 P5) hZ (hw _ (List.mem_of_getElem? (i := 116) rfl)) (hw _ (List.mem_of_getElem? (i := 38) rfl)) (by decide) (by decide)) q6a q6c (g := (mkF m 20 #[.val (.ref a1)] [(.ref o3)])) rfl (by rw [hml]; rfl) (Steps.refl _) (argsL := []) (rest := []) (lenOf own_pd7 rfl) rfl (by show 2 * 0 + _ ≤ _; exact Nat.le_of_eq rfl) (hb hby own_d_prog_64_method_2_20) (fun _ _ => ⟨rfl, e5, (by decide : 0 + 0 ≤ _), (by decide : 0 + 0 ≤ _)⟩)
  dsimp only [Pt.U, Pt.locs, Pt.cells, Pt.slots] at X6 l6 y6 z6 st6 hQ6
  subst y6 z6
  obtain ⟨rfl, Nq6, e6⟩ := hQ6
  have N6 : Fr n0 L6 := by rw [l6]; exact Fr.app N4 Nq6
  obtain ⟨fs, hr, hrun, hended, hW, hsame⟩ := X6.leave (v := some (.int (1 : Int32))) (fun h => by rw [Bd.returns] at h; cases h)
  refine ⟨_, _, pre0 _ ?_, hrun, hended, _, _, rfl, ?_, ⟨_, rfl⟩, hW, hsame.mono (by decide) (by decide)⟩
  · show Steps p.tables e below (s₁.setTop (mkF m 0 #[.val (.ref a1)] [])) _
    refine XS.aloadN X0.here hx rfl (hb hby own_d_prog_64_method_2_0) rfl rfl ?_
    show Steps p.tables e below (s₁.setTop (mkF m 1 #[.val (.ref a1)] [(.ref a1)])) _
    refine st1 _ ?_
    show Steps p.tables e below (T1.setTop (mkF m 4 #[.val (.ref a1)] [(.ref o2)])) _
    refine st2.trans ?_
    show Steps p.tables e below (T2.setTop (mkF m 7 #[.val (.ref a1)] [(.int (0 : Int32))])) _
    refine XS.ifNo X2.here hx rfl (hb hby own_d_prog_64_method_2_7) rfl ((if0 _ _).trans (teq (rfl : (0 : Int32) = (0 : Int32))).2) ?_
    show Steps p.tables e below (T2.setTop (mkF m 10 #[.val (.ref a1)] [])) _
    refine XS.aloadN X2.here hx rfl (hb hby own_d_prog_64_method_2_10) rfl rfl ?_
    show Steps p.tables e below (T2.setTop (mkF m 11 #[.val (.ref a1)] [(.ref a1)])) _
    refine st3 _ ?_
    show Steps p.tables e below (T3.setTop (mkF m 14 #[.val (.ref a1)] [(.ref o2)])) _
    refine st4.trans ?_
    show Steps p.tables e below (T4.setTop (mkF m 17 #[.val (.ref a1)] [(.ref o3)])) _
    refine st5 _ ?_
    show Steps p.tables e below (T5.setTop (mkF m 20 #[.val (.ref a1)] [(.ref o3)])) _
    refine st6.trans ?_
    show Steps p.tables e below (T6.setTop (mkF m 23 #[.val (.ref a1)] [(.int (0 : Int32))])) _
    refine XS.ifNo X6.here hx rfl (hb hby own_d_prog_64_method_2_23) rfl ((if0 _ _).trans (teq (rfl : (0 : Int32) = (0 : Int32))).2) ?_
    show Steps p.tables e below (T6.setTop (mkF m 26 #[.val (.ref a1)] [])) _
    refine XS.iconst X6.here hx rfl (hb hby own_d_prog_64_method_2_26) ?_
    show Steps p.tables e below (T6.setTop (mkF m 27 #[.val (.ref a1)] [(.int (1 : Int32))])) _
    refine XS.goto X6.here hx rfl (pc0 := 27) (pc' := 31) rfl (hb hby own_d_prog_64_method_2_27) (by decide) (by decide) ?_
    show Steps p.tables e below (T6.setTop (mkF m 31 #[.val (.ref a1)] [(.int (1 : Int32))])) _
    exact retN X6 hx (t := .boolean) Bd.returns (by simp) (hb hby own_d_prog_64_method_2_31) hr
  · show own_Qrm_leaf0 Z G1 k_EMPTY a1 o2 o3 h0 n0 _ T6.heap _
    rw [e6]
    exact ⟨rfl, N6, rfl⟩
theorem own_d_prog_64_method_2_30 : decode prog_64_method_2_code 30 = .ok (.iconst 0, 1) := by decide +kernel
def own_Qrm_leaf1 (Z : State) (G1 : Int32) (k_EMPTY : Addr) (a1 : Addr) (o2 : Addr) (o3 : Addr) (h0 : Heap) (n0 : Nat) (v : Option Value) (h : Heap) (L : List Loc) : Prop := (v = some (.int (0 : Int32))) ∧ (Fr n0 L) ∧ (h = h0)
theorem own_efrm_leaf1 (m : MethodId) (a1 : Addr) : entryFrame m #[(.ref a1)] 1 = mkF m 0 #[.val (.ref a1)] [] := by first | (simp [entryFrame, mkF, argsToLocals, Value.category]; done) | rfl
set_option maxRecDepth 65536 in
set_option maxHeartbeats 40000000 in
theorem own_rm_leaf1 (l : Launch) (Z : State) (a0 : Array Value) (hw : ∀ d ∈ tables_1, d.before a0 Z = true) (ws : List Jvm.Cond) (G1 : Int32) (k_EMPTY : Addr) (gl : own_Glob Z G1 k_EMPTY) (a1 : Addr) (o2 : Addr) (o3 : Addr) (h0 : Heap) (n0 : Nat) (Z0 : n0 ≤ h0.size) (P1 : Fld Z h0 a1 "com/example/leftmost/leftmost/tree/ParseTree$Node" "symbol" "Ljava/util/Optional;" (.ref o2)) (P2 : Exa Z h0 o2 "java/util/Optional") (P3 : Fld Z h0 o2 "java/util/Optional" "value" "Ljava/lang/Object;" (.ref o3)) (P4 : Exa Z h0 o3 "com/example/leftmost/leftmost/grammar/Symbol") (P5 : Fld Z h0 o3 "com/example/leftmost/leftmost/grammar/Symbol" "isVariable" "Z" (.int (1 : Int32))) :
    MetFree l (⟨"com/example/leftmost/leftmost/tree/ParseTree$Node", "isLeaf", "()Z"⟩ : MethodName) (head1 (Jvm.Cond.code (⟨"com/example/leftmost/leftmost/tree/ParseTree$Node", "isLeaf", "()Z"⟩ : MethodName) prog_64_method_2_code 1 (some .boolean) :: ws) ({ frames := 1, cells := 0, slots := 0, locals := 12 } : Room)) (fun a U => a = #[(.ref a1)] ∧ Z.Warmed39 U.vm ∧ U.heap = h0) (fun _ _ _ _ _ => True) (fun _ U o U' => ∃ v L, o = .returned v ∧ own_Qrm_leaf1 Z G1 k_EMPTY a1 o2 o3 h0 n0 v U'.heap L ∧ FrameEnd U o U' L ({ frames := 1, cells := 0, slots := 0, locals := 12 } : Room).cells ({ frames := 1, cells := 0, slots := 0, locals := 12 } : Room).slots) := by
  refine MetFree.of_bodySF (plainFor_of_name own_pn9) hisR ?_
  intro p e s m args below meth c s₁ Bd hml0 hP hK
  obtain ⟨rfl, hZ, hh⟩ := hP
  obtain ⟨O_CS, P_CS, O_EMPTY, E_EMPTY, F_EMPTY⟩ := id gl
  have hx := Bd.exec
  have hby := Bd.bytes
  have hml : c.maxLocals = 1 := hml0
  have hown : s.vm.findClass "com/example/leftmost/leftmost/tree/ParseTree$Node" = some m.cls := findClass_of_methodNamed Bd.named
  have hnm := (name_of_methodNamed Bd.named Bd.method).1
  have X0 : Stand p l e ({ frames := 1, cells := 0, slots := 0, locals := 12 } : Room) s m #[(.ref a1)] below meth c s₁ [] 0 0 := Stand.of_body Bd
  have e0 : s₁.heap = h0 := by rw [← hh, Bd.state]; rfl
  have N0 := Fr.nil n0
  have pre0 : ∀ t, Steps p.tables e below (s₁.setTop (mkF m 0 #[.val (.ref a1)] [])) t → Steps p.tables e below (s₁.setTop (entryFrame m #[(.ref a1)] 1)) t := fun t k => castTop (own_efrm_leaf1 m a1) k
  obtain ⟨T1, X1, e1, st1⟩ := getF X0 hx hZ hown (host := "") (Or.inl (hw _ (List.mem_of_getElem? (i := 93) rfl))) Via.refl e0 P1 (g := (mkF m 1 #[.val (.ref a1)] [(.ref a1)])) rfl rfl (hb hby own_d_prog_64_method_2_1)
  obtain ⟨cq2, kq2, q2a, q2b, q2c⟩ := isOf hZ e1 P2
  obtain ⟨_, _, ⟨T2, L2, k2, n2⟩, -, X2, ⟨Lc2, hQ2, l2, y2, z2⟩, st2⟩ := X1.virtualBack hx (y := (⟨"java/util/Optional", "isEmpty", "()Z"⟩ : MethodName)) (z := (⟨"java/util/Optional", "isEmpty", "()Z"⟩ : MethodName)) hown (mvT hZ (hw _ (List.mem_of_getElem? (i := 100) rfl))) (mvT hZ (hw _ (List.mem_of_getElem? (i := 101) rfl))) (notFace_of_selects (args := #[]) (mvT hZ (hw _ (List.mem_of_getElem? (i := 103) rfl)))) (mvT hZ (hw _ (List.mem_of_getElem? (i := 103) rfl))) (mvT hZ (hw _ (List.mem_of_getElem? (i := 102) rfl))) (by decide) (backOf (W := 0) (own_rm_oe0 l Z a0 hw [] G1 k_EMPTY gl o2 o3 h0 n0 Z0 P3) hZ (hw _ (List.mem_of_getElem? (i := 104) rfl)) (hw _ (List.mem_of_getElem? (i := 66) rfl)) (by decide) (by decide)) q2a q2c (g := (mkF m 4 #[.val (.ref a1)] [(.ref o2)])) rfl (by rw [hml]; rfl) (Steps.refl _) (argsL := []) (rest := []) (lenOf own_pd7 rfl) rfl (by show 2 * 0 + _ ≤ _; exact Nat.le_of_eq rfl) (hb hby own_d_prog_64_method_2_4) (fun _ _ => ⟨rfl, e1, (by decide : 0 + 0 ≤ _), (by decide : 0 + 0 ≤ _)⟩)
  dsimp only [Pt.U, Pt.locs, Pt.cells, Pt.slots] at X2 l2 y2 z2 st2 hQ2
  subst y2 z2
  obtain ⟨rfl, Nq2, e2⟩ := hQ2
  have N2 : Fr n0 L2 := by rw [l2]; exact Fr.app N0 Nq2
  obtain ⟨T3, X3, e3, st3⟩ := getF X2 hx hZ hown (host := "") (Or.inl (hw _ (List.mem_of_getElem? (i := 93) rfl))) Via.refl e2 P1 (g := (mkF m 11 #[.val (.ref a1)] [(.ref a1)])) rfl rfl (hb hby own_d_prog_64_method_2_11)
  obtain ⟨cq4, kq4, q4a, q4b, q4c⟩ := isOf hZ e3 P2
  obtain ⟨_, _, ⟨T4, L4, k4, n4⟩, -, X4, ⟨Lc4, hQ4, l4, y4, z4⟩, st4⟩ := X3.virtualBack hx (y := (⟨"java/util/Optional", "get", "()Ljava/lang/Object;"⟩ : MethodName)) (z := (⟨"java/util/Optional", "get", "()Ljava/lang/Object;"⟩ : MethodName)) hown (mvT hZ (hw _ (List.mem_of_getElem? (i := 105) rfl))) (mvT hZ (hw _ (List.mem_of_getElem? (i := 106) rfl))) (notFace_of_selects (args := #[]) (mvT hZ (hw _ (List.mem_of_getElem? (i := 108) rfl)))) (mvT hZ (hw _ (List.mem_of_getElem? (i := 108) rfl))) (mvT hZ (hw _ (List.mem_of_getElem? (i := 107) rfl))) (by decide) (backOf (W := 0) (own_rm_get l Z a0 hw [] G1 k_EMPTY gl o2 o3 h0 n0 Z0 P3) hZ (hw _ (List.mem_of_getElem? (i := 109) rfl)) (hw _ (List.mem_of_getElem? (i := 66) rfl)) (by decide) (by decide)) q4a q4c (g := (mkF m 14 #[.val (.ref a1)] [(.ref o2)])) rfl (by rw [hml]; rfl) (Steps.refl _) (argsL := []) (rest := []) (lenOf own_pd10 rfl) rfl (by show 2 * 0 + _ ≤ _; exact Nat.le_of_eq rfl) (hb hby own_d_prog_64_method_2_14) (fun _ _ => ⟨rfl, e3, (by decide : 0 + 0 ≤ _), (by decide : 0 + 0 ≤ _)⟩)
  dsimp only [Pt.U, Pt.locs, Pt.cells, Pt.slots] at X4 l4 y4 z4 st4 hQ4
  subst y4 z4
  obtain ⟨rfl, Nq4, e4⟩ := hQ4
  have N4 : Fr n0 L4 := by rw [l4]; exact Fr.app N2 Nq4
  obtain ⟨T5, X5, e5, st5⟩ := castY X4 hx hZ hown (hw _ (List.mem_of_getElem? (i := 110) rfl)) e4 (Ins.self P4) (g := (mkF m 17 #[.val (.ref a1)] [(.ref o3)])) rfl rfl (hb hby own_d_prog_64_method_2_17)
  obtain ⟨cq6, kq6, q6a, q6b, q6c⟩ := isOf hZ e5 P4
  obtain ⟨_, _, ⟨T6, L6, k6, n6⟩, -, X6, ⟨Lc6, hQ6, l6, y6, z6⟩, st6⟩ := X5.virtualBack hx (y := (⟨"com/example/leftmost/leftmost/grammar/Symbol", "isVariable", "()Z"⟩ : MethodName)) (z := (⟨"com/example/leftmost/leftmost/grammar/Symbol", "isVariable", "()Z"⟩ : MethodName)) hown (mvT hZ (hw _ (List.mem_of_getElem? (i := 112) rfl))) (mvT hZ (hw _ (List.mem_of_getElem? (i := 113) rfl))) (notFace_of_selects (args := #[]) (mvT hZ (hw _ (List.mem_of_getElem? (i := 115) rfl)))) (mvT hZ (hw _ (List.mem_of_getElem? (i := 115) rfl))) (mvT hZ (hw _ (List.mem_of_getElem? (i := 114) rfl))) (by decide) (backOf (W := 0) (own_rm_isv l Z a0 hw [] G1 k_EMPTY gl o3 (1 : Int32) h0 n0 Z0 P5) hZ (hw _ (List.mem_of_getElem? (i := 116) rfl)) (hw _ (List.mem_of_getElem? (i := 38) rfl)) (by decide) (by decide)) q6a q6c (g := (mkF m 20 #[.val (.ref a1)] [(.ref o3)])) rfl (by rw [hml]; rfl) (Steps.refl _) (argsL := []) (rest := []) (lenOf own_pd7 rfl) rfl (by show 2 * 0 + _ ≤ _; exact Nat.le_of_eq rfl) (hb hby own_d_prog_64_method_2_20) (fun _ _ => ⟨rfl, e5, (by decide : 0 + 0 ≤ _), (by decide : 0 + 0 ≤ _)⟩)
  dsimp only [Pt.U, Pt.locs, Pt.cells, Pt.slots] at X6 l6 y6 z6 st6 hQ6
  subst y6 z6
  obtain ⟨rfl, Nq6, e6⟩ := hQ6
  have N6 : Fr n0 L6 := by rw [l6]; exact Fr.app N4 Nq6
  obtain ⟨fs, hr, hrun, hended, hW, hsame⟩ := X6.leave (v := some (.int (0 : Int32))) (fun h => by rw [Bd.returns] at h; cases h)
  refine ⟨_, _, pre0 _ ?_, hrun, hended, _, _, rfl, ?_, ⟨_, rfl⟩, hW, hsame.mono (by decide) (by decide)⟩
  · show Steps p.tables e below (s₁.setTop (mkF m 0 #[.val (.ref a1)] [])) _
    refine XS.aloadN X0.here hx rfl (hb hby own_d_prog_64_method_2_0) rfl rfl ?_
    show Steps p.tables e below (s₁.setTop (mkF m 1 #[.val (.ref a1)] [(.ref a1)])) _
    refine st1 _ ?_
    show Steps p.tables e below (T1.setTop (mkF m 4 #[.val (.ref a1)] [(.ref o2)])) _
    refine st2.trans ?_
    show Steps p.tables e below (T2.setTop (mkF m 7 #[.val (.ref a1)] [(.int (0 : Int32))])) _
    refine XS.ifNo X2.here hx rfl (hb hby own_d_prog_64_method_2_7) rfl ((if0 _ _).trans (teq (rfl : (0 : Int32) = (0 : Int32))).2) ?_
    show Steps p.tables e below (T2.setTop (mkF m 10 #[.val (.ref a1)] [])) _
    refine XS.aloadN X2.here hx rfl (hb hby own_d_prog_64_method_2_10) rfl rfl ?_
    show Steps p.tables e below (T2.setTop (mkF m 11 #[.val (.ref a1)] [(.ref a1)])) _
    refine st3 _ ?_
    show Steps p.tables e below (T3.setTop (mkF m 14 #[.val (.ref a1)] [(.ref o2)])) _
    refine st4.trans ?_
    show Steps p.tables e below (T4.setTop (mkF m 17 #[.val (.ref a1)] [(.ref o3)])) _
    refine st5 _ ?_
    show Steps p.tables e below (T5.setTop (mkF m 20 #[.val (.ref a1)] [(.ref o3)])) _
    refine st6.trans ?_
    show Steps p.tables e below (T6.setTop (mkF m 23 #[.val (.ref a1)] [(.int (1 : Int32))])) _
    refine XS.ifYes X6.here hx rfl (pc0 := 23) (pc' := 30) rfl (hb hby own_d_prog_64_method_2_23) rfl ((if0 _ _).trans (feq (by decide : ¬ ((1 : Int32) = (0 : Int32)))).2) (by decide) (by decide) ?_
    show Steps p.tables e below (T6.setTop (mkF m 30 #[.val (.ref a1)] [])) _
    refine XS.iconst X6.here hx rfl (hb hby own_d_prog_64_method_2_30) ?_
    show Steps p.tables e below (T6.setTop (mkF m 31 #[.val (.ref a1)] [(.int (0 : Int32))])) _
    exact retN X6 hx (t := .boolean) Bd.returns (by simp) (hb hby own_d_prog_64_method_2_31) hr
  · show own_Qrm_leaf1 Z G1 k_EMPTY a1 o2 o3 h0 n0 _ T6.heap _
    rw [e6]
    exact ⟨rfl, N6, rfl⟩
theorem own_pd11 : parseMethodDescriptor "(II)I" = some ⟨[.int, .int], some .int⟩ := by decide +kernel
theorem own_pd12 : parseMethodDescriptor "([C)V" = some ⟨[(.array .char)], none⟩ := by decide +kernel
theorem own_pd13 : parseMethodDescriptor "()Ljava/util/Optional;" = some ⟨[], some (.object "java/util/Optional")⟩ := by decide +kernel
theorem own_pd14 : parseMethodDescriptor "(IIILjava/util/Optional;)V" = some ⟨[.int, .int, .int, (.object "java/util/Optional")], none⟩ := by decide +kernel
theorem own_pn15 : plainName "com/example/leftmost/leftmost/tree/NodeIsLeafPinLaw" = true := by first | (simp [plainName, overriddenIn]; done) | decide +kernel
theorem own_eflaw10 (m : MethodId) (p1 : Int32) (p2 : Int32) (p3 : Int32) (p4 : Int32) (q5 : Int64) (p6 : Int32) : entryFrame m #[(.int p1), (.int p2), (.int p3), (.int p4), (.long q5), (.int p6)] maxLocals = mkF m 0 #[.val (.int p1), .val (.int p2), .val (.int p3), .val (.int p4), .val (.long q5), .second, .val (.int p6), .unset, .unset, .unset, .unset, .unset, .unset, .unset, .unset, .unset, .unset] [] := by first | (simp [entryFrame, mkF, argsToLocals, Value.category, maxLocals]; done) | rfl
set_option maxRecDepth 65536 in
set_option maxHeartbeats 40000000 in
theorem own_law10 (l : Launch) (Z : State) (a0 : Array Value) (hw : ∀ d ∈ tables_1, d.before a0 Z = true) (ws : List Jvm.Cond) (G1 : Int32) (k_EMPTY : Addr) (gl : own_Glob Z G1 k_EMPTY) (p1 : Int32) (p2 : Int32) (p3 : Int32) (p4 : Int32) (q5 : Int64) (p6 : Int32) (h0 : Heap) (n0 : Nat) (Z0 : n0 ≤ h0.size) (X00 : Old Z n0 h0) (hk : own_kd p4 = 0) (hn : own_a3 p6 = 0) :
    MetFree l x (head1 (Jvm.Cond.code x code maxLocals ret :: ws) room_1) (fun a U => a = #[(.int p1), (.int p2), (.int p3), (.int p4), (.long q5), (.int p6)] ∧ Z.Warmed39 U.vm ∧ U.heap = h0) (fun _ _ _ _ _ => True) (fun _ U o U' => ∃ v L, o = .returned v ∧ own_Qlaw h0 n0 v U'.heap L ∧ ReturnedEndW U o U' L room_1.cells room_1.slots) := by
  refine MetFree.of_bodySF (plainFor_of_name own_pn15) hisR ?_
  intro p e s m args below meth c s₁ Bd hml0 hP hK
  obtain ⟨rfl, hZ, hh⟩ := hP
  obtain ⟨O_CS, P_CS, O_EMPTY, E_EMPTY, F_EMPTY⟩ := id gl
  have hx := Bd.exec
  have hby := Bd.bytes
  have hml : c.maxLocals = 17 := hml0
  have hown : s.vm.findClass "com/example/leftmost/leftmost/tree/NodeIsLeafPinLaw" = some m.cls := findClass_of_methodNamed Bd.named
  have hnm := (name_of_methodNamed Bd.named Bd.method).1
  have X0 : Stand p l e room_1 s m #[(.int p1), (.int p2), (.int p3), (.int p4), (.long q5), (.int p6)] below meth c s₁ [] 0 0 := Stand.of_body Bd
  have e0 : s₁.heap = h0 := by rw [← hh, Bd.state]; rfl
  have N0 := Fr.nil n0
  have pre0 : ∀ t, Steps p.tables e below (s₁.setTop (mkF m 0 #[.val (.int p1), .val (.int p2), .val (.int p3), .val (.int p4), .val (.long q5), .second, .val (.int p6), .unset, .unset, .unset, .unset, .unset, .unset, .unset, .unset, .unset, .unset] [])) t → Steps p.tables e below (s₁.setTop (entryFrame m #[(.int p1), (.int p2), (.int p3), (.int p4), (.long q5), (.int p6)] maxLocals)) t := fun t k => castTop (own_eflaw10 m p1 p2 p3 p4 q5 p6) k
  obtain ⟨_, _, ⟨T1, L1, k1, n1⟩, -, X1, ⟨Lc1, hQ1, l1, y1, z1⟩, st1⟩ := Jvm.LawKit.callS X0 hx (y := (⟨"java/lang/Math", "min", "(II)I"⟩ : MethodName)) hown (mvT hZ (hw _ (List.mem_of_getElem? (i := 2) rfl))) (mvT hZ (hw _ (List.mem_of_getElem? (i := 3) rfl))) (mvT hZ (hw _ (List.mem_of_getElem? (i := 4) rfl))) (mvT hZ (hw _ (List.mem_of_getElem? (i := 5) rfl))) (by decide) (backOf (W := 1) (own_rm_minR l Z a0 hw [] G1 k_EMPTY gl (2 : Int32) (0 : Int32) h0 n0 Z0 (by decide : (0 : Int32) < (2 : Int32))) hZ (hw _ (List.mem_of_getElem? (i := 5) rfl)) (hw _ (List.mem_of_getElem? (i := 4) rfl)) (by decide) (by decide)) (g := (mkF m 50 #[.val (.int p1), .val (.int p2), .val (.int p3), .val (.int p4), .val (.long q5), .second, .val (.int p6), .val (.int (0 : Int32)), .val (.int (own_t0 q5)), .val (.int (own_t1 q5 (8 : Int32))), .val (.int (own_t1 q5 (16 : Int32))), .unset, .unset, .unset, .unset, .unset, .unset] [(.int (0 : Int32)), (.int (2 : Int32)), (.int (1 : Int32))])) rfl (by rw [hml]; rfl) (argsL := [(.int (2 : Int32)), (.int (0 : Int32))]) (rest := [(.int (1 : Int32))]) (lenOf own_pd11 rfl) rfl (by show 2 * 0 + _ ≤ _; exact Nat.le_of_eq rfl) (hb hby at_50) (fun _ _ => ⟨rfl, e0, (by decide : 0 + 0 ≤ _), (by decide : 0 + 0 ≤ _)⟩)
  dsimp only [Pt.U, Pt.locs, Pt.cells, Pt.slots] at X1 l1 y1 z1 st1 hQ1
  subst y1 z1
  obtain ⟨rfl, Nq1, e1⟩ := hQ1
  have N1 : Fr n0 L1 := by rw [l1]; exact Fr.app N0 Nq1
  obtain ⟨T2, h2, k2, X2, e2, E2, A2, st2⟩ := newP X1 hx hZ (hw _ (List.mem_of_getElem? (i := 6) rfl)) e1 (g := (mkF m 63 #[.val (.int p1), .val (.int p2), .val (.int p3), .val (.int p4), .val (.long q5), .second, .val (.int p6), .val (.int (0 : Int32)), .val (.int (own_t0 q5)), .val (.int (own_t1 q5 (8 : Int32))), .val (.int (own_t1 q5 (16 : Int32))), .val (.int (1 : Int32)), .unset, .unset, .unset, .unset, .unset] [(.int (1 : Int32))])) rfl (hb hby at_63) rfl (by decide) (cap := 1) (by decide) (by decide) (by decide) (by decide)
  obtain ⟨b2, g2⟩ : ∃ z, z = h0.size := ⟨_, rfl⟩
  rw [← g2] at A2 st2
  have Kp3 : Keep h0 h2 [] := (Keep.refl h0 []).ext E2
  have Vh4 : Arv Z h2 b2 k2 .char (1 : Int32) [(.int (0 : Int32))] (.int (0 : Int32)) := (Arv.new A2 (by decide)).pad (pad_rep [] (.int (0 : Int32)) 1)
  obtain ⟨cl5, Ar5, qc5, Sz5, Ng5, Hs5, Gs5⟩ := id Vh4
  have hin5 : ¬ ((0 : Int32) < 0 ∨ cl5.slots.size ≤ ((0 : Int32)).toNatClampNeg) := inb_of Sz5 ⟨(by decide), (by decide)⟩
  obtain ⟨T6, h6, X6, e6, W6, st6⟩ := stC X2 hx hZ e2 Ar5 (j := (0 : Int32)) hin5 (g := (mkF m 69 #[.val (.int p1), .val (.int p2), .val (.int p3), .val (.int p4), .val (.long q5), .second, .val (.int p6), .val (.int (0 : Int32)), .val (.int (own_t0 q5)), .val (.int (own_t1 q5 (8 : Int32))), .val (.int (own_t1 q5 (16 : Int32))), .val (.int (1 : Int32)), .unset, .unset, .unset, .unset, .unset] [(.int (own_t0 q5)), (.int (0 : Int32)), (.ref b2), (.ref b2)])) rfl rfl (hb hby at_69)
  have Kp7 : Keep h0 h6 [] := Kp3.wr W6 (Or.inr (Nat.le_trans (Keep.refl h0 []).1 (Nat.le_of_eq g2.symm)))
  have gh8 : n0 ≤ b2 := Nat.le_trans Z0 (Nat.le_of_eq g2.symm)
  obtain ⟨Lp6, X6, N6⟩ := own_pack X6 (Fr.snoc X6 N1 gh8)
  have Vh9 : Arv Z h6 b2 k2 .char (1 : Int32) [(.int (own_n0 q5))] (.int (0 : Int32)) := (Arv.set Ar5 qc5 Sz5 Ng5 Hs5 Gs5 (fits_nar_char _) W6 0 rfl (Nat.le_of_ble_eq_true rfl))
  obtain ⟨T10, h10, X10, e10, E10, A10, D10, U10, st10⟩ := newO X6 hx hZ hown (hw _ (List.mem_of_getElem? (i := 7) rfl)) (hw _ (List.mem_of_getElem? (i := 8) rfl)) (hw _ (List.mem_of_getElem? (i := 9) rfl)) e6 (g := (mkF m 119 #[.val (.int p1), .val (.int p2), .val (.int p3), .val (.int p4), .val (.long q5), .second, .val (.int p6), .val (.int (0 : Int32)), .val (.int (own_t0 q5)), .val (.int (own_t1 q5 (8 : Int32))), .val (.int (own_t1 q5 (16 : Int32))), .val (.int (1 : Int32)), .val (.ref b2), .unset, .unset, .unset, .unset] [])) rfl (hb hby at_119) (by decide) (by decide)
  obtain ⟨b10, g10⟩ : ∃ z, z = h6.size := ⟨_, rfl⟩
  rw [← g10] at A10 D10 U10 st10
  have Kp11 : Keep h0 h10 [] := Kp7.ext E10
  have Fh12 : Fld Z h10 b10 "java/lang/String" "value" "[B" .null := (D10 (Or.inr (hw _ (List.mem_of_getElem? (i := 35) rfl))) (ty := (.array .byte)) (by decide))
  have Fh13 : Fld Z h10 b10 "java/lang/String" "coder" "B" (.int (0 : Int32)) := (D10 (Or.inr (hw _ (List.mem_of_getElem? (i := 33) rfl))) (ty := .byte) (by decide))
  have Vh14 : Arv Z h10 b2 k2 .char (1 : Int32) [(.int (own_n0 q5))] (.int (0 : Int32)) := (Vh9.ext E10)
  have hph15 : ∀ c ∈ ([(own_n0 q5)] : List Int32), ¬ c < 0 ∧ ¬ (255 : Int32) < c := (own_cS (own_rng_n0 q5) own_c0)
  have hws_words : ∀ d ∈ StrChars.Road.words, d.before a0 Z = true := fun d hd => hw d (own_hws_words d hd)
  have Zh16 : n0 ≤ h10.size := (Nat.le_trans Z0 Kp11.1)
  have gh17 : n0 ≤ b10 := Nat.le_trans (Nat.le_trans Z0 Kp7.1) (Nat.le_of_eq g10.symm)
  have Old18 : Old Z n0 h2 := X00.ext E2
  have Old19 : Old Z n0 h6 := Old18.wr W6 gh8
  have Old20 : Old Z n0 h10 := Old19.ext E10
  obtain ⟨_, _, ⟨T21, L21, k21, n21⟩, -, X21, ⟨Lc21, hQ21, l21, y21, z21⟩, st21⟩ := X10.specialBack hx (y := (⟨"java/lang/String", "<init>", "([C)V"⟩ : MethodName)) rfl hown (mvT hZ (hw _ (List.mem_of_getElem? (i := 10) rfl))) (mvT hZ (hw _ (List.mem_of_getElem? (i := 11) rfl))) (mvT hZ (hw _ (List.mem_of_getElem? (i := 12) rfl))) (by decide) (StrChars.Road.backV (W := 1) hZ hws_words (kI := 4) (hw _ (List.mem_of_getElem? (i := 8) rfl)) (cs := ([(own_n0 q5)] : List Int32)) (bs := ([(own_n0 q5)] : List Int32).map (fun c => c.toInt8.toInt32)) (n := 1) gh17 Zh16 A10 Fh12 Fh13 Vh14 (O_CS.ext Old20.2) P_CS rfl rfl (by decide) (by decide) hph15 rfl (by decide) (by decide)) (g := (mkF m 125 #[.val (.int p1), .val (.int p2), .val (.int p3), .val (.int p4), .val (.long q5), .second, .val (.int p6), .val (.int (0 : Int32)), .val (.int (own_t0 q5)), .val (.int (own_t1 q5 (8 : Int32))), .val (.int (own_t1 q5 (16 : Int32))), .val (.int (1 : Int32)), .val (.ref b2), .unset, .unset, .unset, .unset] [(.ref b2), (.ref b10), (.ref b10)])) rfl (by rw [hml]; rfl) (Steps.refl _) (a := b10) (argsL := [(.ref b2)]) (rest := [(.ref b10)]) (lenOf own_pd12 rfl) rfl (by show 2 * 0 + _ ≤ _; exact Nat.le_of_eq rfl) (hb hby at_125) (fun _ _ => ⟨rfl, e10, (by decide : 2 + 1 ≤ _), (by decide : 5 + 1 ≤ _)⟩)
  dsimp only [Pt.U, Pt.locs, Pt.cells, Pt.slots] at X21 l21 y21 z21 st21 hQ21
  subst y21 z21
  obtain ⟨rfl, Nq21, Kq21, Eq21, Cq21, t21, kb21, gt21, szt21, nt21, Vq21, Bq21⟩ := hQ21
  have N21 : Fr n0 L21 := by rw [l21]; exact Fr.app N6 Nq21
  have Kp22 : Keep h0 T21.heap [] := Kp11.trans Kq21 (allS (Or.inr (Nat.le_trans Kp7.1 (Nat.le_of_eq g10.symm))) all0)
  have Old23 : Old Z n0 T21.heap := Old20.keep Kq21 (allS gh17 all0)
  obtain ⟨_, _, ⟨T24, L24, k24, n24⟩, -, X24, ⟨Lc24, hQ24, l24, y24, z24⟩, st24⟩ := Jvm.LawKit.callS X21 hx (y := (⟨"java/util/Optional", "empty", "()Ljava/util/Optional;"⟩ : MethodName)) hown (mvT hZ (hw _ (List.mem_of_getElem? (i := 117) rfl))) (mvT hZ (hw _ (List.mem_of_getElem? (i := 118) rfl))) (mvT hZ (hw _ (List.mem_of_getElem? (i := 66) rfl))) (mvT hZ (hw _ (List.mem_of_getElem? (i := 119) rfl))) (by decide) (backOf (W := 0) (own_rm_empty l Z a0 hw [] G1 k_EMPTY gl  T21.heap n0 (Nat.le_trans Z0 Kp22.1) Old23 ) hZ (hw _ (List.mem_of_getElem? (i := 119) rfl)) (hw _ (List.mem_of_getElem? (i := 66) rfl)) (by decide) (by decide)) (g := (mkF m 135 #[.val (.int p1), .val (.int p2), .val (.int p3), .val (.int p4), .val (.long q5), .second, .val (.int p6), .val (.int (0 : Int32)), .val (.int (own_t0 q5)), .val (.int (own_t1 q5 (8 : Int32))), .val (.int (own_t1 q5 (16 : Int32))), .val (.int (1 : Int32)), .val (.ref b2), .val (.ref b10), .unset, .unset, .unset] [])) rfl (by rw [hml]; rfl) (argsL := []) (rest := []) (lenOf own_pd13 rfl) rfl (by show 2 * 0 + _ ≤ _; exact Nat.le_of_eq rfl) (hb hby at_135) (fun _ _ => ⟨rfl, rfl, (by decide : 3 + 0 ≤ _), (by decide : 6 + 0 ≤ _)⟩)
  dsimp only [Pt.U, Pt.locs, Pt.cells, Pt.slots] at X24 l24 y24 z24 st24 hQ24
  subst y24 z24
  obtain ⟨rfl, Nq24, e24⟩ := hQ24
  have N24 : Fr n0 L24 := by rw [l24]; exact Fr.app N21 Nq24
  obtain ⟨T25, h25, X25, e25, E25, A25, D25, U25, st25⟩ := newO X24 hx hZ hown (hw _ (List.mem_of_getElem? (i := 80) rfl)) (hw _ (List.mem_of_getElem? (i := 81) rfl)) (hw _ (List.mem_of_getElem? (i := 82) rfl)) e24 (g := (mkF m 168 #[.val (.int p1), .val (.int p2), .val (.int p3), .val (.int p4), .val (.long q5), .second, .val (.int p6), .val (.int (0 : Int32)), .val (.int (own_t0 q5)), .val (.int (own_t1 q5 (8 : Int32))), .val (.int (own_t1 q5 (16 : Int32))), .val (.int (1 : Int32)), .val (.ref b2), .val (.ref b10), .val (.ref k_EMPTY), .unset, .unset] [])) rfl (hb hby at_168) (by decide) (by decide)
  obtain ⟨b25, g25⟩ : ∃ z, z = T21.heap.size := ⟨_, rfl⟩
  rw [← g25] at A25 D25 U25 st25
  have Kp26 : Keep h0 h25 [] := Kp22.ext E25
  have Fh27 : Fld Z h25 b25 "com/example/leftmost/leftmost/tree/ParseTree$Node" "index" "I" (.int (0 : Int32)) := (D25 (Or.inr (hw _ (List.mem_of_getElem? (i := 88) rfl))) (ty := .int) (by decide))
  have gh28 : n0 ≤ b25 := Nat.le_trans (Nat.le_trans Z0 Kp22.1) (Nat.le_of_eq g25.symm)
  have Fh29 : Fld Z h25 b25 "com/example/leftmost/leftmost/tree/ParseTree$Node" "parent" "I" (.int (0 : Int32)) := (D25 (Or.inr (hw _ (List.mem_of_getElem? (i := 90) rfl))) (ty := .int) (by decide))
  have Fh30 : Fld Z h25 b25 "com/example/leftmost/leftmost/tree/ParseTree$Node" "depth" "I" (.int (0 : Int32)) := (D25 (Or.inr (hw _ (List.mem_of_getElem? (i := 92) rfl))) (ty := .int) (by decide))
  have Fh31 : Fld Z h25 b25 "com/example/leftmost/leftmost/tree/ParseTree$Node" "symbol" "Ljava/util/Optional;" .null := (D25 (Or.inr (hw _ (List.mem_of_getElem? (i := 94) rfl))) (ty := (.object "java/util/Optional")) (by decide))
  obtain ⟨_, _, ⟨T32, L32, k32, n32⟩, -, X32, ⟨Lc32, hQ32, l32, y32, z32⟩, st32⟩ := X25.specialBack hx (y := (⟨"com/example/leftmost/leftmost/tree/ParseTree$Node", "<init>", "(IIILjava/util/Optional;)V"⟩ : MethodName)) rfl hown (mvT hZ (hw _ (List.mem_of_getElem? (i := 83) rfl))) (mvT hZ (hw _ (List.mem_of_getElem? (i := 84) rfl))) (mvT hZ (hw _ (List.mem_of_getElem? (i := 85) rfl))) (by decide) (backOf (W := 1) (own_rm_node l Z a0 hw [] G1 k_EMPTY gl b25 p1 p2 p3 k_EMPTY ((.int (0 : Int32))) ((.int (0 : Int32))) ((.int (0 : Int32))) (.null) h25 n0 (Nat.le_trans Z0 Kp26.1) A25 Fh27 gh28 Fh29 Fh30 Fh31) hZ (hw _ (List.mem_of_getElem? (i := 85) rfl)) (hw _ (List.mem_of_getElem? (i := 82) rfl)) (by decide) (by decide)) (g := (mkF m 177 #[.val (.int p1), .val (.int p2), .val (.int p3), .val (.int p4), .val (.long q5), .second, .val (.int p6), .val (.int (0 : Int32)), .val (.int (own_t0 q5)), .val (.int (own_t1 q5 (8 : Int32))), .val (.int (own_t1 q5 (16 : Int32))), .val (.int (1 : Int32)), .val (.ref b2), .val (.ref b10), .val (.ref k_EMPTY), .unset, .unset] [(.ref k_EMPTY), (.int p3), (.int p2), (.int p1), (.ref b25), (.ref b25)])) rfl (by rw [hml]; rfl) (Steps.refl _) (a := b25) (argsL := [(.int p1), (.int p2), (.int p3), (.ref k_EMPTY)]) (rest := [(.ref b25)]) (lenOf own_pd14 rfl) rfl (by show 2 * 0 + _ ≤ _; exact Nat.le_of_eq rfl) (hb hby at_177) (fun _ _ => ⟨rfl, e25, (by decide : 4 + 0 ≤ _), (by decide : 10 + 0 ≤ _)⟩)
  dsimp only [Pt.U, Pt.locs, Pt.cells, Pt.slots] at X32 l32 y32 z32 st32 hQ32
  subst y32 z32
  obtain ⟨rfl, Nq32, Kq32, f32_0, f32_1, f32_2, f32_3, f32_4⟩ := hQ32
  have N32 : Fr n0 L32 := by rw [l32]; exact Fr.app N24 Nq32
  have Kp33 : Keep h0 T32.heap [] := Kp26.trans Kq32 (allS (Or.inr (Nat.le_trans Kp22.1 (Nat.le_of_eq g25.symm))) all0)
  have Old34 : Old Z n0 h25 := Old23.ext E25
  have Old35 : Old Z n0 T32.heap := Old34.keep Kq32 (allS gh28 all0)
  obtain ⟨cq36, kq36, q36a, q36b, q36c⟩ := isOf hZ rfl f32_0
  obtain ⟨_, _, ⟨T36, L36, k36, n36⟩, -, X36, ⟨Lc36, hQ36, l36, y36, z36⟩, st36⟩ := X32.virtualBack hx (y := (⟨"com/example/leftmost/leftmost/tree/ParseTree$Node", "isLeaf", "()Z"⟩ : MethodName)) (z := (⟨"com/example/leftmost/leftmost/tree/ParseTree$Node", "isLeaf", "()Z"⟩ : MethodName)) hown (mvT hZ (hw _ (List.mem_of_getElem? (i := 95) rfl))) (mvT hZ (hw _ (List.mem_of_getElem? (i := 96) rfl))) (notFace_of_selects (args := #[]) (mvT hZ (hw _ (List.mem_of_getElem? (i := 98) rfl)))) (mvT hZ (hw _ (List.mem_of_getElem? (i := 98) rfl))) (mvT hZ (hw _ (List.mem_of_getElem? (i := 97) rfl))) (by decide) (backOf (W := 0) (own_rm_leafE l Z a0 hw [] G1 k_EMPTY gl b25 T32.heap n0 (Nat.le_trans Z0 Kp33.1) Old35 f32_4) hZ (hw _ (List.mem_of_getElem? (i := 99) rfl)) (hw _ (List.mem_of_getElem? (i := 82) rfl)) (by decide) (by decide)) q36a q36c (g := (mkF m 197 #[.val (.int p1), .val (.int p2), .val (.int p3), .val (.int p4), .val (.long q5), .second, .val (.int p6), .val (.int (0 : Int32)), .val (.int (own_t0 q5)), .val (.int (own_t1 q5 (8 : Int32))), .val (.int (own_t1 q5 (16 : Int32))), .val (.int (1 : Int32)), .val (.ref b2), .val (.ref b10), .val (.ref k_EMPTY), .val (.ref b25), .val (.int (1 : Int32))] [(.ref b25)])) rfl (by rw [hml]; rfl) (Steps.refl _) (argsL := []) (rest := []) (lenOf own_pd7 rfl) rfl (by show 2 * 0 + _ ≤ _; exact Nat.le_of_eq rfl) (hb hby at_197) (fun _ _ => ⟨rfl, rfl, (by decide : 4 + 0 ≤ _), (by decide : 10 + 0 ≤ _)⟩)
  dsimp only [Pt.U, Pt.locs, Pt.cells, Pt.slots] at X36 l36 y36 z36 st36 hQ36
  subst y36 z36
  obtain ⟨rfl, Nq36, e36⟩ := hQ36
  have N36 : Fr n0 L36 := by rw [l36]; exact Fr.app N32 Nq36
  obtain ⟨fs, hr, hrun, hended, hW, hsame⟩ := X36.leave (v := some (.int (1 : Int32))) (fun h => by rw [Bd.returns] at h; cases h)
  refine ⟨_, _, pre0 _ ?_, hrun, hended, _, _, rfl, ?_, ReturnedEndW.of_narrow ⟨_, rfl⟩ hW (hsame.mono (by decide) (by decide))⟩
  · show Steps p.tables e below (s₁.setTop (mkF m 0 #[.val (.int p1), .val (.int p2), .val (.int p3), .val (.int p4), .val (.long q5), .second, .val (.int p6), .unset, .unset, .unset, .unset, .unset, .unset, .unset, .unset, .unset, .unset] [])) _
    refine XS.iloadN X0.here hx rfl (hb hby at_0) rfl ?_
    show Steps p.tables e below (s₁.setTop (mkF m 1 #[.val (.int p1), .val (.int p2), .val (.int p3), .val (.int p4), .val (.long q5), .second, .val (.int p6), .unset, .unset, .unset, .unset, .unset, .unset, .unset, .unset, .unset, .unset] [(.int p4)])) _
    refine X0.ldcInt hx hown (mvT hZ (hw _ (List.mem_of_getElem? (i := 0) rfl))) (g := (mkF m 1 #[.val (.int p1), .val (.int p2), .val (.int p3), .val (.int p4), .val (.long q5), .second, .val (.int p6), .unset, .unset, .unset, .unset, .unset, .unset, .unset, .unset, .unset, .unset] [(.int p4)])) rfl (hb hby at_1) _ ?_
    show Steps p.tables e below (s₁.setTop (mkF m 3 #[.val (.int p1), .val (.int p2), .val (.int p3), .val (.int p4), .val (.long q5), .second, .val (.int p6), .unset, .unset, .unset, .unset, .unset, .unset, .unset, .unset, .unset, .unset] [(.int (2147483647 : Int32)), (.int p4)])) _
    refine XS.iand X0.here hx rfl (hb hby at_3) rfl ?_
    show Steps p.tables e below (s₁.setTop (mkF m 4 #[.val (.int p1), .val (.int p2), .val (.int p3), .val (.int p4), .val (.long q5), .second, .val (.int p6), .unset, .unset, .unset, .unset, .unset, .unset, .unset, .unset, .unset, .unset] [(.int (p4 &&& (2147483647 : Int32)))])) _
    refine XS.iconst X0.here hx rfl (hb hby at_4) ?_
    show Steps p.tables e below (s₁.setTop (mkF m 5 #[.val (.int p1), .val (.int p2), .val (.int p3), .val (.int p4), .val (.long q5), .second, .val (.int p6), .unset, .unset, .unset, .unset, .unset, .unset, .unset, .unset, .unset, .unset] [(.int (3 : Int32)), (.int (p4 &&& (2147483647 : Int32)))])) _
    refine iremM X0 hx rfl (hb hby at_5) rfl (by decide) ?_
    show Steps p.tables e below (s₁.setTop (mkF m 6 #[.val (.int p1), .val (.int p2), .val (.int p3), .val (.int p4), .val (.long q5), .second, .val (.int p6), .unset, .unset, .unset, .unset, .unset, .unset, .unset, .unset, .unset, .unset] [(.int (own_kd p4))])) _
    rw [hk]
    show Steps p.tables e below (s₁.setTop (mkF m 6 #[.val (.int p1), .val (.int p2), .val (.int p3), .val (.int p4), .val (.long q5), .second, .val (.int p6), .unset, .unset, .unset, .unset, .unset, .unset, .unset, .unset, .unset, .unset] [(.int (0 : Int32))])) _
    refine XS.istore X0.here hx rfl (hb hby at_6) rfl (l' := #[.val (.int p1), .val (.int p2), .val (.int p3), .val (.int p4), .val (.long q5), .second, .val (.int p6), .val (.int (0 : Int32)), .unset, .unset, .unset, .unset, .unset, .unset, .unset, .unset, .unset]) rfl ?_
    show Steps p.tables e below (s₁.setTop (mkF m 8 #[.val (.int p1), .val (.int p2), .val (.int p3), .val (.int p4), .val (.long q5), .second, .val (.int p6), .val (.int (0 : Int32)), .unset, .unset, .unset, .unset, .unset, .unset, .unset, .unset, .unset] [])) _
    refine XS.lload X0.here hx rfl (hb hby at_8) rfl ?_
    show Steps p.tables e below (s₁.setTop (mkF m 10 #[.val (.int p1), .val (.int p2), .val (.int p3), .val (.int p4), .val (.long q5), .second, .val (.int p6), .val (.int (0 : Int32)), .unset, .unset, .unset, .unset, .unset, .unset, .unset, .unset, .unset] [(.long q5)])) _
    refine X0.ldc2Long hx hown (mvT hZ (hw _ (List.mem_of_getElem? (i := 1) rfl))) (g := (mkF m 10 #[.val (.int p1), .val (.int p2), .val (.int p3), .val (.int p4), .val (.long q5), .second, .val (.int p6), .val (.int (0 : Int32)), .unset, .unset, .unset, .unset, .unset, .unset, .unset, .unset, .unset] [(.long q5)])) rfl (hb hby at_10) _ ?_
    show Steps p.tables e below (s₁.setTop (mkF m 13 #[.val (.int p1), .val (.int p2), .val (.int p3), .val (.int p4), .val (.long q5), .second, .val (.int p6), .val (.int (0 : Int32)), .unset, .unset, .unset, .unset, .unset, .unset, .unset, .unset, .unset] [(.long (255 : Int64)), (.long q5)])) _
    refine XS.land X0.here hx rfl (hb hby at_13) rfl ?_
    show Steps p.tables e below (s₁.setTop (mkF m 14 #[.val (.int p1), .val (.int p2), .val (.int p3), .val (.int p4), .val (.long q5), .second, .val (.int p6), .val (.int (0 : Int32)), .unset, .unset, .unset, .unset, .unset, .unset, .unset, .unset, .unset] [(.long (q5 &&& (255 : Int64)))])) _
    refine XS.l2i X0.here hx rfl (hb hby at_14) rfl ?_
    show Steps p.tables e below (s₁.setTop (mkF m 15 #[.val (.int p1), .val (.int p2), .val (.int p3), .val (.int p4), .val (.long q5), .second, .val (.int p6), .val (.int (0 : Int32)), .unset, .unset, .unset, .unset, .unset, .unset, .unset, .unset, .unset] [(.int ((q5 &&& (255 : Int64)).toInt32))])) _
    refine XS.i2c X0.here hx rfl (hb hby at_15) rfl ?_
    show Steps p.tables e below (s₁.setTop (mkF m 16 #[.val (.int p1), .val (.int p2), .val (.int p3), .val (.int p4), .val (.long q5), .second, .val (.int p6), .val (.int (0 : Int32)), .unset, .unset, .unset, .unset, .unset, .unset, .unset, .unset, .unset] [(.int (own_t0 q5))])) _
    refine XS.istore X0.here hx rfl (hb hby at_16) rfl (l' := #[.val (.int p1), .val (.int p2), .val (.int p3), .val (.int p4), .val (.long q5), .second, .val (.int p6), .val (.int (0 : Int32)), .val (.int (own_t0 q5)), .unset, .unset, .unset, .unset, .unset, .unset, .unset, .unset]) rfl ?_
    show Steps p.tables e below (s₁.setTop (mkF m 18 #[.val (.int p1), .val (.int p2), .val (.int p3), .val (.int p4), .val (.long q5), .second, .val (.int p6), .val (.int (0 : Int32)), .val (.int (own_t0 q5)), .unset, .unset, .unset, .unset, .unset, .unset, .unset, .unset] [])) _
    refine XS.lload X0.here hx rfl (hb hby at_18) rfl ?_
    show Steps p.tables e below (s₁.setTop (mkF m 20 #[.val (.int p1), .val (.int p2), .val (.int p3), .val (.int p4), .val (.long q5), .second, .val (.int p6), .val (.int (0 : Int32)), .val (.int (own_t0 q5)), .unset, .unset, .unset, .unset, .unset, .unset, .unset, .unset] [(.long q5)])) _
    refine XS.bipush X0.here hx rfl (hb hby at_20) ?_
    show Steps p.tables e below (s₁.setTop (mkF m 22 #[.val (.int p1), .val (.int p2), .val (.int p3), .val (.int p4), .val (.long q5), .second, .val (.int p6), .val (.int (0 : Int32)), .val (.int (own_t0 q5)), .unset, .unset, .unset, .unset, .unset, .unset, .unset, .unset] [(.int (8 : Int32)), (.long q5)])) _
    refine XS.lushr X0.here hx rfl (hb hby at_22) rfl ?_
    show Steps p.tables e below (s₁.setTop (mkF m 23 #[.val (.int p1), .val (.int p2), .val (.int p3), .val (.int p4), .val (.long q5), .second, .val (.int p6), .val (.int (0 : Int32)), .val (.int (own_t0 q5)), .unset, .unset, .unset, .unset, .unset, .unset, .unset, .unset] [(.long ((q5.toUInt64 >>> ((8 : Int32) &&& 0x3f).toInt64.toUInt64).toInt64))])) _
    refine X0.ldc2Long hx hown (mvT hZ (hw _ (List.mem_of_getElem? (i := 1) rfl))) (g := (mkF m 23 #[.val (.int p1), .val (.int p2), .val (.int p3), .val (.int p4), .val (.long q5), .second, .val (.int p6), .val (.int (0 : Int32)), .val (.int (own_t0 q5)), .unset, .unset, .unset, .unset, .unset, .unset, .unset, .unset] [(.long ((q5.toUInt64 >>> ((8 : Int32) &&& 0x3f).toInt64.toUInt64).toInt64))])) rfl (hb hby at_23) _ ?_
    show Steps p.tables e below (s₁.setTop (mkF m 26 #[.val (.int p1), .val (.int p2), .val (.int p3), .val (.int p4), .val (.long q5), .second, .val (.int p6), .val (.int (0 : Int32)), .val (.int (own_t0 q5)), .unset, .unset, .unset, .unset, .unset, .unset, .unset, .unset] [(.long (255 : Int64)), (.long ((q5.toUInt64 >>> ((8 : Int32) &&& 0x3f).toInt64.toUInt64).toInt64))])) _
    refine XS.land X0.here hx rfl (hb hby at_26) rfl ?_
    show Steps p.tables e below (s₁.setTop (mkF m 27 #[.val (.int p1), .val (.int p2), .val (.int p3), .val (.int p4), .val (.long q5), .second, .val (.int p6), .val (.int (0 : Int32)), .val (.int (own_t0 q5)), .unset, .unset, .unset, .unset, .unset, .unset, .unset, .unset] [(.long (((q5.toUInt64 >>> ((8 : Int32) &&& 0x3f).toInt64.toUInt64).toInt64) &&& (255 : Int64)))])) _
    refine XS.l2i X0.here hx rfl (hb hby at_27) rfl ?_
    show Steps p.tables e below (s₁.setTop (mkF m 28 #[.val (.int p1), .val (.int p2), .val (.int p3), .val (.int p4), .val (.long q5), .second, .val (.int p6), .val (.int (0 : Int32)), .val (.int (own_t0 q5)), .unset, .unset, .unset, .unset, .unset, .unset, .unset, .unset] [(.int ((((q5.toUInt64 >>> ((8 : Int32) &&& 0x3f).toInt64.toUInt64).toInt64) &&& (255 : Int64)).toInt32))])) _
    refine XS.i2c X0.here hx rfl (hb hby at_28) rfl ?_
    show Steps p.tables e below (s₁.setTop (mkF m 29 #[.val (.int p1), .val (.int p2), .val (.int p3), .val (.int p4), .val (.long q5), .second, .val (.int p6), .val (.int (0 : Int32)), .val (.int (own_t0 q5)), .unset, .unset, .unset, .unset, .unset, .unset, .unset, .unset] [(.int (own_t1 q5 (8 : Int32)))])) _
    refine XS.istore X0.here hx rfl (hb hby at_29) rfl (l' := #[.val (.int p1), .val (.int p2), .val (.int p3), .val (.int p4), .val (.long q5), .second, .val (.int p6), .val (.int (0 : Int32)), .val (.int (own_t0 q5)), .val (.int (own_t1 q5 (8 : Int32))), .unset, .unset, .unset, .unset, .unset, .unset, .unset]) rfl ?_
    show Steps p.tables e below (s₁.setTop (mkF m 31 #[.val (.int p1), .val (.int p2), .val (.int p3), .val (.int p4), .val (.long q5), .second, .val (.int p6), .val (.int (0 : Int32)), .val (.int (own_t0 q5)), .val (.int (own_t1 q5 (8 : Int32))), .unset, .unset, .unset, .unset, .unset, .unset, .unset] [])) _
    refine XS.lload X0.here hx rfl (hb hby at_31) rfl ?_
    show Steps p.tables e below (s₁.setTop (mkF m 33 #[.val (.int p1), .val (.int p2), .val (.int p3), .val (.int p4), .val (.long q5), .second, .val (.int p6), .val (.int (0 : Int32)), .val (.int (own_t0 q5)), .val (.int (own_t1 q5 (8 : Int32))), .unset, .unset, .unset, .unset, .unset, .unset, .unset] [(.long q5)])) _
    refine XS.bipush X0.here hx rfl (hb hby at_33) ?_
    show Steps p.tables e below (s₁.setTop (mkF m 35 #[.val (.int p1), .val (.int p2), .val (.int p3), .val (.int p4), .val (.long q5), .second, .val (.int p6), .val (.int (0 : Int32)), .val (.int (own_t0 q5)), .val (.int (own_t1 q5 (8 : Int32))), .unset, .unset, .unset, .unset, .unset, .unset, .unset] [(.int (16 : Int32)), (.long q5)])) _
    refine XS.lushr X0.here hx rfl (hb hby at_35) rfl ?_
    show Steps p.tables e below (s₁.setTop (mkF m 36 #[.val (.int p1), .val (.int p2), .val (.int p3), .val (.int p4), .val (.long q5), .second, .val (.int p6), .val (.int (0 : Int32)), .val (.int (own_t0 q5)), .val (.int (own_t1 q5 (8 : Int32))), .unset, .unset, .unset, .unset, .unset, .unset, .unset] [(.long ((q5.toUInt64 >>> ((16 : Int32) &&& 0x3f).toInt64.toUInt64).toInt64))])) _
    refine X0.ldc2Long hx hown (mvT hZ (hw _ (List.mem_of_getElem? (i := 1) rfl))) (g := (mkF m 36 #[.val (.int p1), .val (.int p2), .val (.int p3), .val (.int p4), .val (.long q5), .second, .val (.int p6), .val (.int (0 : Int32)), .val (.int (own_t0 q5)), .val (.int (own_t1 q5 (8 : Int32))), .unset, .unset, .unset, .unset, .unset, .unset, .unset] [(.long ((q5.toUInt64 >>> ((16 : Int32) &&& 0x3f).toInt64.toUInt64).toInt64))])) rfl (hb hby at_36) _ ?_
    show Steps p.tables e below (s₁.setTop (mkF m 39 #[.val (.int p1), .val (.int p2), .val (.int p3), .val (.int p4), .val (.long q5), .second, .val (.int p6), .val (.int (0 : Int32)), .val (.int (own_t0 q5)), .val (.int (own_t1 q5 (8 : Int32))), .unset, .unset, .unset, .unset, .unset, .unset, .unset] [(.long (255 : Int64)), (.long ((q5.toUInt64 >>> ((16 : Int32) &&& 0x3f).toInt64.toUInt64).toInt64))])) _
    refine XS.land X0.here hx rfl (hb hby at_39) rfl ?_
    show Steps p.tables e below (s₁.setTop (mkF m 40 #[.val (.int p1), .val (.int p2), .val (.int p3), .val (.int p4), .val (.long q5), .second, .val (.int p6), .val (.int (0 : Int32)), .val (.int (own_t0 q5)), .val (.int (own_t1 q5 (8 : Int32))), .unset, .unset, .unset, .unset, .unset, .unset, .unset] [(.long (((q5.toUInt64 >>> ((16 : Int32) &&& 0x3f).toInt64.toUInt64).toInt64) &&& (255 : Int64)))])) _
    refine XS.l2i X0.here hx rfl (hb hby at_40) rfl ?_
    show Steps p.tables e below (s₁.setTop (mkF m 41 #[.val (.int p1), .val (.int p2), .val (.int p3), .val (.int p4), .val (.long q5), .second, .val (.int p6), .val (.int (0 : Int32)), .val (.int (own_t0 q5)), .val (.int (own_t1 q5 (8 : Int32))), .unset, .unset, .unset, .unset, .unset, .unset, .unset] [(.int ((((q5.toUInt64 >>> ((16 : Int32) &&& 0x3f).toInt64.toUInt64).toInt64) &&& (255 : Int64)).toInt32))])) _
    refine XS.i2c X0.here hx rfl (hb hby at_41) rfl ?_
    show Steps p.tables e below (s₁.setTop (mkF m 42 #[.val (.int p1), .val (.int p2), .val (.int p3), .val (.int p4), .val (.long q5), .second, .val (.int p6), .val (.int (0 : Int32)), .val (.int (own_t0 q5)), .val (.int (own_t1 q5 (8 : Int32))), .unset, .unset, .unset, .unset, .unset, .unset, .unset] [(.int (own_t1 q5 (16 : Int32)))])) _
    refine XS.istore X0.here hx rfl (hb hby at_42) rfl (l' := #[.val (.int p1), .val (.int p2), .val (.int p3), .val (.int p4), .val (.long q5), .second, .val (.int p6), .val (.int (0 : Int32)), .val (.int (own_t0 q5)), .val (.int (own_t1 q5 (8 : Int32))), .val (.int (own_t1 q5 (16 : Int32))), .unset, .unset, .unset, .unset, .unset, .unset]) rfl ?_
    show Steps p.tables e below (s₁.setTop (mkF m 44 #[.val (.int p1), .val (.int p2), .val (.int p3), .val (.int p4), .val (.long q5), .second, .val (.int p6), .val (.int (0 : Int32)), .val (.int (own_t0 q5)), .val (.int (own_t1 q5 (8 : Int32))), .val (.int (own_t1 q5 (16 : Int32))), .unset, .unset, .unset, .unset, .unset, .unset] [])) _
    refine XS.iconst X0.here hx rfl (hb hby at_44) ?_
    show Steps p.tables e below (s₁.setTop (mkF m 45 #[.val (.int p1), .val (.int p2), .val (.int p3), .val (.int p4), .val (.long q5), .second, .val (.int p6), .val (.int (0 : Int32)), .val (.int (own_t0 q5)), .val (.int (own_t1 q5 (8 : Int32))), .val (.int (own_t1 q5 (16 : Int32))), .unset, .unset, .unset, .unset, .unset, .unset] [(.int (1 : Int32))])) _
    refine XS.iconst X0.here hx rfl (hb hby at_45) ?_
    show Steps p.tables e below (s₁.setTop (mkF m 46 #[.val (.int p1), .val (.int p2), .val (.int p3), .val (.int p4), .val (.long q5), .second, .val (.int p6), .val (.int (0 : Int32)), .val (.int (own_t0 q5)), .val (.int (own_t1 q5 (8 : Int32))), .val (.int (own_t1 q5 (16 : Int32))), .unset, .unset, .unset, .unset, .unset, .unset] [(.int (2 : Int32)), (.int (1 : Int32))])) _
    refine XS.iload X0.here hx rfl (hb hby at_46) rfl ?_
    show Steps p.tables e below (s₁.setTop (mkF m 48 #[.val (.int p1), .val (.int p2), .val (.int p3), .val (.int p4), .val (.long q5), .second, .val (.int p6), .val (.int (0 : Int32)), .val (.int (own_t0 q5)), .val (.int (own_t1 q5 (8 : Int32))), .val (.int (own_t1 q5 (16 : Int32))), .unset, .unset, .unset, .unset, .unset, .unset] [(.int p6), (.int (2 : Int32)), (.int (1 : Int32))])) _
    refine XS.iconst X0.here hx rfl (hb hby at_48) ?_
    show Steps p.tables e below (s₁.setTop (mkF m 49 #[.val (.int p1), .val (.int p2), .val (.int p3), .val (.int p4), .val (.long q5), .second, .val (.int p6), .val (.int (0 : Int32)), .val (.int (own_t0 q5)), .val (.int (own_t1 q5 (8 : Int32))), .val (.int (own_t1 q5 (16 : Int32))), .unset, .unset, .unset, .unset, .unset, .unset] [(.int (3 : Int32)), (.int p6), (.int (2 : Int32)), (.int (1 : Int32))])) _
    refine XS.iand X0.here hx rfl (hb hby at_49) rfl ?_
    show Steps p.tables e below (s₁.setTop (mkF m 50 #[.val (.int p1), .val (.int p2), .val (.int p3), .val (.int p4), .val (.long q5), .second, .val (.int p6), .val (.int (0 : Int32)), .val (.int (own_t0 q5)), .val (.int (own_t1 q5 (8 : Int32))), .val (.int (own_t1 q5 (16 : Int32))), .unset, .unset, .unset, .unset, .unset, .unset] [(.int (own_a3 p6)), (.int (2 : Int32)), (.int (1 : Int32))])) _
    rw [hn]
    show Steps p.tables e below (s₁.setTop (mkF m 50 #[.val (.int p1), .val (.int p2), .val (.int p3), .val (.int p4), .val (.long q5), .second, .val (.int p6), .val (.int (0 : Int32)), .val (.int (own_t0 q5)), .val (.int (own_t1 q5 (8 : Int32))), .val (.int (own_t1 q5 (16 : Int32))), .unset, .unset, .unset, .unset, .unset, .unset] [(.int (0 : Int32)), (.int (2 : Int32)), (.int (1 : Int32))])) _
    refine st1 _ ?_
    show Steps p.tables e below (T1.setTop (mkF m 53 #[.val (.int p1), .val (.int p2), .val (.int p3), .val (.int p4), .val (.long q5), .second, .val (.int p6), .val (.int (0 : Int32)), .val (.int (own_t0 q5)), .val (.int (own_t1 q5 (8 : Int32))), .val (.int (own_t1 q5 (16 : Int32))), .unset, .unset, .unset, .unset, .unset, .unset] [(.int (0 : Int32)), (.int (1 : Int32))])) _
    refine XS.iadd X1.here hx rfl (hb hby at_53) rfl ?_
    show Steps p.tables e below (T1.setTop (mkF m 54 #[.val (.int p1), .val (.int p2), .val (.int p3), .val (.int p4), .val (.long q5), .second, .val (.int p6), .val (.int (0 : Int32)), .val (.int (own_t0 q5)), .val (.int (own_t1 q5 (8 : Int32))), .val (.int (own_t1 q5 (16 : Int32))), .unset, .unset, .unset, .unset, .unset, .unset] [(.int (1 : Int32))])) _
    refine XS.istore X1.here hx rfl (hb hby at_54) rfl (l' := #[.val (.int p1), .val (.int p2), .val (.int p3), .val (.int p4), .val (.long q5), .second, .val (.int p6), .val (.int (0 : Int32)), .val (.int (own_t0 q5)), .val (.int (own_t1 q5 (8 : Int32))), .val (.int (own_t1 q5 (16 : Int32))), .val (.int (1 : Int32)), .unset, .unset, .unset, .unset, .unset]) rfl ?_
    show Steps p.tables e below (T1.setTop (mkF m 56 #[.val (.int p1), .val (.int p2), .val (.int p3), .val (.int p4), .val (.long q5), .second, .val (.int p6), .val (.int (0 : Int32)), .val (.int (own_t0 q5)), .val (.int (own_t1 q5 (8 : Int32))), .val (.int (own_t1 q5 (16 : Int32))), .val (.int (1 : Int32)), .unset, .unset, .unset, .unset, .unset] [])) _
    refine XS.iload X1.here hx rfl (hb hby at_56) rfl ?_
    show Steps p.tables e below (T1.setTop (mkF m 58 #[.val (.int p1), .val (.int p2), .val (.int p3), .val (.int p4), .val (.long q5), .second, .val (.int p6), .val (.int (0 : Int32)), .val (.int (own_t0 q5)), .val (.int (own_t1 q5 (8 : Int32))), .val (.int (own_t1 q5 (16 : Int32))), .val (.int (1 : Int32)), .unset, .unset, .unset, .unset, .unset] [(.int (1 : Int32))])) _
    refine XS.iconst X1.here hx rfl (hb hby at_58) ?_
    show Steps p.tables e below (T1.setTop (mkF m 59 #[.val (.int p1), .val (.int p2), .val (.int p3), .val (.int p4), .val (.long q5), .second, .val (.int p6), .val (.int (0 : Int32)), .val (.int (own_t0 q5)), .val (.int (own_t1 q5 (8 : Int32))), .val (.int (own_t1 q5 (16 : Int32))), .val (.int (1 : Int32)), .unset, .unset, .unset, .unset, .unset] [(.int (1 : Int32)), (.int (1 : Int32))])) _
    refine XS.icmpNo X1.here hx rfl (hb hby at_59) rfl (teq (rfl : (1 : Int32) = (1 : Int32))).2 ?_
    show Steps p.tables e below (T1.setTop (mkF m 62 #[.val (.int p1), .val (.int p2), .val (.int p3), .val (.int p4), .val (.long q5), .second, .val (.int p6), .val (.int (0 : Int32)), .val (.int (own_t0 q5)), .val (.int (own_t1 q5 (8 : Int32))), .val (.int (own_t1 q5 (16 : Int32))), .val (.int (1 : Int32)), .unset, .unset, .unset, .unset, .unset] [])) _
    refine XS.iconst X1.here hx rfl (hb hby at_62) ?_
    show Steps p.tables e below (T1.setTop (mkF m 63 #[.val (.int p1), .val (.int p2), .val (.int p3), .val (.int p4), .val (.long q5), .second, .val (.int p6), .val (.int (0 : Int32)), .val (.int (own_t0 q5)), .val (.int (own_t1 q5 (8 : Int32))), .val (.int (own_t1 q5 (16 : Int32))), .val (.int (1 : Int32)), .unset, .unset, .unset, .unset, .unset] [(.int (1 : Int32))])) _
    refine st2 _ ?_
    show Steps p.tables e below (T2.setTop (mkF m 65 #[.val (.int p1), .val (.int p2), .val (.int p3), .val (.int p4), .val (.long q5), .second, .val (.int p6), .val (.int (0 : Int32)), .val (.int (own_t0 q5)), .val (.int (own_t1 q5 (8 : Int32))), .val (.int (own_t1 q5 (16 : Int32))), .val (.int (1 : Int32)), .unset, .unset, .unset, .unset, .unset] [(.ref b2)])) _
    refine XS.dup X2.here hx rfl (hb hby at_65) rfl rfl ?_
    show Steps p.tables e below (T2.setTop (mkF m 66 #[.val (.int p1), .val (.int p2), .val (.int p3), .val (.int p4), .val (.long q5), .second, .val (.int p6), .val (.int (0 : Int32)), .val (.int (own_t0 q5)), .val (.int (own_t1 q5 (8 : Int32))), .val (.int (own_t1 q5 (16 : Int32))), .val (.int (1 : Int32)), .unset, .unset, .unset, .unset, .unset] [(.ref b2), (.ref b2)])) _
    refine XS.iconst X2.here hx rfl (hb hby at_66) ?_
    show Steps p.tables e below (T2.setTop (mkF m 67 #[.val (.int p1), .val (.int p2), .val (.int p3), .val (.int p4), .val (.long q5), .second, .val (.int p6), .val (.int (0 : Int32)), .val (.int (own_t0 q5)), .val (.int (own_t1 q5 (8 : Int32))), .val (.int (own_t1 q5 (16 : Int32))), .val (.int (1 : Int32)), .unset, .unset, .unset, .unset, .unset] [(.int (0 : Int32)), (.ref b2), (.ref b2)])) _
    refine XS.iload X2.here hx rfl (hb hby at_67) rfl ?_
    show Steps p.tables e below (T2.setTop (mkF m 69 #[.val (.int p1), .val (.int p2), .val (.int p3), .val (.int p4), .val (.long q5), .second, .val (.int p6), .val (.int (0 : Int32)), .val (.int (own_t0 q5)), .val (.int (own_t1 q5 (8 : Int32))), .val (.int (own_t1 q5 (16 : Int32))), .val (.int (1 : Int32)), .unset, .unset, .unset, .unset, .unset] [(.int (own_t0 q5)), (.int (0 : Int32)), (.ref b2), (.ref b2)])) _
    refine st6 _ ?_
    show Steps p.tables e below (T6.setTop (mkF m 70 #[.val (.int p1), .val (.int p2), .val (.int p3), .val (.int p4), .val (.long q5), .second, .val (.int p6), .val (.int (0 : Int32)), .val (.int (own_t0 q5)), .val (.int (own_t1 q5 (8 : Int32))), .val (.int (own_t1 q5 (16 : Int32))), .val (.int (1 : Int32)), .unset, .unset, .unset, .unset, .unset] [(.ref b2)])) _
    refine XS.astore X6.here hx rfl (hb hby at_70) rfl rfl (l' := #[.val (.int p1), .val (.int p2), .val (.int p3), .val (.int p4), .val (.long q5), .second, .val (.int p6), .val (.int (0 : Int32)), .val (.int (own_t0 q5)), .val (.int (own_t1 q5 (8 : Int32))), .val (.int (own_t1 q5 (16 : Int32))), .val (.int (1 : Int32)), .val (.ref b2), .unset, .unset, .unset, .unset]) rfl ?_
    show Steps p.tables e below (T6.setTop (mkF m 72 #[.val (.int p1), .val (.int p2), .val (.int p3), .val (.int p4), .val (.long q5), .second, .val (.int p6), .val (.int (0 : Int32)), .val (.int (own_t0 q5)), .val (.int (own_t1 q5 (8 : Int32))), .val (.int (own_t1 q5 (16 : Int32))), .val (.int (1 : Int32)), .val (.ref b2), .unset, .unset, .unset, .unset] [])) _
    refine XS.goto X6.here hx rfl (pc0 := 72) (pc' := 119) rfl (hb hby at_72) (by decide) (by decide) ?_
    show Steps p.tables e below (T6.setTop (mkF m 119 #[.val (.int p1), .val (.int p2), .val (.int p3), .val (.int p4), .val (.long q5), .second, .val (.int p6), .val (.int (0 : Int32)), .val (.int (own_t0 q5)), .val (.int (own_t1 q5 (8 : Int32))), .val (.int (own_t1 q5 (16 : Int32))), .val (.int (1 : Int32)), .val (.ref b2), .unset, .unset, .unset, .unset] [])) _
    refine st10 _ ?_
    show Steps p.tables e below (T10.setTop (mkF m 122 #[.val (.int p1), .val (.int p2), .val (.int p3), .val (.int p4), .val (.long q5), .second, .val (.int p6), .val (.int (0 : Int32)), .val (.int (own_t0 q5)), .val (.int (own_t1 q5 (8 : Int32))), .val (.int (own_t1 q5 (16 : Int32))), .val (.int (1 : Int32)), .val (.ref b2), .unset, .unset, .unset, .unset] [(.ref b10)])) _
    refine XS.dup X10.here hx rfl (hb hby at_122) rfl rfl ?_
    show Steps p.tables e below (T10.setTop (mkF m 123 #[.val (.int p1), .val (.int p2), .val (.int p3), .val (.int p4), .val (.long q5), .second, .val (.int p6), .val (.int (0 : Int32)), .val (.int (own_t0 q5)), .val (.int (own_t1 q5 (8 : Int32))), .val (.int (own_t1 q5 (16 : Int32))), .val (.int (1 : Int32)), .val (.ref b2), .unset, .unset, .unset, .unset] [(.ref b10), (.ref b10)])) _
    refine XS.aload X10.here hx rfl (hb hby at_123) rfl rfl ?_
    show Steps p.tables e below (T10.setTop (mkF m 125 #[.val (.int p1), .val (.int p2), .val (.int p3), .val (.int p4), .val (.long q5), .second, .val (.int p6), .val (.int (0 : Int32)), .val (.int (own_t0 q5)), .val (.int (own_t1 q5 (8 : Int32))), .val (.int (own_t1 q5 (16 : Int32))), .val (.int (1 : Int32)), .val (.ref b2), .unset, .unset, .unset, .unset] [(.ref b2), (.ref b10), (.ref b10)])) _
    refine st21.trans ?_
    show Steps p.tables e below (T21.setTop (mkF m 128 #[.val (.int p1), .val (.int p2), .val (.int p3), .val (.int p4), .val (.long q5), .second, .val (.int p6), .val (.int (0 : Int32)), .val (.int (own_t0 q5)), .val (.int (own_t1 q5 (8 : Int32))), .val (.int (own_t1 q5 (16 : Int32))), .val (.int (1 : Int32)), .val (.ref b2), .unset, .unset, .unset, .unset] [(.ref b10)])) _
    refine XS.astore X21.here hx rfl (hb hby at_128) rfl rfl (l' := #[.val (.int p1), .val (.int p2), .val (.int p3), .val (.int p4), .val (.long q5), .second, .val (.int p6), .val (.int (0 : Int32)), .val (.int (own_t0 q5)), .val (.int (own_t1 q5 (8 : Int32))), .val (.int (own_t1 q5 (16 : Int32))), .val (.int (1 : Int32)), .val (.ref b2), .val (.ref b10), .unset, .unset, .unset]) rfl ?_
    show Steps p.tables e below (T21.setTop (mkF m 130 #[.val (.int p1), .val (.int p2), .val (.int p3), .val (.int p4), .val (.long q5), .second, .val (.int p6), .val (.int (0 : Int32)), .val (.int (own_t0 q5)), .val (.int (own_t1 q5 (8 : Int32))), .val (.int (own_t1 q5 (16 : Int32))), .val (.int (1 : Int32)), .val (.ref b2), .val (.ref b10), .unset, .unset, .unset] [])) _
    refine XS.iload X21.here hx rfl (hb hby at_130) rfl ?_
    show Steps p.tables e below (T21.setTop (mkF m 132 #[.val (.int p1), .val (.int p2), .val (.int p3), .val (.int p4), .val (.long q5), .second, .val (.int p6), .val (.int (0 : Int32)), .val (.int (own_t0 q5)), .val (.int (own_t1 q5 (8 : Int32))), .val (.int (own_t1 q5 (16 : Int32))), .val (.int (1 : Int32)), .val (.ref b2), .val (.ref b10), .unset, .unset, .unset] [(.int (0 : Int32))])) _
    refine XS.ifNo X21.here hx rfl (hb hby at_132) rfl ((if0 _ _).trans (teq (rfl : (0 : Int32) = (0 : Int32))).2) ?_
    show Steps p.tables e below (T21.setTop (mkF m 135 #[.val (.int p1), .val (.int p2), .val (.int p3), .val (.int p4), .val (.long q5), .second, .val (.int p6), .val (.int (0 : Int32)), .val (.int (own_t0 q5)), .val (.int (own_t1 q5 (8 : Int32))), .val (.int (own_t1 q5 (16 : Int32))), .val (.int (1 : Int32)), .val (.ref b2), .val (.ref b10), .unset, .unset, .unset] [])) _
    refine st24 _ ?_
    show Steps p.tables e below (T24.setTop (mkF m 138 #[.val (.int p1), .val (.int p2), .val (.int p3), .val (.int p4), .val (.long q5), .second, .val (.int p6), .val (.int (0 : Int32)), .val (.int (own_t0 q5)), .val (.int (own_t1 q5 (8 : Int32))), .val (.int (own_t1 q5 (16 : Int32))), .val (.int (1 : Int32)), .val (.ref b2), .val (.ref b10), .unset, .unset, .unset] [(.ref k_EMPTY)])) _
    refine XS.astore X24.here hx rfl (hb hby at_138) rfl rfl (l' := #[.val (.int p1), .val (.int p2), .val (.int p3), .val (.int p4), .val (.long q5), .second, .val (.int p6), .val (.int (0 : Int32)), .val (.int (own_t0 q5)), .val (.int (own_t1 q5 (8 : Int32))), .val (.int (own_t1 q5 (16 : Int32))), .val (.int (1 : Int32)), .val (.ref b2), .val (.ref b10), .val (.ref k_EMPTY), .unset, .unset]) rfl ?_
    show Steps p.tables e below (T24.setTop (mkF m 140 #[.val (.int p1), .val (.int p2), .val (.int p3), .val (.int p4), .val (.long q5), .second, .val (.int p6), .val (.int (0 : Int32)), .val (.int (own_t0 q5)), .val (.int (own_t1 q5 (8 : Int32))), .val (.int (own_t1 q5 (16 : Int32))), .val (.int (1 : Int32)), .val (.ref b2), .val (.ref b10), .val (.ref k_EMPTY), .unset, .unset] [])) _
    refine XS.goto X24.here hx rfl (pc0 := 140) (pc' := 168) rfl (hb hby at_140) (by decide) (by decide) ?_
    show Steps p.tables e below (T24.setTop (mkF m 168 #[.val (.int p1), .val (.int p2), .val (.int p3), .val (.int p4), .val (.long q5), .second, .val (.int p6), .val (.int (0 : Int32)), .val (.int (own_t0 q5)), .val (.int (own_t1 q5 (8 : Int32))), .val (.int (own_t1 q5 (16 : Int32))), .val (.int (1 : Int32)), .val (.ref b2), .val (.ref b10), .val (.ref k_EMPTY), .unset, .unset] [])) _
    refine st25 _ ?_
    show Steps p.tables e below (T25.setTop (mkF m 171 #[.val (.int p1), .val (.int p2), .val (.int p3), .val (.int p4), .val (.long q5), .second, .val (.int p6), .val (.int (0 : Int32)), .val (.int (own_t0 q5)), .val (.int (own_t1 q5 (8 : Int32))), .val (.int (own_t1 q5 (16 : Int32))), .val (.int (1 : Int32)), .val (.ref b2), .val (.ref b10), .val (.ref k_EMPTY), .unset, .unset] [(.ref b25)])) _
    refine XS.dup X25.here hx rfl (hb hby at_171) rfl rfl ?_
    show Steps p.tables e below (T25.setTop (mkF m 172 #[.val (.int p1), .val (.int p2), .val (.int p3), .val (.int p4), .val (.long q5), .second, .val (.int p6), .val (.int (0 : Int32)), .val (.int (own_t0 q5)), .val (.int (own_t1 q5 (8 : Int32))), .val (.int (own_t1 q5 (16 : Int32))), .val (.int (1 : Int32)), .val (.ref b2), .val (.ref b10), .val (.ref k_EMPTY), .unset, .unset] [(.ref b25), (.ref b25)])) _
    refine XS.iloadN X25.here hx rfl (hb hby at_172) rfl ?_
    show Steps p.tables e below (T25.setTop (mkF m 173 #[.val (.int p1), .val (.int p2), .val (.int p3), .val (.int p4), .val (.long q5), .second, .val (.int p6), .val (.int (0 : Int32)), .val (.int (own_t0 q5)), .val (.int (own_t1 q5 (8 : Int32))), .val (.int (own_t1 q5 (16 : Int32))), .val (.int (1 : Int32)), .val (.ref b2), .val (.ref b10), .val (.ref k_EMPTY), .unset, .unset] [(.int p1), (.ref b25), (.ref b25)])) _
    refine XS.iloadN X25.here hx rfl (hb hby at_173) rfl ?_
    show Steps p.tables e below (T25.setTop (mkF m 174 #[.val (.int p1), .val (.int p2), .val (.int p3), .val (.int p4), .val (.long q5), .second, .val (.int p6), .val (.int (0 : Int32)), .val (.int (own_t0 q5)), .val (.int (own_t1 q5 (8 : Int32))), .val (.int (own_t1 q5 (16 : Int32))), .val (.int (1 : Int32)), .val (.ref b2), .val (.ref b10), .val (.ref k_EMPTY), .unset, .unset] [(.int p2), (.int p1), (.ref b25), (.ref b25)])) _
    refine XS.iloadN X25.here hx rfl (hb hby at_174) rfl ?_
    show Steps p.tables e below (T25.setTop (mkF m 175 #[.val (.int p1), .val (.int p2), .val (.int p3), .val (.int p4), .val (.long q5), .second, .val (.int p6), .val (.int (0 : Int32)), .val (.int (own_t0 q5)), .val (.int (own_t1 q5 (8 : Int32))), .val (.int (own_t1 q5 (16 : Int32))), .val (.int (1 : Int32)), .val (.ref b2), .val (.ref b10), .val (.ref k_EMPTY), .unset, .unset] [(.int p3), (.int p2), (.int p1), (.ref b25), (.ref b25)])) _
    refine XS.aload X25.here hx rfl (hb hby at_175) rfl rfl ?_
    show Steps p.tables e below (T25.setTop (mkF m 177 #[.val (.int p1), .val (.int p2), .val (.int p3), .val (.int p4), .val (.long q5), .second, .val (.int p6), .val (.int (0 : Int32)), .val (.int (own_t0 q5)), .val (.int (own_t1 q5 (8 : Int32))), .val (.int (own_t1 q5 (16 : Int32))), .val (.int (1 : Int32)), .val (.ref b2), .val (.ref b10), .val (.ref k_EMPTY), .unset, .unset] [(.ref k_EMPTY), (.int p3), (.int p2), (.int p1), (.ref b25), (.ref b25)])) _
    refine st32.trans ?_
    show Steps p.tables e below (T32.setTop (mkF m 180 #[.val (.int p1), .val (.int p2), .val (.int p3), .val (.int p4), .val (.long q5), .second, .val (.int p6), .val (.int (0 : Int32)), .val (.int (own_t0 q5)), .val (.int (own_t1 q5 (8 : Int32))), .val (.int (own_t1 q5 (16 : Int32))), .val (.int (1 : Int32)), .val (.ref b2), .val (.ref b10), .val (.ref k_EMPTY), .unset, .unset] [(.ref b25)])) _
    refine XS.astore X32.here hx rfl (hb hby at_180) rfl rfl (l' := #[.val (.int p1), .val (.int p2), .val (.int p3), .val (.int p4), .val (.long q5), .second, .val (.int p6), .val (.int (0 : Int32)), .val (.int (own_t0 q5)), .val (.int (own_t1 q5 (8 : Int32))), .val (.int (own_t1 q5 (16 : Int32))), .val (.int (1 : Int32)), .val (.ref b2), .val (.ref b10), .val (.ref k_EMPTY), .val (.ref b25), .unset]) rfl ?_
    show Steps p.tables e below (T32.setTop (mkF m 182 #[.val (.int p1), .val (.int p2), .val (.int p3), .val (.int p4), .val (.long q5), .second, .val (.int p6), .val (.int (0 : Int32)), .val (.int (own_t0 q5)), .val (.int (own_t1 q5 (8 : Int32))), .val (.int (own_t1 q5 (16 : Int32))), .val (.int (1 : Int32)), .val (.ref b2), .val (.ref b10), .val (.ref k_EMPTY), .val (.ref b25), .unset] [])) _
    refine XS.iload X32.here hx rfl (hb hby at_182) rfl ?_
    show Steps p.tables e below (T32.setTop (mkF m 184 #[.val (.int p1), .val (.int p2), .val (.int p3), .val (.int p4), .val (.long q5), .second, .val (.int p6), .val (.int (0 : Int32)), .val (.int (own_t0 q5)), .val (.int (own_t1 q5 (8 : Int32))), .val (.int (own_t1 q5 (16 : Int32))), .val (.int (1 : Int32)), .val (.ref b2), .val (.ref b10), .val (.ref k_EMPTY), .val (.ref b25), .unset] [(.int (0 : Int32))])) _
    refine XS.iconst X32.here hx rfl (hb hby at_184) ?_
    show Steps p.tables e below (T32.setTop (mkF m 185 #[.val (.int p1), .val (.int p2), .val (.int p3), .val (.int p4), .val (.long q5), .second, .val (.int p6), .val (.int (0 : Int32)), .val (.int (own_t0 q5)), .val (.int (own_t1 q5 (8 : Int32))), .val (.int (own_t1 q5 (16 : Int32))), .val (.int (1 : Int32)), .val (.ref b2), .val (.ref b10), .val (.ref k_EMPTY), .val (.ref b25), .unset] [(.int (1 : Int32)), (.int (0 : Int32))])) _
    refine XS.icmpNo X32.here hx rfl (hb hby at_185) rfl (feq (by decide : ¬ ((0 : Int32) = (1 : Int32)))).1 ?_
    show Steps p.tables e below (T32.setTop (mkF m 188 #[.val (.int p1), .val (.int p2), .val (.int p3), .val (.int p4), .val (.long q5), .second, .val (.int p6), .val (.int (0 : Int32)), .val (.int (own_t0 q5)), .val (.int (own_t1 q5 (8 : Int32))), .val (.int (own_t1 q5 (16 : Int32))), .val (.int (1 : Int32)), .val (.ref b2), .val (.ref b10), .val (.ref k_EMPTY), .val (.ref b25), .unset] [])) _
    refine XS.iconst X32.here hx rfl (hb hby at_188) ?_
    show Steps p.tables e below (T32.setTop (mkF m 189 #[.val (.int p1), .val (.int p2), .val (.int p3), .val (.int p4), .val (.long q5), .second, .val (.int p6), .val (.int (0 : Int32)), .val (.int (own_t0 q5)), .val (.int (own_t1 q5 (8 : Int32))), .val (.int (own_t1 q5 (16 : Int32))), .val (.int (1 : Int32)), .val (.ref b2), .val (.ref b10), .val (.ref k_EMPTY), .val (.ref b25), .unset] [(.int (1 : Int32))])) _
    refine XS.goto X32.here hx rfl (pc0 := 189) (pc' := 193) rfl (hb hby at_189) (by decide) (by decide) ?_
    show Steps p.tables e below (T32.setTop (mkF m 193 #[.val (.int p1), .val (.int p2), .val (.int p3), .val (.int p4), .val (.long q5), .second, .val (.int p6), .val (.int (0 : Int32)), .val (.int (own_t0 q5)), .val (.int (own_t1 q5 (8 : Int32))), .val (.int (own_t1 q5 (16 : Int32))), .val (.int (1 : Int32)), .val (.ref b2), .val (.ref b10), .val (.ref k_EMPTY), .val (.ref b25), .unset] [(.int (1 : Int32))])) _
    refine XS.istore X32.here hx rfl (hb hby at_193) rfl (l' := #[.val (.int p1), .val (.int p2), .val (.int p3), .val (.int p4), .val (.long q5), .second, .val (.int p6), .val (.int (0 : Int32)), .val (.int (own_t0 q5)), .val (.int (own_t1 q5 (8 : Int32))), .val (.int (own_t1 q5 (16 : Int32))), .val (.int (1 : Int32)), .val (.ref b2), .val (.ref b10), .val (.ref k_EMPTY), .val (.ref b25), .val (.int (1 : Int32))]) rfl ?_
    show Steps p.tables e below (T32.setTop (mkF m 195 #[.val (.int p1), .val (.int p2), .val (.int p3), .val (.int p4), .val (.long q5), .second, .val (.int p6), .val (.int (0 : Int32)), .val (.int (own_t0 q5)), .val (.int (own_t1 q5 (8 : Int32))), .val (.int (own_t1 q5 (16 : Int32))), .val (.int (1 : Int32)), .val (.ref b2), .val (.ref b10), .val (.ref k_EMPTY), .val (.ref b25), .val (.int (1 : Int32))] [])) _
    refine XS.aload X32.here hx rfl (hb hby at_195) rfl rfl ?_
    show Steps p.tables e below (T32.setTop (mkF m 197 #[.val (.int p1), .val (.int p2), .val (.int p3), .val (.int p4), .val (.long q5), .second, .val (.int p6), .val (.int (0 : Int32)), .val (.int (own_t0 q5)), .val (.int (own_t1 q5 (8 : Int32))), .val (.int (own_t1 q5 (16 : Int32))), .val (.int (1 : Int32)), .val (.ref b2), .val (.ref b10), .val (.ref k_EMPTY), .val (.ref b25), .val (.int (1 : Int32))] [(.ref b25)])) _
    refine st36.trans ?_
    show Steps p.tables e below (T36.setTop (mkF m 200 #[.val (.int p1), .val (.int p2), .val (.int p3), .val (.int p4), .val (.long q5), .second, .val (.int p6), .val (.int (0 : Int32)), .val (.int (own_t0 q5)), .val (.int (own_t1 q5 (8 : Int32))), .val (.int (own_t1 q5 (16 : Int32))), .val (.int (1 : Int32)), .val (.ref b2), .val (.ref b10), .val (.ref k_EMPTY), .val (.ref b25), .val (.int (1 : Int32))] [(.int (1 : Int32))])) _
    refine XS.iload X36.here hx rfl (hb hby at_200) rfl ?_
    show Steps p.tables e below (T36.setTop (mkF m 202 #[.val (.int p1), .val (.int p2), .val (.int p3), .val (.int p4), .val (.long q5), .second, .val (.int p6), .val (.int (0 : Int32)), .val (.int (own_t0 q5)), .val (.int (own_t1 q5 (8 : Int32))), .val (.int (own_t1 q5 (16 : Int32))), .val (.int (1 : Int32)), .val (.ref b2), .val (.ref b10), .val (.ref k_EMPTY), .val (.ref b25), .val (.int (1 : Int32))] [(.int (1 : Int32)), (.int (1 : Int32))])) _
    refine XS.icmpNo X36.here hx rfl (hb hby at_202) rfl (teq (rfl : (1 : Int32) = (1 : Int32))).2 ?_
    show Steps p.tables e below (T36.setTop (mkF m 205 #[.val (.int p1), .val (.int p2), .val (.int p3), .val (.int p4), .val (.long q5), .second, .val (.int p6), .val (.int (0 : Int32)), .val (.int (own_t0 q5)), .val (.int (own_t1 q5 (8 : Int32))), .val (.int (own_t1 q5 (16 : Int32))), .val (.int (1 : Int32)), .val (.ref b2), .val (.ref b10), .val (.ref k_EMPTY), .val (.ref b25), .val (.int (1 : Int32))] [])) _
    refine XS.iconst X36.here hx rfl (hb hby at_205) ?_
    show Steps p.tables e below (T36.setTop (mkF m 206 #[.val (.int p1), .val (.int p2), .val (.int p3), .val (.int p4), .val (.long q5), .second, .val (.int p6), .val (.int (0 : Int32)), .val (.int (own_t0 q5)), .val (.int (own_t1 q5 (8 : Int32))), .val (.int (own_t1 q5 (16 : Int32))), .val (.int (1 : Int32)), .val (.ref b2), .val (.ref b10), .val (.ref k_EMPTY), .val (.ref b25), .val (.int (1 : Int32))] [(.int (1 : Int32))])) _
    refine XS.goto X36.here hx rfl (pc0 := 206) (pc' := 210) rfl (hb hby at_206) (by decide) (by decide) ?_
    show Steps p.tables e below (T36.setTop (mkF m 210 #[.val (.int p1), .val (.int p2), .val (.int p3), .val (.int p4), .val (.long q5), .second, .val (.int p6), .val (.int (0 : Int32)), .val (.int (own_t0 q5)), .val (.int (own_t1 q5 (8 : Int32))), .val (.int (own_t1 q5 (16 : Int32))), .val (.int (1 : Int32)), .val (.ref b2), .val (.ref b10), .val (.ref k_EMPTY), .val (.ref b25), .val (.int (1 : Int32))] [(.int (1 : Int32))])) _
    exact retN X36 hx (t := .boolean) Bd.returns (by simp) (hb hby at_210) hr
  · show own_Qlaw h0 n0 _ T36.heap _
    exact ⟨rfl, N36⟩
theorem own_pd16 : parseMethodDescriptor "(Ljava/lang/String;Z)V" = some ⟨[(.object "java/lang/String"), .boolean], none⟩ := by decide +kernel
theorem own_pd17 : parseMethodDescriptor "(Ljava/lang/Object;)Ljava/util/Optional;" = some ⟨[(.object "java/lang/Object")], some (.object "java/util/Optional")⟩ := by decide +kernel
theorem own_eflaw11 (m : MethodId) (p1 : Int32) (p2 : Int32) (p3 : Int32) (p4 : Int32) (q5 : Int64) (p6 : Int32) : entryFrame m #[(.int p1), (.int p2), (.int p3), (.int p4), (.long q5), (.int p6)] maxLocals = mkF m 0 #[.val (.int p1), .val (.int p2), .val (.int p3), .val (.int p4), .val (.long q5), .second, .val (.int p6), .unset, .unset, .unset, .unset, .unset, .unset, .unset, .unset, .unset, .unset] [] := by first | (simp [entryFrame, mkF, argsToLocals, Value.category, maxLocals]; done) | rfl
set_option maxRecDepth 65536 in
set_option maxHeartbeats 40000000 in
theorem own_law11 (l : Launch) (Z : State) (a0 : Array Value) (hw : ∀ d ∈ tables_1, d.before a0 Z = true) (ws : List Jvm.Cond) (G1 : Int32) (k_EMPTY : Addr) (gl : own_Glob Z G1 k_EMPTY) (p1 : Int32) (p2 : Int32) (p3 : Int32) (p4 : Int32) (q5 : Int64) (p6 : Int32) (h0 : Heap) (n0 : Nat) (Z0 : n0 ≤ h0.size) (X00 : Old Z n0 h0) (hk : own_kd p4 = 1) (hn : own_a3 p6 = 0) :
    MetFree l x (head1 (Jvm.Cond.code x code maxLocals ret :: ws) room_1) (fun a U => a = #[(.int p1), (.int p2), (.int p3), (.int p4), (.long q5), (.int p6)] ∧ Z.Warmed39 U.vm ∧ U.heap = h0) (fun _ _ _ _ _ => True) (fun _ U o U' => ∃ v L, o = .returned v ∧ own_Qlaw h0 n0 v U'.heap L ∧ ReturnedEndW U o U' L room_1.cells room_1.slots) := by
  refine MetFree.of_bodySF (plainFor_of_name own_pn15) hisR ?_
  intro p e s m args below meth c s₁ Bd hml0 hP hK
  obtain ⟨rfl, hZ, hh⟩ := hP
  obtain ⟨O_CS, P_CS, O_EMPTY, E_EMPTY, F_EMPTY⟩ := id gl
  have hx := Bd.exec
  have hby := Bd.bytes
  have hml : c.maxLocals = 17 := hml0
  have hown : s.vm.findClass "com/example/leftmost/leftmost/tree/NodeIsLeafPinLaw" = some m.cls := findClass_of_methodNamed Bd.named
  have hnm := (name_of_methodNamed Bd.named Bd.method).1
  have X0 : Stand p l e room_1 s m #[(.int p1), (.int p2), (.int p3), (.int p4), (.long q5), (.int p6)] below meth c s₁ [] 0 0 := Stand.of_body Bd
  have e0 : s₁.heap = h0 := by rw [← hh, Bd.state]; rfl
  have N0 := Fr.nil n0
  have pre0 : ∀ t, Steps p.tables e below (s₁.setTop (mkF m 0 #[.val (.int p1), .val (.int p2), .val (.int p3), .val (.int p4), .val (.long q5), .second, .val (.int p6), .unset, .unset, .unset, .unset, .unset, .unset, .unset, .unset, .unset, .unset] [])) t → Steps p.tables e below (s₁.setTop (entryFrame m #[(.int p1), (.int p2), (.int p3), (.int p4), (.long q5), (.int p6)] maxLocals)) t := fun t k => castTop (own_eflaw11 m p1 p2 p3 p4 q5 p6) k
  obtain ⟨_, _, ⟨T1, L1, k1, n1⟩, -, X1, ⟨Lc1, hQ1, l1, y1, z1⟩, st1⟩ := Jvm.LawKit.callS X0 hx (y := (⟨"java/lang/Math", "min", "(II)I"⟩ : MethodName)) hown (mvT hZ (hw _ (List.mem_of_getElem? (i := 2) rfl))) (mvT hZ (hw _ (List.mem_of_getElem? (i := 3) rfl))) (mvT hZ (hw _ (List.mem_of_getElem? (i := 4) rfl))) (mvT hZ (hw _ (List.mem_of_getElem? (i := 5) rfl))) (by decide) (backOf (W := 1) (own_rm_minR l Z a0 hw [] G1 k_EMPTY gl (2 : Int32) (0 : Int32) h0 n0 Z0 (by decide : (0 : Int32) < (2 : Int32))) hZ (hw _ (List.mem_of_getElem? (i := 5) rfl)) (hw _ (List.mem_of_getElem? (i := 4) rfl)) (by decide) (by decide)) (g := (mkF m 50 #[.val (.int p1), .val (.int p2), .val (.int p3), .val (.int p4), .val (.long q5), .second, .val (.int p6), .val (.int (1 : Int32)), .val (.int (own_t0 q5)), .val (.int (own_t1 q5 (8 : Int32))), .val (.int (own_t1 q5 (16 : Int32))), .unset, .unset, .unset, .unset, .unset, .unset] [(.int (0 : Int32)), (.int (2 : Int32)), (.int (1 : Int32))])) rfl (by rw [hml]; rfl) (argsL := [(.int (2 : Int32)), (.int (0 : Int32))]) (rest := [(.int (1 : Int32))]) (lenOf own_pd11 rfl) rfl (by show 2 * 0 + _ ≤ _; exact Nat.le_of_eq rfl) (hb hby at_50) (fun _ _ => ⟨rfl, e0, (by decide : 0 + 0 ≤ _), (by decide : 0 + 0 ≤ _)⟩)
  dsimp only [Pt.U, Pt.locs, Pt.cells, Pt.slots] at X1 l1 y1 z1 st1 hQ1
  subst y1 z1
  obtain ⟨rfl, Nq1, e1⟩ := hQ1
  have N1 : Fr n0 L1 := by rw [l1]; exact Fr.app N0 Nq1
  obtain ⟨T2, h2, k2, X2, e2, E2, A2, st2⟩ := newP X1 hx hZ (hw _ (List.mem_of_getElem? (i := 6) rfl)) e1 (g := (mkF m 63 #[.val (.int p1), .val (.int p2), .val (.int p3), .val (.int p4), .val (.long q5), .second, .val (.int p6), .val (.int (1 : Int32)), .val (.int (own_t0 q5)), .val (.int (own_t1 q5 (8 : Int32))), .val (.int (own_t1 q5 (16 : Int32))), .val (.int (1 : Int32)), .unset, .unset, .unset, .unset, .unset] [(.int (1 : Int32))])) rfl (hb hby at_63) rfl (by decide) (cap := 1) (by decide) (by decide) (by decide) (by decide)
  obtain ⟨b2, g2⟩ : ∃ z, z = h0.size := ⟨_, rfl⟩
  rw [← g2] at A2 st2
  have Kp3 : Keep h0 h2 [] := (Keep.refl h0 []).ext E2
  have Vh4 : Arv Z h2 b2 k2 .char (1 : Int32) [(.int (0 : Int32))] (.int (0 : Int32)) := (Arv.new A2 (by decide)).pad (pad_rep [] (.int (0 : Int32)) 1)
  obtain ⟨cl5, Ar5, qc5, Sz5, Ng5, Hs5, Gs5⟩ := id Vh4
  have hin5 : ¬ ((0 : Int32) < 0 ∨ cl5.slots.size ≤ ((0 : Int32)).toNatClampNeg) := inb_of Sz5 ⟨(by decide), (by decide)⟩
  obtain ⟨T6, h6, X6, e6, W6, st6⟩ := stC X2 hx hZ e2 Ar5 (j := (0 : Int32)) hin5 (g := (mkF m 69 #[.val (.int p1), .val (.int p2), .val (.int p3), .val (.int p4), .val (.long q5), .second, .val (.int p6), .val (.int (1 : Int32)), .val (.int (own_t0 q5)), .val (.int (own_t1 q5 (8 : Int32))), .val (.int (own_t1 q5 (16 : Int32))), .val (.int (1 : Int32)), .unset, .unset, .unset, .unset, .unset] [(.int (own_t0 q5)), (.int (0 : Int32)), (.ref b2), (.ref b2)])) rfl rfl (hb hby at_69)
  have Kp7 : Keep h0 h6 [] := Kp3.wr W6 (Or.inr (Nat.le_trans (Keep.refl h0 []).1 (Nat.le_of_eq g2.symm)))
  have gh8 : n0 ≤ b2 := Nat.le_trans Z0 (Nat.le_of_eq g2.symm)
  obtain ⟨Lp6, X6, N6⟩ := own_pack X6 (Fr.snoc X6 N1 gh8)
  have Vh9 : Arv Z h6 b2 k2 .char (1 : Int32) [(.int (own_n0 q5))] (.int (0 : Int32)) := (Arv.set Ar5 qc5 Sz5 Ng5 Hs5 Gs5 (fits_nar_char _) W6 0 rfl (Nat.le_of_ble_eq_true rfl))
  obtain ⟨T10, h10, X10, e10, E10, A10, D10, U10, st10⟩ := newO X6 hx hZ hown (hw _ (List.mem_of_getElem? (i := 7) rfl)) (hw _ (List.mem_of_getElem? (i := 8) rfl)) (hw _ (List.mem_of_getElem? (i := 9) rfl)) e6 (g := (mkF m 119 #[.val (.int p1), .val (.int p2), .val (.int p3), .val (.int p4), .val (.long q5), .second, .val (.int p6), .val (.int (1 : Int32)), .val (.int (own_t0 q5)), .val (.int (own_t1 q5 (8 : Int32))), .val (.int (own_t1 q5 (16 : Int32))), .val (.int (1 : Int32)), .val (.ref b2), .unset, .unset, .unset, .unset] [])) rfl (hb hby at_119) (by decide) (by decide)
  obtain ⟨b10, g10⟩ : ∃ z, z = h6.size := ⟨_, rfl⟩
  rw [← g10] at A10 D10 U10 st10
  have Kp11 : Keep h0 h10 [] := Kp7.ext E10
  have Fh12 : Fld Z h10 b10 "java/lang/String" "value" "[B" .null := (D10 (Or.inr (hw _ (List.mem_of_getElem? (i := 35) rfl))) (ty := (.array .byte)) (by decide))
  have Fh13 : Fld Z h10 b10 "java/lang/String" "coder" "B" (.int (0 : Int32)) := (D10 (Or.inr (hw _ (List.mem_of_getElem? (i := 33) rfl))) (ty := .byte) (by decide))
  have Vh14 : Arv Z h10 b2 k2 .char (1 : Int32) [(.int (own_n0 q5))] (.int (0 : Int32)) := (Vh9.ext E10)
  have hph15 : ∀ c ∈ ([(own_n0 q5)] : List Int32), ¬ c < 0 ∧ ¬ (255 : Int32) < c := (own_cS (own_rng_n0 q5) own_c0)
  have hws_words : ∀ d ∈ StrChars.Road.words, d.before a0 Z = true := fun d hd => hw d (own_hws_words d hd)
  have Zh16 : n0 ≤ h10.size := (Nat.le_trans Z0 Kp11.1)
  have gh17 : n0 ≤ b10 := Nat.le_trans (Nat.le_trans Z0 Kp7.1) (Nat.le_of_eq g10.symm)
  have Old18 : Old Z n0 h2 := X00.ext E2
  have Old19 : Old Z n0 h6 := Old18.wr W6 gh8
  have Old20 : Old Z n0 h10 := Old19.ext E10
  obtain ⟨_, _, ⟨T21, L21, k21, n21⟩, -, X21, ⟨Lc21, hQ21, l21, y21, z21⟩, st21⟩ := X10.specialBack hx (y := (⟨"java/lang/String", "<init>", "([C)V"⟩ : MethodName)) rfl hown (mvT hZ (hw _ (List.mem_of_getElem? (i := 10) rfl))) (mvT hZ (hw _ (List.mem_of_getElem? (i := 11) rfl))) (mvT hZ (hw _ (List.mem_of_getElem? (i := 12) rfl))) (by decide) (StrChars.Road.backV (W := 1) hZ hws_words (kI := 4) (hw _ (List.mem_of_getElem? (i := 8) rfl)) (cs := ([(own_n0 q5)] : List Int32)) (bs := ([(own_n0 q5)] : List Int32).map (fun c => c.toInt8.toInt32)) (n := 1) gh17 Zh16 A10 Fh12 Fh13 Vh14 (O_CS.ext Old20.2) P_CS rfl rfl (by decide) (by decide) hph15 rfl (by decide) (by decide)) (g := (mkF m 125 #[.val (.int p1), .val (.int p2), .val (.int p3), .val (.int p4), .val (.long q5), .second, .val (.int p6), .val (.int (1 : Int32)), .val (.int (own_t0 q5)), .val (.int (own_t1 q5 (8 : Int32))), .val (.int (own_t1 q5 (16 : Int32))), .val (.int (1 : Int32)), .val (.ref b2), .unset, .unset, .unset, .unset] [(.ref b2), (.ref b10), (.ref b10)])) rfl (by rw [hml]; rfl) (Steps.refl _) (a := b10) (argsL := [(.ref b2)]) (rest := [(.ref b10)]) (lenOf own_pd12 rfl) rfl (by show 2 * 0 + _ ≤ _; exact Nat.le_of_eq rfl) (hb hby at_125) (fun _ _ => ⟨rfl, e10, (by decide : 2 + 1 ≤ _), (by decide : 5 + 1 ≤ _)⟩)
  dsimp only [Pt.U, Pt.locs, Pt.cells, Pt.slots] at X21 l21 y21 z21 st21 hQ21
  subst y21 z21
  obtain ⟨rfl, Nq21, Kq21, Eq21, Cq21, t21, kb21, gt21, szt21, nt21, Vq21, Bq21⟩ := hQ21
  have N21 : Fr n0 L21 := by rw [l21]; exact Fr.app N6 Nq21
  have Kp22 : Keep h0 T21.heap [] := Kp11.trans Kq21 (allS (Or.inr (Nat.le_trans Kp7.1 (Nat.le_of_eq g10.symm))) all0)
  obtain ⟨T23, h23, X23, e23, E23, A23, D23, U23, st23⟩ := newO X21 hx hZ hown (hw _ (List.mem_of_getElem? (i := 36) rfl)) (hw _ (List.mem_of_getElem? (i := 37) rfl)) (hw _ (List.mem_of_getElem? (i := 38) rfl)) rfl (g := (mkF m 143 #[.val (.int p1), .val (.int p2), .val (.int p3), .val (.int p4), .val (.long q5), .second, .val (.int p6), .val (.int (1 : Int32)), .val (.int (own_t0 q5)), .val (.int (own_t1 q5 (8 : Int32))), .val (.int (own_t1 q5 (16 : Int32))), .val (.int (1 : Int32)), .val (.ref b2), .val (.ref b10), .unset, .unset, .unset] [])) rfl (hb hby at_143) (by decide) (by decide)
  obtain ⟨b23, g23⟩ : ∃ z, z = T21.heap.size := ⟨_, rfl⟩
  rw [← g23] at A23 D23 U23 st23
  have Kp24 : Keep h0 h23 [] := Kp22.ext E23
  have Eh25 : Exa Z h23 b10 "java/lang/String" := (Eq21.ext E23)
  have Fh26 : Fld Z h23 b10 "java/lang/String" "value" "[B" (.ref t21) := (Vq21.ext E23)
  have Fh27 : Fld Z h23 b10 "java/lang/String" "coder" "B" (.int (0 : Int32)) := (Cq21.ext E23)
  have Vh28 : Arv Z h23 t21 kb21 .byte (1 : Int32) ((([(own_n0 q5)] : List Int32).map (fun c => c.toInt8.toInt32)).map Value.int) (.int (0 : Int32)) := (Bq21.ext E23)
  have Fh29 : Fld Z h23 b23 "com/example/leftmost/leftmost/grammar/Symbol" "name" "Ljava/lang/String;" .null := (D23 (Or.inr (hw _ (List.mem_of_getElem? (i := 61) rfl))) (ty := (.object "java/lang/String")) (by decide))
  have gh30 : n0 ≤ b23 := Nat.le_trans (Nat.le_trans Z0 Kp22.1) (Nat.le_of_eq g23.symm)
  have Fh31 : Fld Z h23 b23 "com/example/leftmost/leftmost/grammar/Symbol" "isVariable" "Z" (.int (0 : Int32)) := (D23 (Or.inr (hw _ (List.mem_of_getElem? (i := 63) rfl))) (ty := .boolean) (by decide))
  have Old32 : Old Z n0 T21.heap := Old20.keep Kq21 (allS gh17 all0)
  have Old33 : Old Z n0 h23 := Old32.ext E23
  obtain ⟨_, _, ⟨T34, L34, k34, n34⟩, -, X34, hSq34, hgr34, ⟨Lc34, hQ34, l34, y34, z34⟩, st34⟩ := X23.specialBackS hx (y := (⟨"com/example/leftmost/leftmost/grammar/Symbol", "<init>", "(Ljava/lang/String;Z)V"⟩ : MethodName)) rfl hown (mvT hZ (hw _ (List.mem_of_getElem? (i := 39) rfl))) (mvT hZ (hw _ (List.mem_of_getElem? (i := 40) rfl))) (mvT hZ (hw _ (List.mem_of_getElem? (i := 41) rfl))) (by decide) (backOfS (W := 1) (own_rm_sym1 l Z a0 hw [] G1 k_EMPTY gl b23 b10 (1 : Int32) (own_n0 q5) t21 (kb21) (.null) ((.int (0 : Int32))) h23 n0 (Nat.le_trans Z0 Kp24.1) Old33 Eh25 Fh26 Fh27 Vh28 hph15 A23 Fh29 gh30 Fh31) hZ (hw _ (List.mem_of_getElem? (i := 41) rfl)) (hw _ (List.mem_of_getElem? (i := 38) rfl)) (by decide) (by decide)) (g := (mkF m 160 #[.val (.int p1), .val (.int p2), .val (.int p3), .val (.int p4), .val (.long q5), .second, .val (.int p6), .val (.int (1 : Int32)), .val (.int (own_t0 q5)), .val (.int (own_t1 q5 (8 : Int32))), .val (.int (own_t1 q5 (16 : Int32))), .val (.int (1 : Int32)), .val (.ref b2), .val (.ref b10), .unset, .unset, .unset] [(.int (1 : Int32)), (.ref b10), (.ref b23), (.ref b23)])) rfl (by rw [hml]; rfl) (Steps.refl _) (a := b23) (argsL := [(.ref b10), (.int (1 : Int32))]) (rest := [(.ref b23)]) (lenOf own_pd16 rfl) rfl (by show 2 * 0 + _ ≤ _; exact Nat.le_of_eq rfl) (hb hby at_160) (fun _ _ => ⟨rfl, e23, (by decide : 4 + 2 ≤ _), (by decide : 8 + 20 ≤ _)⟩)
  dsimp only [Pt.U, Pt.locs, Pt.cells, Pt.slots] at X34 l34 y34 z34 st34 hQ34 hSq34 hgr34
  subst y34 z34
  obtain ⟨Xw34, hS34, hZ34, hown34⟩ := rebS (vm0 := s.vm) ((State.WarmedH.refl s).since 0) (by rw [e23]; exact (Nat.zero_le _)) X34 hSq34 hgr34 hZ hown
  obtain ⟨rfl, Nq34, Kq34, f34_0, f34_1, f34_2⟩ := hQ34
  have N34 : Fr n0 L34 := by rw [l34]; exact Fr.app N21 Nq34
  have Kp35 : Keep h0 T34.heap [] := Kp24.trans Kq34 (allS (Or.inr (Nat.le_trans Kp22.1 (Nat.le_of_eq g23.symm))) all0)
  obtain ⟨_, _, ⟨T36, L36, k36, n36⟩, -, X36, ⟨Lc36, hQ36, l36, y36, z36⟩, st36⟩ := Jvm.LawKit.callS Xw34 hx (y := (⟨"java/util/Optional", "of", "(Ljava/lang/Object;)Ljava/util/Optional;"⟩ : MethodName)) hown34 (mvT hZ34 (hw _ (List.mem_of_getElem? (i := 64) rfl))) (mvT hZ34 (hw _ (List.mem_of_getElem? (i := 65) rfl))) (mvT hZ34 (hw _ (List.mem_of_getElem? (i := 66) rfl))) (mvT hZ34 (hw _ (List.mem_of_getElem? (i := 67) rfl))) (by decide) (backOf (W := 0) (own_rm_of l Z a0 hw [] G1 k_EMPTY gl b23 T34.heap n0 (Nat.le_trans Z0 Kp35.1) ) hZ34 (hw _ (List.mem_of_getElem? (i := 67) rfl)) (hw _ (List.mem_of_getElem? (i := 66) rfl)) (by decide) (by decide)) (g := (mkF m 163 #[.val (.int p1), .val (.int p2), .val (.int p3), .val (.int p4), .val (.long q5), .second, .val (.int p6), .val (.int (1 : Int32)), .val (.int (own_t0 q5)), .val (.int (own_t1 q5 (8 : Int32))), .val (.int (own_t1 q5 (16 : Int32))), .val (.int (1 : Int32)), .val (.ref b2), .val (.ref b10), .unset, .unset, .unset] [(.ref b23)])) rfl (by rw [hml]; rfl) (argsL := [(.ref b23)]) (rest := []) (lenOf own_pd17 rfl) rfl (by show 2 * 0 + _ ≤ _; exact Nat.le_of_eq rfl) (hb hby at_163) (fun _ _ => ⟨rfl, rfl, (by decide : 6 + 1 ≤ _), (by decide : 28 + 1 ≤ _)⟩)
  dsimp only [Pt.U, Pt.locs, Pt.cells, Pt.slots] at X36 l36 y36 z36 st36 hQ36
  subst y36 z36
  obtain ⟨b1_36, rfl, Nq36, Kq36, f36_0, f36_1, f36_2⟩ := hQ36
  have N36 : Fr n0 L36 := by rw [l36]; exact Fr.app N34 Nq36
  have Kp37 : Keep h0 T36.heap [] := Kp35.trans Kq36 all0
  obtain ⟨T38, h38, X38, e38, E38, A38, D38, U38, st38⟩ := newO X36 hx hZ34 hown34 (hw _ (List.mem_of_getElem? (i := 80) rfl)) (hw _ (List.mem_of_getElem? (i := 81) rfl)) (hw _ (List.mem_of_getElem? (i := 82) rfl)) rfl (g := (mkF m 168 #[.val (.int p1), .val (.int p2), .val (.int p3), .val (.int p4), .val (.long q5), .second, .val (.int p6), .val (.int (1 : Int32)), .val (.int (own_t0 q5)), .val (.int (own_t1 q5 (8 : Int32))), .val (.int (own_t1 q5 (16 : Int32))), .val (.int (1 : Int32)), .val (.ref b2), .val (.ref b10), .val (.ref b1_36), .unset, .unset] [])) rfl (hb hby at_168) (by decide) (by decide)
  obtain ⟨b38, g38⟩ : ∃ z, z = T36.heap.size := ⟨_, rfl⟩
  rw [← g38] at A38 D38 U38 st38
  have Kp39 : Keep h0 h38 [] := Kp37.ext E38
  have Fh40 : Fld Z h38 b38 "com/example/leftmost/leftmost/tree/ParseTree$Node" "index" "I" (.int (0 : Int32)) := (D38 (Or.inr (hw _ (List.mem_of_getElem? (i := 88) rfl))) (ty := .int) (by decide))
  have gh41 : n0 ≤ b38 := Nat.le_trans (Nat.le_trans Z0 Kp37.1) (Nat.le_of_eq g38.symm)
  have Fh42 : Fld Z h38 b38 "com/example/leftmost/leftmost/tree/ParseTree$Node" "parent" "I" (.int (0 : Int32)) := (D38 (Or.inr (hw _ (List.mem_of_getElem? (i := 90) rfl))) (ty := .int) (by decide))
  have Fh43 : Fld Z h38 b38 "com/example/leftmost/leftmost/tree/ParseTree$Node" "depth" "I" (.int (0 : Int32)) := (D38 (Or.inr (hw _ (List.mem_of_getElem? (i := 92) rfl))) (ty := .int) (by decide))
  have Fh44 : Fld Z h38 b38 "com/example/leftmost/leftmost/tree/ParseTree$Node" "symbol" "Ljava/util/Optional;" .null := (D38 (Or.inr (hw _ (List.mem_of_getElem? (i := 94) rfl))) (ty := (.object "java/util/Optional")) (by decide))
  obtain ⟨_, _, ⟨T45, L45, k45, n45⟩, -, X45, ⟨Lc45, hQ45, l45, y45, z45⟩, st45⟩ := X38.specialBack hx (y := (⟨"com/example/leftmost/leftmost/tree/ParseTree$Node", "<init>", "(IIILjava/util/Optional;)V"⟩ : MethodName)) rfl hown34 (mvT hZ34 (hw _ (List.mem_of_getElem? (i := 83) rfl))) (mvT hZ34 (hw _ (List.mem_of_getElem? (i := 84) rfl))) (mvT hZ34 (hw _ (List.mem_of_getElem? (i := 85) rfl))) (by decide) (backOf (W := 1) (own_rm_node l Z a0 hw [] G1 k_EMPTY gl b38 p1 p2 p3 b1_36 ((.int (0 : Int32))) ((.int (0 : Int32))) ((.int (0 : Int32))) (.null) h38 n0 (Nat.le_trans Z0 Kp39.1) A38 Fh40 gh41 Fh42 Fh43 Fh44) hZ34 (hw _ (List.mem_of_getElem? (i := 85) rfl)) (hw _ (List.mem_of_getElem? (i := 82) rfl)) (by decide) (by decide)) (g := (mkF m 177 #[.val (.int p1), .val (.int p2), .val (.int p3), .val (.int p4), .val (.long q5), .second, .val (.int p6), .val (.int (1 : Int32)), .val (.int (own_t0 q5)), .val (.int (own_t1 q5 (8 : Int32))), .val (.int (own_t1 q5 (16 : Int32))), .val (.int (1 : Int32)), .val (.ref b2), .val (.ref b10), .val (.ref b1_36), .unset, .unset] [(.ref b1_36), (.int p3), (.int p2), (.int p1), (.ref b38), (.ref b38)])) rfl (by rw [hml]; rfl) (Steps.refl _) (a := b38) (argsL := [(.int p1), (.int p2), (.int p3), (.ref b1_36)]) (rest := [(.ref b38)]) (lenOf own_pd14 rfl) rfl (by show 2 * 0 + _ ≤ _; exact Nat.le_of_eq rfl) (hb hby at_177) (fun _ _ => ⟨rfl, e38, (by decide : 8 + 0 ≤ _), (by decide : 33 + 0 ≤ _)⟩)
  dsimp only [Pt.U, Pt.locs, Pt.cells, Pt.slots] at X45 l45 y45 z45 st45 hQ45
  subst y45 z45
  obtain ⟨rfl, Nq45, Kq45, f45_0, f45_1, f45_2, f45_3, f45_4⟩ := hQ45
  have N45 : Fr n0 L45 := by rw [l45]; exact Fr.app N36 Nq45
  have Kp46 : Keep h0 T45.heap [] := Kp39.trans Kq45 (allS (Or.inr (Nat.le_trans Kp37.1 (Nat.le_of_eq g38.symm))) all0)
  have Eh47 : Exa Z T45.heap b1_36 "java/util/Optional" := ((f36_1.ext E38).keep Kq45)
  have Fh48 : Fld Z T45.heap b1_36 "java/util/Optional" "value" "Ljava/lang/Object;" (.ref b23) := ((f36_2.ext E38).keep Kq45 (ninS (Nat.ne_of_lt (Nat.lt_of_lt_of_le f36_1.lt (Nat.le_of_eq g38.symm))) nin0))
  have Eh49 : Exa Z T45.heap b23 "com/example/leftmost/leftmost/grammar/Symbol" := (((f34_0.keep Kq36).ext E38).keep Kq45)
  have Fh50 : Fld Z T45.heap b23 "com/example/leftmost/leftmost/grammar/Symbol" "isVariable" "Z" (.int (1 : Int32)) := (((f34_2.keep Kq36 nin0).ext E38).keep Kq45 (ninS (Nat.ne_of_lt (Nat.lt_of_lt_of_le (f34_0.keep Kq36).lt (Nat.le_of_eq g38.symm))) nin0))
  obtain ⟨cq51, kq51, q51a, q51b, q51c⟩ := isOf hZ34 rfl f45_0
  obtain ⟨_, _, ⟨T51, L51, k51, n51⟩, -, X51, ⟨Lc51, hQ51, l51, y51, z51⟩, st51⟩ := X45.virtualBack hx (y := (⟨"com/example/leftmost/leftmost/tree/ParseTree$Node", "isLeaf", "()Z"⟩ : MethodName)) (z := (⟨"com/example/leftmost/leftmost/tree/ParseTree$Node", "isLeaf", "()Z"⟩ : MethodName)) hown34 (mvT hZ34 (hw _ (List.mem_of_getElem? (i := 95) rfl))) (mvT hZ34 (hw _ (List.mem_of_getElem? (i := 96) rfl))) (notFace_of_selects (args := #[]) (mvT hZ34 (hw _ (List.mem_of_getElem? (i := 98) rfl)))) (mvT hZ34 (hw _ (List.mem_of_getElem? (i := 98) rfl))) (mvT hZ34 (hw _ (List.mem_of_getElem? (i := 97) rfl))) (by decide) (backOf (W := 0) (own_rm_leaf1 l Z a0 hw [] G1 k_EMPTY gl b38 b1_36 b23 T45.heap n0 (Nat.le_trans Z0 Kp46.1) f45_4 Eh47 Fh48 Eh49 Fh50) hZ34 (hw _ (List.mem_of_getElem? (i := 99) rfl)) (hw _ (List.mem_of_getElem? (i := 82) rfl)) (by decide) (by decide)) q51a q51c (g := (mkF m 197 #[.val (.int p1), .val (.int p2), .val (.int p3), .val (.int p4), .val (.long q5), .second, .val (.int p6), .val (.int (1 : Int32)), .val (.int (own_t0 q5)), .val (.int (own_t1 q5 (8 : Int32))), .val (.int (own_t1 q5 (16 : Int32))), .val (.int (1 : Int32)), .val (.ref b2), .val (.ref b10), .val (.ref b1_36), .val (.ref b38), .val (.int (0 : Int32))] [(.ref b38)])) rfl (by rw [hml]; rfl) (Steps.refl _) (argsL := []) (rest := []) (lenOf own_pd7 rfl) rfl (by show 2 * 0 + _ ≤ _; exact Nat.le_of_eq rfl) (hb hby at_197) (fun _ _ => ⟨rfl, rfl, (by decide : 8 + 0 ≤ _), (by decide : 33 + 0 ≤ _)⟩)
  dsimp only [Pt.U, Pt.locs, Pt.cells, Pt.slots] at X51 l51 y51 z51 st51 hQ51
  subst y51 z51
  obtain ⟨rfl, Nq51, e51⟩ := hQ51
  have N51 : Fr n0 L51 := by rw [l51]; exact Fr.app N45 Nq51
  obtain ⟨fs, hr, hrun, hended, hREW⟩ := X51.leaveW hS34 (by rw [e51]; exact (Nat.le_trans (Nat.le_refl _) (Nat.le_trans (Nat.le_trans Kq36.1 E38.1) Kq45.1))) (v := some (.int (1 : Int32))) (fun h => by rw [Bd.returns] at h; cases h)
  refine ⟨_, _, pre0 _ ?_, hrun, hended, _, _, rfl, ?_, hREW.1, hREW.2.1, hREW.2.2.1, hREW.2.2.2.mono (by decide) (by decide)⟩
  · show Steps p.tables e below (s₁.setTop (mkF m 0 #[.val (.int p1), .val (.int p2), .val (.int p3), .val (.int p4), .val (.long q5), .second, .val (.int p6), .unset, .unset, .unset, .unset, .unset, .unset, .unset, .unset, .unset, .unset] [])) _
    refine XS.iloadN X0.here hx rfl (hb hby at_0) rfl ?_
    show Steps p.tables e below (s₁.setTop (mkF m 1 #[.val (.int p1), .val (.int p2), .val (.int p3), .val (.int p4), .val (.long q5), .second, .val (.int p6), .unset, .unset, .unset, .unset, .unset, .unset, .unset, .unset, .unset, .unset] [(.int p4)])) _
    refine X0.ldcInt hx hown (mvT hZ (hw _ (List.mem_of_getElem? (i := 0) rfl))) (g := (mkF m 1 #[.val (.int p1), .val (.int p2), .val (.int p3), .val (.int p4), .val (.long q5), .second, .val (.int p6), .unset, .unset, .unset, .unset, .unset, .unset, .unset, .unset, .unset, .unset] [(.int p4)])) rfl (hb hby at_1) _ ?_
    show Steps p.tables e below (s₁.setTop (mkF m 3 #[.val (.int p1), .val (.int p2), .val (.int p3), .val (.int p4), .val (.long q5), .second, .val (.int p6), .unset, .unset, .unset, .unset, .unset, .unset, .unset, .unset, .unset, .unset] [(.int (2147483647 : Int32)), (.int p4)])) _
    refine XS.iand X0.here hx rfl (hb hby at_3) rfl ?_
    show Steps p.tables e below (s₁.setTop (mkF m 4 #[.val (.int p1), .val (.int p2), .val (.int p3), .val (.int p4), .val (.long q5), .second, .val (.int p6), .unset, .unset, .unset, .unset, .unset, .unset, .unset, .unset, .unset, .unset] [(.int (p4 &&& (2147483647 : Int32)))])) _
    refine XS.iconst X0.here hx rfl (hb hby at_4) ?_
    show Steps p.tables e below (s₁.setTop (mkF m 5 #[.val (.int p1), .val (.int p2), .val (.int p3), .val (.int p4), .val (.long q5), .second, .val (.int p6), .unset, .unset, .unset, .unset, .unset, .unset, .unset, .unset, .unset, .unset] [(.int (3 : Int32)), (.int (p4 &&& (2147483647 : Int32)))])) _
    refine iremM X0 hx rfl (hb hby at_5) rfl (by decide) ?_
    show Steps p.tables e below (s₁.setTop (mkF m 6 #[.val (.int p1), .val (.int p2), .val (.int p3), .val (.int p4), .val (.long q5), .second, .val (.int p6), .unset, .unset, .unset, .unset, .unset, .unset, .unset, .unset, .unset, .unset] [(.int (own_kd p4))])) _
    rw [hk]
    show Steps p.tables e below (s₁.setTop (mkF m 6 #[.val (.int p1), .val (.int p2), .val (.int p3), .val (.int p4), .val (.long q5), .second, .val (.int p6), .unset, .unset, .unset, .unset, .unset, .unset, .unset, .unset, .unset, .unset] [(.int (1 : Int32))])) _
    refine XS.istore X0.here hx rfl (hb hby at_6) rfl (l' := #[.val (.int p1), .val (.int p2), .val (.int p3), .val (.int p4), .val (.long q5), .second, .val (.int p6), .val (.int (1 : Int32)), .unset, .unset, .unset, .unset, .unset, .unset, .unset, .unset, .unset]) rfl ?_
    show Steps p.tables e below (s₁.setTop (mkF m 8 #[.val (.int p1), .val (.int p2), .val (.int p3), .val (.int p4), .val (.long q5), .second, .val (.int p6), .val (.int (1 : Int32)), .unset, .unset, .unset, .unset, .unset, .unset, .unset, .unset, .unset] [])) _
    refine XS.lload X0.here hx rfl (hb hby at_8) rfl ?_
    show Steps p.tables e below (s₁.setTop (mkF m 10 #[.val (.int p1), .val (.int p2), .val (.int p3), .val (.int p4), .val (.long q5), .second, .val (.int p6), .val (.int (1 : Int32)), .unset, .unset, .unset, .unset, .unset, .unset, .unset, .unset, .unset] [(.long q5)])) _
    refine X0.ldc2Long hx hown (mvT hZ (hw _ (List.mem_of_getElem? (i := 1) rfl))) (g := (mkF m 10 #[.val (.int p1), .val (.int p2), .val (.int p3), .val (.int p4), .val (.long q5), .second, .val (.int p6), .val (.int (1 : Int32)), .unset, .unset, .unset, .unset, .unset, .unset, .unset, .unset, .unset] [(.long q5)])) rfl (hb hby at_10) _ ?_
    show Steps p.tables e below (s₁.setTop (mkF m 13 #[.val (.int p1), .val (.int p2), .val (.int p3), .val (.int p4), .val (.long q5), .second, .val (.int p6), .val (.int (1 : Int32)), .unset, .unset, .unset, .unset, .unset, .unset, .unset, .unset, .unset] [(.long (255 : Int64)), (.long q5)])) _
    refine XS.land X0.here hx rfl (hb hby at_13) rfl ?_
    show Steps p.tables e below (s₁.setTop (mkF m 14 #[.val (.int p1), .val (.int p2), .val (.int p3), .val (.int p4), .val (.long q5), .second, .val (.int p6), .val (.int (1 : Int32)), .unset, .unset, .unset, .unset, .unset, .unset, .unset, .unset, .unset] [(.long (q5 &&& (255 : Int64)))])) _
    refine XS.l2i X0.here hx rfl (hb hby at_14) rfl ?_
    show Steps p.tables e below (s₁.setTop (mkF m 15 #[.val (.int p1), .val (.int p2), .val (.int p3), .val (.int p4), .val (.long q5), .second, .val (.int p6), .val (.int (1 : Int32)), .unset, .unset, .unset, .unset, .unset, .unset, .unset, .unset, .unset] [(.int ((q5 &&& (255 : Int64)).toInt32))])) _
    refine XS.i2c X0.here hx rfl (hb hby at_15) rfl ?_
    show Steps p.tables e below (s₁.setTop (mkF m 16 #[.val (.int p1), .val (.int p2), .val (.int p3), .val (.int p4), .val (.long q5), .second, .val (.int p6), .val (.int (1 : Int32)), .unset, .unset, .unset, .unset, .unset, .unset, .unset, .unset, .unset] [(.int (own_t0 q5))])) _
    refine XS.istore X0.here hx rfl (hb hby at_16) rfl (l' := #[.val (.int p1), .val (.int p2), .val (.int p3), .val (.int p4), .val (.long q5), .second, .val (.int p6), .val (.int (1 : Int32)), .val (.int (own_t0 q5)), .unset, .unset, .unset, .unset, .unset, .unset, .unset, .unset]) rfl ?_
    show Steps p.tables e below (s₁.setTop (mkF m 18 #[.val (.int p1), .val (.int p2), .val (.int p3), .val (.int p4), .val (.long q5), .second, .val (.int p6), .val (.int (1 : Int32)), .val (.int (own_t0 q5)), .unset, .unset, .unset, .unset, .unset, .unset, .unset, .unset] [])) _
    refine XS.lload X0.here hx rfl (hb hby at_18) rfl ?_
    show Steps p.tables e below (s₁.setTop (mkF m 20 #[.val (.int p1), .val (.int p2), .val (.int p3), .val (.int p4), .val (.long q5), .second, .val (.int p6), .val (.int (1 : Int32)), .val (.int (own_t0 q5)), .unset, .unset, .unset, .unset, .unset, .unset, .unset, .unset] [(.long q5)])) _
    refine XS.bipush X0.here hx rfl (hb hby at_20) ?_
    show Steps p.tables e below (s₁.setTop (mkF m 22 #[.val (.int p1), .val (.int p2), .val (.int p3), .val (.int p4), .val (.long q5), .second, .val (.int p6), .val (.int (1 : Int32)), .val (.int (own_t0 q5)), .unset, .unset, .unset, .unset, .unset, .unset, .unset, .unset] [(.int (8 : Int32)), (.long q5)])) _
    refine XS.lushr X0.here hx rfl (hb hby at_22) rfl ?_
    show Steps p.tables e below (s₁.setTop (mkF m 23 #[.val (.int p1), .val (.int p2), .val (.int p3), .val (.int p4), .val (.long q5), .second, .val (.int p6), .val (.int (1 : Int32)), .val (.int (own_t0 q5)), .unset, .unset, .unset, .unset, .unset, .unset, .unset, .unset] [(.long ((q5.toUInt64 >>> ((8 : Int32) &&& 0x3f).toInt64.toUInt64).toInt64))])) _
    refine X0.ldc2Long hx hown (mvT hZ (hw _ (List.mem_of_getElem? (i := 1) rfl))) (g := (mkF m 23 #[.val (.int p1), .val (.int p2), .val (.int p3), .val (.int p4), .val (.long q5), .second, .val (.int p6), .val (.int (1 : Int32)), .val (.int (own_t0 q5)), .unset, .unset, .unset, .unset, .unset, .unset, .unset, .unset] [(.long ((q5.toUInt64 >>> ((8 : Int32) &&& 0x3f).toInt64.toUInt64).toInt64))])) rfl (hb hby at_23) _ ?_
    show Steps p.tables e below (s₁.setTop (mkF m 26 #[.val (.int p1), .val (.int p2), .val (.int p3), .val (.int p4), .val (.long q5), .second, .val (.int p6), .val (.int (1 : Int32)), .val (.int (own_t0 q5)), .unset, .unset, .unset, .unset, .unset, .unset, .unset, .unset] [(.long (255 : Int64)), (.long ((q5.toUInt64 >>> ((8 : Int32) &&& 0x3f).toInt64.toUInt64).toInt64))])) _
    refine XS.land X0.here hx rfl (hb hby at_26) rfl ?_
    show Steps p.tables e below (s₁.setTop (mkF m 27 #[.val (.int p1), .val (.int p2), .val (.int p3), .val (.int p4), .val (.long q5), .second, .val (.int p6), .val (.int (1 : Int32)), .val (.int (own_t0 q5)), .unset, .unset, .unset, .unset, .unset, .unset, .unset, .unset] [(.long (((q5.toUInt64 >>> ((8 : Int32) &&& 0x3f).toInt64.toUInt64).toInt64) &&& (255 : Int64)))])) _
    refine XS.l2i X0.here hx rfl (hb hby at_27) rfl ?_
    show Steps p.tables e below (s₁.setTop (mkF m 28 #[.val (.int p1), .val (.int p2), .val (.int p3), .val (.int p4), .val (.long q5), .second, .val (.int p6), .val (.int (1 : Int32)), .val (.int (own_t0 q5)), .unset, .unset, .unset, .unset, .unset, .unset, .unset, .unset] [(.int ((((q5.toUInt64 >>> ((8 : Int32) &&& 0x3f).toInt64.toUInt64).toInt64) &&& (255 : Int64)).toInt32))])) _
    refine XS.i2c X0.here hx rfl (hb hby at_28) rfl ?_
    show Steps p.tables e below (s₁.setTop (mkF m 29 #[.val (.int p1), .val (.int p2), .val (.int p3), .val (.int p4), .val (.long q5), .second, .val (.int p6), .val (.int (1 : Int32)), .val (.int (own_t0 q5)), .unset, .unset, .unset, .unset, .unset, .unset, .unset, .unset] [(.int (own_t1 q5 (8 : Int32)))])) _
    refine XS.istore X0.here hx rfl (hb hby at_29) rfl (l' := #[.val (.int p1), .val (.int p2), .val (.int p3), .val (.int p4), .val (.long q5), .second, .val (.int p6), .val (.int (1 : Int32)), .val (.int (own_t0 q5)), .val (.int (own_t1 q5 (8 : Int32))), .unset, .unset, .unset, .unset, .unset, .unset, .unset]) rfl ?_
    show Steps p.tables e below (s₁.setTop (mkF m 31 #[.val (.int p1), .val (.int p2), .val (.int p3), .val (.int p4), .val (.long q5), .second, .val (.int p6), .val (.int (1 : Int32)), .val (.int (own_t0 q5)), .val (.int (own_t1 q5 (8 : Int32))), .unset, .unset, .unset, .unset, .unset, .unset, .unset] [])) _
    refine XS.lload X0.here hx rfl (hb hby at_31) rfl ?_
    show Steps p.tables e below (s₁.setTop (mkF m 33 #[.val (.int p1), .val (.int p2), .val (.int p3), .val (.int p4), .val (.long q5), .second, .val (.int p6), .val (.int (1 : Int32)), .val (.int (own_t0 q5)), .val (.int (own_t1 q5 (8 : Int32))), .unset, .unset, .unset, .unset, .unset, .unset, .unset] [(.long q5)])) _
    refine XS.bipush X0.here hx rfl (hb hby at_33) ?_
    show Steps p.tables e below (s₁.setTop (mkF m 35 #[.val (.int p1), .val (.int p2), .val (.int p3), .val (.int p4), .val (.long q5), .second, .val (.int p6), .val (.int (1 : Int32)), .val (.int (own_t0 q5)), .val (.int (own_t1 q5 (8 : Int32))), .unset, .unset, .unset, .unset, .unset, .unset, .unset] [(.int (16 : Int32)), (.long q5)])) _
    refine XS.lushr X0.here hx rfl (hb hby at_35) rfl ?_
    show Steps p.tables e below (s₁.setTop (mkF m 36 #[.val (.int p1), .val (.int p2), .val (.int p3), .val (.int p4), .val (.long q5), .second, .val (.int p6), .val (.int (1 : Int32)), .val (.int (own_t0 q5)), .val (.int (own_t1 q5 (8 : Int32))), .unset, .unset, .unset, .unset, .unset, .unset, .unset] [(.long ((q5.toUInt64 >>> ((16 : Int32) &&& 0x3f).toInt64.toUInt64).toInt64))])) _
    refine X0.ldc2Long hx hown (mvT hZ (hw _ (List.mem_of_getElem? (i := 1) rfl))) (g := (mkF m 36 #[.val (.int p1), .val (.int p2), .val (.int p3), .val (.int p4), .val (.long q5), .second, .val (.int p6), .val (.int (1 : Int32)), .val (.int (own_t0 q5)), .val (.int (own_t1 q5 (8 : Int32))), .unset, .unset, .unset, .unset, .unset, .unset, .unset] [(.long ((q5.toUInt64 >>> ((16 : Int32) &&& 0x3f).toInt64.toUInt64).toInt64))])) rfl (hb hby at_36) _ ?_
    show Steps p.tables e below (s₁.setTop (mkF m 39 #[.val (.int p1), .val (.int p2), .val (.int p3), .val (.int p4), .val (.long q5), .second, .val (.int p6), .val (.int (1 : Int32)), .val (.int (own_t0 q5)), .val (.int (own_t1 q5 (8 : Int32))), .unset, .unset, .unset, .unset, .unset, .unset, .unset] [(.long (255 : Int64)), (.long ((q5.toUInt64 >>> ((16 : Int32) &&& 0x3f).toInt64.toUInt64).toInt64))])) _
    refine XS.land X0.here hx rfl (hb hby at_39) rfl ?_
    show Steps p.tables e below (s₁.setTop (mkF m 40 #[.val (.int p1), .val (.int p2), .val (.int p3), .val (.int p4), .val (.long q5), .second, .val (.int p6), .val (.int (1 : Int32)), .val (.int (own_t0 q5)), .val (.int (own_t1 q5 (8 : Int32))), .unset, .unset, .unset, .unset, .unset, .unset, .unset] [(.long (((q5.toUInt64 >>> ((16 : Int32) &&& 0x3f).toInt64.toUInt64).toInt64) &&& (255 : Int64)))])) _
    refine XS.l2i X0.here hx rfl (hb hby at_40) rfl ?_
    show Steps p.tables e below (s₁.setTop (mkF m 41 #[.val (.int p1), .val (.int p2), .val (.int p3), .val (.int p4), .val (.long q5), .second, .val (.int p6), .val (.int (1 : Int32)), .val (.int (own_t0 q5)), .val (.int (own_t1 q5 (8 : Int32))), .unset, .unset, .unset, .unset, .unset, .unset, .unset] [(.int ((((q5.toUInt64 >>> ((16 : Int32) &&& 0x3f).toInt64.toUInt64).toInt64) &&& (255 : Int64)).toInt32))])) _
    refine XS.i2c X0.here hx rfl (hb hby at_41) rfl ?_
    show Steps p.tables e below (s₁.setTop (mkF m 42 #[.val (.int p1), .val (.int p2), .val (.int p3), .val (.int p4), .val (.long q5), .second, .val (.int p6), .val (.int (1 : Int32)), .val (.int (own_t0 q5)), .val (.int (own_t1 q5 (8 : Int32))), .unset, .unset, .unset, .unset, .unset, .unset, .unset] [(.int (own_t1 q5 (16 : Int32)))])) _
    refine XS.istore X0.here hx rfl (hb hby at_42) rfl (l' := #[.val (.int p1), .val (.int p2), .val (.int p3), .val (.int p4), .val (.long q5), .second, .val (.int p6), .val (.int (1 : Int32)), .val (.int (own_t0 q5)), .val (.int (own_t1 q5 (8 : Int32))), .val (.int (own_t1 q5 (16 : Int32))), .unset, .unset, .unset, .unset, .unset, .unset]) rfl ?_
    show Steps p.tables e below (s₁.setTop (mkF m 44 #[.val (.int p1), .val (.int p2), .val (.int p3), .val (.int p4), .val (.long q5), .second, .val (.int p6), .val (.int (1 : Int32)), .val (.int (own_t0 q5)), .val (.int (own_t1 q5 (8 : Int32))), .val (.int (own_t1 q5 (16 : Int32))), .unset, .unset, .unset, .unset, .unset, .unset] [])) _
    refine XS.iconst X0.here hx rfl (hb hby at_44) ?_
    show Steps p.tables e below (s₁.setTop (mkF m 45 #[.val (.int p1), .val (.int p2), .val (.int p3), .val (.int p4), .val (.long q5), .second, .val (.int p6), .val (.int (1 : Int32)), .val (.int (own_t0 q5)), .val (.int (own_t1 q5 (8 : Int32))), .val (.int (own_t1 q5 (16 : Int32))), .unset, .unset, .unset, .unset, .unset, .unset] [(.int (1 : Int32))])) _
    refine XS.iconst X0.here hx rfl (hb hby at_45) ?_
    show Steps p.tables e below (s₁.setTop (mkF m 46 #[.val (.int p1), .val (.int p2), .val (.int p3), .val (.int p4), .val (.long q5), .second, .val (.int p6), .val (.int (1 : Int32)), .val (.int (own_t0 q5)), .val (.int (own_t1 q5 (8 : Int32))), .val (.int (own_t1 q5 (16 : Int32))), .unset, .unset, .unset, .unset, .unset, .unset] [(.int (2 : Int32)), (.int (1 : Int32))])) _
    refine XS.iload X0.here hx rfl (hb hby at_46) rfl ?_
    show Steps p.tables e below (s₁.setTop (mkF m 48 #[.val (.int p1), .val (.int p2), .val (.int p3), .val (.int p4), .val (.long q5), .second, .val (.int p6), .val (.int (1 : Int32)), .val (.int (own_t0 q5)), .val (.int (own_t1 q5 (8 : Int32))), .val (.int (own_t1 q5 (16 : Int32))), .unset, .unset, .unset, .unset, .unset, .unset] [(.int p6), (.int (2 : Int32)), (.int (1 : Int32))])) _
    refine XS.iconst X0.here hx rfl (hb hby at_48) ?_
    show Steps p.tables e below (s₁.setTop (mkF m 49 #[.val (.int p1), .val (.int p2), .val (.int p3), .val (.int p4), .val (.long q5), .second, .val (.int p6), .val (.int (1 : Int32)), .val (.int (own_t0 q5)), .val (.int (own_t1 q5 (8 : Int32))), .val (.int (own_t1 q5 (16 : Int32))), .unset, .unset, .unset, .unset, .unset, .unset] [(.int (3 : Int32)), (.int p6), (.int (2 : Int32)), (.int (1 : Int32))])) _
    refine XS.iand X0.here hx rfl (hb hby at_49) rfl ?_
    show Steps p.tables e below (s₁.setTop (mkF m 50 #[.val (.int p1), .val (.int p2), .val (.int p3), .val (.int p4), .val (.long q5), .second, .val (.int p6), .val (.int (1 : Int32)), .val (.int (own_t0 q5)), .val (.int (own_t1 q5 (8 : Int32))), .val (.int (own_t1 q5 (16 : Int32))), .unset, .unset, .unset, .unset, .unset, .unset] [(.int (own_a3 p6)), (.int (2 : Int32)), (.int (1 : Int32))])) _
    rw [hn]
    show Steps p.tables e below (s₁.setTop (mkF m 50 #[.val (.int p1), .val (.int p2), .val (.int p3), .val (.int p4), .val (.long q5), .second, .val (.int p6), .val (.int (1 : Int32)), .val (.int (own_t0 q5)), .val (.int (own_t1 q5 (8 : Int32))), .val (.int (own_t1 q5 (16 : Int32))), .unset, .unset, .unset, .unset, .unset, .unset] [(.int (0 : Int32)), (.int (2 : Int32)), (.int (1 : Int32))])) _
    refine st1 _ ?_
    show Steps p.tables e below (T1.setTop (mkF m 53 #[.val (.int p1), .val (.int p2), .val (.int p3), .val (.int p4), .val (.long q5), .second, .val (.int p6), .val (.int (1 : Int32)), .val (.int (own_t0 q5)), .val (.int (own_t1 q5 (8 : Int32))), .val (.int (own_t1 q5 (16 : Int32))), .unset, .unset, .unset, .unset, .unset, .unset] [(.int (0 : Int32)), (.int (1 : Int32))])) _
    refine XS.iadd X1.here hx rfl (hb hby at_53) rfl ?_
    show Steps p.tables e below (T1.setTop (mkF m 54 #[.val (.int p1), .val (.int p2), .val (.int p3), .val (.int p4), .val (.long q5), .second, .val (.int p6), .val (.int (1 : Int32)), .val (.int (own_t0 q5)), .val (.int (own_t1 q5 (8 : Int32))), .val (.int (own_t1 q5 (16 : Int32))), .unset, .unset, .unset, .unset, .unset, .unset] [(.int (1 : Int32))])) _
    refine XS.istore X1.here hx rfl (hb hby at_54) rfl (l' := #[.val (.int p1), .val (.int p2), .val (.int p3), .val (.int p4), .val (.long q5), .second, .val (.int p6), .val (.int (1 : Int32)), .val (.int (own_t0 q5)), .val (.int (own_t1 q5 (8 : Int32))), .val (.int (own_t1 q5 (16 : Int32))), .val (.int (1 : Int32)), .unset, .unset, .unset, .unset, .unset]) rfl ?_
    show Steps p.tables e below (T1.setTop (mkF m 56 #[.val (.int p1), .val (.int p2), .val (.int p3), .val (.int p4), .val (.long q5), .second, .val (.int p6), .val (.int (1 : Int32)), .val (.int (own_t0 q5)), .val (.int (own_t1 q5 (8 : Int32))), .val (.int (own_t1 q5 (16 : Int32))), .val (.int (1 : Int32)), .unset, .unset, .unset, .unset, .unset] [])) _
    refine XS.iload X1.here hx rfl (hb hby at_56) rfl ?_
    show Steps p.tables e below (T1.setTop (mkF m 58 #[.val (.int p1), .val (.int p2), .val (.int p3), .val (.int p4), .val (.long q5), .second, .val (.int p6), .val (.int (1 : Int32)), .val (.int (own_t0 q5)), .val (.int (own_t1 q5 (8 : Int32))), .val (.int (own_t1 q5 (16 : Int32))), .val (.int (1 : Int32)), .unset, .unset, .unset, .unset, .unset] [(.int (1 : Int32))])) _
    refine XS.iconst X1.here hx rfl (hb hby at_58) ?_
    show Steps p.tables e below (T1.setTop (mkF m 59 #[.val (.int p1), .val (.int p2), .val (.int p3), .val (.int p4), .val (.long q5), .second, .val (.int p6), .val (.int (1 : Int32)), .val (.int (own_t0 q5)), .val (.int (own_t1 q5 (8 : Int32))), .val (.int (own_t1 q5 (16 : Int32))), .val (.int (1 : Int32)), .unset, .unset, .unset, .unset, .unset] [(.int (1 : Int32)), (.int (1 : Int32))])) _
    refine XS.icmpNo X1.here hx rfl (hb hby at_59) rfl (teq (rfl : (1 : Int32) = (1 : Int32))).2 ?_
    show Steps p.tables e below (T1.setTop (mkF m 62 #[.val (.int p1), .val (.int p2), .val (.int p3), .val (.int p4), .val (.long q5), .second, .val (.int p6), .val (.int (1 : Int32)), .val (.int (own_t0 q5)), .val (.int (own_t1 q5 (8 : Int32))), .val (.int (own_t1 q5 (16 : Int32))), .val (.int (1 : Int32)), .unset, .unset, .unset, .unset, .unset] [])) _
    refine XS.iconst X1.here hx rfl (hb hby at_62) ?_
    show Steps p.tables e below (T1.setTop (mkF m 63 #[.val (.int p1), .val (.int p2), .val (.int p3), .val (.int p4), .val (.long q5), .second, .val (.int p6), .val (.int (1 : Int32)), .val (.int (own_t0 q5)), .val (.int (own_t1 q5 (8 : Int32))), .val (.int (own_t1 q5 (16 : Int32))), .val (.int (1 : Int32)), .unset, .unset, .unset, .unset, .unset] [(.int (1 : Int32))])) _
    refine st2 _ ?_
    show Steps p.tables e below (T2.setTop (mkF m 65 #[.val (.int p1), .val (.int p2), .val (.int p3), .val (.int p4), .val (.long q5), .second, .val (.int p6), .val (.int (1 : Int32)), .val (.int (own_t0 q5)), .val (.int (own_t1 q5 (8 : Int32))), .val (.int (own_t1 q5 (16 : Int32))), .val (.int (1 : Int32)), .unset, .unset, .unset, .unset, .unset] [(.ref b2)])) _
    refine XS.dup X2.here hx rfl (hb hby at_65) rfl rfl ?_
    show Steps p.tables e below (T2.setTop (mkF m 66 #[.val (.int p1), .val (.int p2), .val (.int p3), .val (.int p4), .val (.long q5), .second, .val (.int p6), .val (.int (1 : Int32)), .val (.int (own_t0 q5)), .val (.int (own_t1 q5 (8 : Int32))), .val (.int (own_t1 q5 (16 : Int32))), .val (.int (1 : Int32)), .unset, .unset, .unset, .unset, .unset] [(.ref b2), (.ref b2)])) _
    refine XS.iconst X2.here hx rfl (hb hby at_66) ?_
    show Steps p.tables e below (T2.setTop (mkF m 67 #[.val (.int p1), .val (.int p2), .val (.int p3), .val (.int p4), .val (.long q5), .second, .val (.int p6), .val (.int (1 : Int32)), .val (.int (own_t0 q5)), .val (.int (own_t1 q5 (8 : Int32))), .val (.int (own_t1 q5 (16 : Int32))), .val (.int (1 : Int32)), .unset, .unset, .unset, .unset, .unset] [(.int (0 : Int32)), (.ref b2), (.ref b2)])) _
    refine XS.iload X2.here hx rfl (hb hby at_67) rfl ?_
    show Steps p.tables e below (T2.setTop (mkF m 69 #[.val (.int p1), .val (.int p2), .val (.int p3), .val (.int p4), .val (.long q5), .second, .val (.int p6), .val (.int (1 : Int32)), .val (.int (own_t0 q5)), .val (.int (own_t1 q5 (8 : Int32))), .val (.int (own_t1 q5 (16 : Int32))), .val (.int (1 : Int32)), .unset, .unset, .unset, .unset, .unset] [(.int (own_t0 q5)), (.int (0 : Int32)), (.ref b2), (.ref b2)])) _
    refine st6 _ ?_
    show Steps p.tables e below (T6.setTop (mkF m 70 #[.val (.int p1), .val (.int p2), .val (.int p3), .val (.int p4), .val (.long q5), .second, .val (.int p6), .val (.int (1 : Int32)), .val (.int (own_t0 q5)), .val (.int (own_t1 q5 (8 : Int32))), .val (.int (own_t1 q5 (16 : Int32))), .val (.int (1 : Int32)), .unset, .unset, .unset, .unset, .unset] [(.ref b2)])) _
    refine XS.astore X6.here hx rfl (hb hby at_70) rfl rfl (l' := #[.val (.int p1), .val (.int p2), .val (.int p3), .val (.int p4), .val (.long q5), .second, .val (.int p6), .val (.int (1 : Int32)), .val (.int (own_t0 q5)), .val (.int (own_t1 q5 (8 : Int32))), .val (.int (own_t1 q5 (16 : Int32))), .val (.int (1 : Int32)), .val (.ref b2), .unset, .unset, .unset, .unset]) rfl ?_
    show Steps p.tables e below (T6.setTop (mkF m 72 #[.val (.int p1), .val (.int p2), .val (.int p3), .val (.int p4), .val (.long q5), .second, .val (.int p6), .val (.int (1 : Int32)), .val (.int (own_t0 q5)), .val (.int (own_t1 q5 (8 : Int32))), .val (.int (own_t1 q5 (16 : Int32))), .val (.int (1 : Int32)), .val (.ref b2), .unset, .unset, .unset, .unset] [])) _
    refine XS.goto X6.here hx rfl (pc0 := 72) (pc' := 119) rfl (hb hby at_72) (by decide) (by decide) ?_
    show Steps p.tables e below (T6.setTop (mkF m 119 #[.val (.int p1), .val (.int p2), .val (.int p3), .val (.int p4), .val (.long q5), .second, .val (.int p6), .val (.int (1 : Int32)), .val (.int (own_t0 q5)), .val (.int (own_t1 q5 (8 : Int32))), .val (.int (own_t1 q5 (16 : Int32))), .val (.int (1 : Int32)), .val (.ref b2), .unset, .unset, .unset, .unset] [])) _
    refine st10 _ ?_
    show Steps p.tables e below (T10.setTop (mkF m 122 #[.val (.int p1), .val (.int p2), .val (.int p3), .val (.int p4), .val (.long q5), .second, .val (.int p6), .val (.int (1 : Int32)), .val (.int (own_t0 q5)), .val (.int (own_t1 q5 (8 : Int32))), .val (.int (own_t1 q5 (16 : Int32))), .val (.int (1 : Int32)), .val (.ref b2), .unset, .unset, .unset, .unset] [(.ref b10)])) _
    refine XS.dup X10.here hx rfl (hb hby at_122) rfl rfl ?_
    show Steps p.tables e below (T10.setTop (mkF m 123 #[.val (.int p1), .val (.int p2), .val (.int p3), .val (.int p4), .val (.long q5), .second, .val (.int p6), .val (.int (1 : Int32)), .val (.int (own_t0 q5)), .val (.int (own_t1 q5 (8 : Int32))), .val (.int (own_t1 q5 (16 : Int32))), .val (.int (1 : Int32)), .val (.ref b2), .unset, .unset, .unset, .unset] [(.ref b10), (.ref b10)])) _
    refine XS.aload X10.here hx rfl (hb hby at_123) rfl rfl ?_
    show Steps p.tables e below (T10.setTop (mkF m 125 #[.val (.int p1), .val (.int p2), .val (.int p3), .val (.int p4), .val (.long q5), .second, .val (.int p6), .val (.int (1 : Int32)), .val (.int (own_t0 q5)), .val (.int (own_t1 q5 (8 : Int32))), .val (.int (own_t1 q5 (16 : Int32))), .val (.int (1 : Int32)), .val (.ref b2), .unset, .unset, .unset, .unset] [(.ref b2), (.ref b10), (.ref b10)])) _
    refine st21.trans ?_
    show Steps p.tables e below (T21.setTop (mkF m 128 #[.val (.int p1), .val (.int p2), .val (.int p3), .val (.int p4), .val (.long q5), .second, .val (.int p6), .val (.int (1 : Int32)), .val (.int (own_t0 q5)), .val (.int (own_t1 q5 (8 : Int32))), .val (.int (own_t1 q5 (16 : Int32))), .val (.int (1 : Int32)), .val (.ref b2), .unset, .unset, .unset, .unset] [(.ref b10)])) _
    refine XS.astore X21.here hx rfl (hb hby at_128) rfl rfl (l' := #[.val (.int p1), .val (.int p2), .val (.int p3), .val (.int p4), .val (.long q5), .second, .val (.int p6), .val (.int (1 : Int32)), .val (.int (own_t0 q5)), .val (.int (own_t1 q5 (8 : Int32))), .val (.int (own_t1 q5 (16 : Int32))), .val (.int (1 : Int32)), .val (.ref b2), .val (.ref b10), .unset, .unset, .unset]) rfl ?_
    show Steps p.tables e below (T21.setTop (mkF m 130 #[.val (.int p1), .val (.int p2), .val (.int p3), .val (.int p4), .val (.long q5), .second, .val (.int p6), .val (.int (1 : Int32)), .val (.int (own_t0 q5)), .val (.int (own_t1 q5 (8 : Int32))), .val (.int (own_t1 q5 (16 : Int32))), .val (.int (1 : Int32)), .val (.ref b2), .val (.ref b10), .unset, .unset, .unset] [])) _
    refine XS.iload X21.here hx rfl (hb hby at_130) rfl ?_
    show Steps p.tables e below (T21.setTop (mkF m 132 #[.val (.int p1), .val (.int p2), .val (.int p3), .val (.int p4), .val (.long q5), .second, .val (.int p6), .val (.int (1 : Int32)), .val (.int (own_t0 q5)), .val (.int (own_t1 q5 (8 : Int32))), .val (.int (own_t1 q5 (16 : Int32))), .val (.int (1 : Int32)), .val (.ref b2), .val (.ref b10), .unset, .unset, .unset] [(.int (1 : Int32))])) _
    refine XS.ifYes X21.here hx rfl (pc0 := 132) (pc' := 143) rfl (hb hby at_132) rfl ((if0 _ _).trans (feq (by decide : ¬ ((1 : Int32) = (0 : Int32)))).2) (by decide) (by decide) ?_
    show Steps p.tables e below (T21.setTop (mkF m 143 #[.val (.int p1), .val (.int p2), .val (.int p3), .val (.int p4), .val (.long q5), .second, .val (.int p6), .val (.int (1 : Int32)), .val (.int (own_t0 q5)), .val (.int (own_t1 q5 (8 : Int32))), .val (.int (own_t1 q5 (16 : Int32))), .val (.int (1 : Int32)), .val (.ref b2), .val (.ref b10), .unset, .unset, .unset] [])) _
    refine st23 _ ?_
    show Steps p.tables e below (T23.setTop (mkF m 146 #[.val (.int p1), .val (.int p2), .val (.int p3), .val (.int p4), .val (.long q5), .second, .val (.int p6), .val (.int (1 : Int32)), .val (.int (own_t0 q5)), .val (.int (own_t1 q5 (8 : Int32))), .val (.int (own_t1 q5 (16 : Int32))), .val (.int (1 : Int32)), .val (.ref b2), .val (.ref b10), .unset, .unset, .unset] [(.ref b23)])) _
    refine XS.dup X23.here hx rfl (hb hby at_146) rfl rfl ?_
    show Steps p.tables e below (T23.setTop (mkF m 147 #[.val (.int p1), .val (.int p2), .val (.int p3), .val (.int p4), .val (.long q5), .second, .val (.int p6), .val (.int (1 : Int32)), .val (.int (own_t0 q5)), .val (.int (own_t1 q5 (8 : Int32))), .val (.int (own_t1 q5 (16 : Int32))), .val (.int (1 : Int32)), .val (.ref b2), .val (.ref b10), .unset, .unset, .unset] [(.ref b23), (.ref b23)])) _
    refine XS.aload X23.here hx rfl (hb hby at_147) rfl rfl ?_
    show Steps p.tables e below (T23.setTop (mkF m 149 #[.val (.int p1), .val (.int p2), .val (.int p3), .val (.int p4), .val (.long q5), .second, .val (.int p6), .val (.int (1 : Int32)), .val (.int (own_t0 q5)), .val (.int (own_t1 q5 (8 : Int32))), .val (.int (own_t1 q5 (16 : Int32))), .val (.int (1 : Int32)), .val (.ref b2), .val (.ref b10), .unset, .unset, .unset] [(.ref b10), (.ref b23), (.ref b23)])) _
    refine XS.iload X23.here hx rfl (hb hby at_149) rfl ?_
    show Steps p.tables e below (T23.setTop (mkF m 151 #[.val (.int p1), .val (.int p2), .val (.int p3), .val (.int p4), .val (.long q5), .second, .val (.int p6), .val (.int (1 : Int32)), .val (.int (own_t0 q5)), .val (.int (own_t1 q5 (8 : Int32))), .val (.int (own_t1 q5 (16 : Int32))), .val (.int (1 : Int32)), .val (.ref b2), .val (.ref b10), .unset, .unset, .unset] [(.int (1 : Int32)), (.ref b10), (.ref b23), (.ref b23)])) _
    refine XS.iconst X23.here hx rfl (hb hby at_151) ?_
    show Steps p.tables e below (T23.setTop (mkF m 152 #[.val (.int p1), .val (.int p2), .val (.int p3), .val (.int p4), .val (.long q5), .second, .val (.int p6), .val (.int (1 : Int32)), .val (.int (own_t0 q5)), .val (.int (own_t1 q5 (8 : Int32))), .val (.int (own_t1 q5 (16 : Int32))), .val (.int (1 : Int32)), .val (.ref b2), .val (.ref b10), .unset, .unset, .unset] [(.int (1 : Int32)), (.int (1 : Int32)), (.ref b10), (.ref b23), (.ref b23)])) _
    refine XS.icmpNo X23.here hx rfl (hb hby at_152) rfl (teq (rfl : (1 : Int32) = (1 : Int32))).2 ?_
    show Steps p.tables e below (T23.setTop (mkF m 155 #[.val (.int p1), .val (.int p2), .val (.int p3), .val (.int p4), .val (.long q5), .second, .val (.int p6), .val (.int (1 : Int32)), .val (.int (own_t0 q5)), .val (.int (own_t1 q5 (8 : Int32))), .val (.int (own_t1 q5 (16 : Int32))), .val (.int (1 : Int32)), .val (.ref b2), .val (.ref b10), .unset, .unset, .unset] [(.ref b10), (.ref b23), (.ref b23)])) _
    refine XS.iconst X23.here hx rfl (hb hby at_155) ?_
    show Steps p.tables e below (T23.setTop (mkF m 156 #[.val (.int p1), .val (.int p2), .val (.int p3), .val (.int p4), .val (.long q5), .second, .val (.int p6), .val (.int (1 : Int32)), .val (.int (own_t0 q5)), .val (.int (own_t1 q5 (8 : Int32))), .val (.int (own_t1 q5 (16 : Int32))), .val (.int (1 : Int32)), .val (.ref b2), .val (.ref b10), .unset, .unset, .unset] [(.int (1 : Int32)), (.ref b10), (.ref b23), (.ref b23)])) _
    refine XS.goto X23.here hx rfl (pc0 := 156) (pc' := 160) rfl (hb hby at_156) (by decide) (by decide) ?_
    show Steps p.tables e below (T23.setTop (mkF m 160 #[.val (.int p1), .val (.int p2), .val (.int p3), .val (.int p4), .val (.long q5), .second, .val (.int p6), .val (.int (1 : Int32)), .val (.int (own_t0 q5)), .val (.int (own_t1 q5 (8 : Int32))), .val (.int (own_t1 q5 (16 : Int32))), .val (.int (1 : Int32)), .val (.ref b2), .val (.ref b10), .unset, .unset, .unset] [(.int (1 : Int32)), (.ref b10), (.ref b23), (.ref b23)])) _
    refine st34.trans ?_
    show Steps p.tables e below (T34.setTop (mkF m 163 #[.val (.int p1), .val (.int p2), .val (.int p3), .val (.int p4), .val (.long q5), .second, .val (.int p6), .val (.int (1 : Int32)), .val (.int (own_t0 q5)), .val (.int (own_t1 q5 (8 : Int32))), .val (.int (own_t1 q5 (16 : Int32))), .val (.int (1 : Int32)), .val (.ref b2), .val (.ref b10), .unset, .unset, .unset] [(.ref b23)])) _
    refine st36 _ ?_
    show Steps p.tables e below (T36.setTop (mkF m 166 #[.val (.int p1), .val (.int p2), .val (.int p3), .val (.int p4), .val (.long q5), .second, .val (.int p6), .val (.int (1 : Int32)), .val (.int (own_t0 q5)), .val (.int (own_t1 q5 (8 : Int32))), .val (.int (own_t1 q5 (16 : Int32))), .val (.int (1 : Int32)), .val (.ref b2), .val (.ref b10), .unset, .unset, .unset] [(.ref b1_36)])) _
    refine XS.astore X36.here hx rfl (hb hby at_166) rfl rfl (l' := #[.val (.int p1), .val (.int p2), .val (.int p3), .val (.int p4), .val (.long q5), .second, .val (.int p6), .val (.int (1 : Int32)), .val (.int (own_t0 q5)), .val (.int (own_t1 q5 (8 : Int32))), .val (.int (own_t1 q5 (16 : Int32))), .val (.int (1 : Int32)), .val (.ref b2), .val (.ref b10), .val (.ref b1_36), .unset, .unset]) rfl ?_
    show Steps p.tables e below (T36.setTop (mkF m 168 #[.val (.int p1), .val (.int p2), .val (.int p3), .val (.int p4), .val (.long q5), .second, .val (.int p6), .val (.int (1 : Int32)), .val (.int (own_t0 q5)), .val (.int (own_t1 q5 (8 : Int32))), .val (.int (own_t1 q5 (16 : Int32))), .val (.int (1 : Int32)), .val (.ref b2), .val (.ref b10), .val (.ref b1_36), .unset, .unset] [])) _
    refine st38 _ ?_
    show Steps p.tables e below (T38.setTop (mkF m 171 #[.val (.int p1), .val (.int p2), .val (.int p3), .val (.int p4), .val (.long q5), .second, .val (.int p6), .val (.int (1 : Int32)), .val (.int (own_t0 q5)), .val (.int (own_t1 q5 (8 : Int32))), .val (.int (own_t1 q5 (16 : Int32))), .val (.int (1 : Int32)), .val (.ref b2), .val (.ref b10), .val (.ref b1_36), .unset, .unset] [(.ref b38)])) _
    refine XS.dup X38.here hx rfl (hb hby at_171) rfl rfl ?_
    show Steps p.tables e below (T38.setTop (mkF m 172 #[.val (.int p1), .val (.int p2), .val (.int p3), .val (.int p4), .val (.long q5), .second, .val (.int p6), .val (.int (1 : Int32)), .val (.int (own_t0 q5)), .val (.int (own_t1 q5 (8 : Int32))), .val (.int (own_t1 q5 (16 : Int32))), .val (.int (1 : Int32)), .val (.ref b2), .val (.ref b10), .val (.ref b1_36), .unset, .unset] [(.ref b38), (.ref b38)])) _
    refine XS.iloadN X38.here hx rfl (hb hby at_172) rfl ?_
    show Steps p.tables e below (T38.setTop (mkF m 173 #[.val (.int p1), .val (.int p2), .val (.int p3), .val (.int p4), .val (.long q5), .second, .val (.int p6), .val (.int (1 : Int32)), .val (.int (own_t0 q5)), .val (.int (own_t1 q5 (8 : Int32))), .val (.int (own_t1 q5 (16 : Int32))), .val (.int (1 : Int32)), .val (.ref b2), .val (.ref b10), .val (.ref b1_36), .unset, .unset] [(.int p1), (.ref b38), (.ref b38)])) _
    refine XS.iloadN X38.here hx rfl (hb hby at_173) rfl ?_
    show Steps p.tables e below (T38.setTop (mkF m 174 #[.val (.int p1), .val (.int p2), .val (.int p3), .val (.int p4), .val (.long q5), .second, .val (.int p6), .val (.int (1 : Int32)), .val (.int (own_t0 q5)), .val (.int (own_t1 q5 (8 : Int32))), .val (.int (own_t1 q5 (16 : Int32))), .val (.int (1 : Int32)), .val (.ref b2), .val (.ref b10), .val (.ref b1_36), .unset, .unset] [(.int p2), (.int p1), (.ref b38), (.ref b38)])) _
    refine XS.iloadN X38.here hx rfl (hb hby at_174) rfl ?_
    show Steps p.tables e below (T38.setTop (mkF m 175 #[.val (.int p1), .val (.int p2), .val (.int p3), .val (.int p4), .val (.long q5), .second, .val (.int p6), .val (.int (1 : Int32)), .val (.int (own_t0 q5)), .val (.int (own_t1 q5 (8 : Int32))), .val (.int (own_t1 q5 (16 : Int32))), .val (.int (1 : Int32)), .val (.ref b2), .val (.ref b10), .val (.ref b1_36), .unset, .unset] [(.int p3), (.int p2), (.int p1), (.ref b38), (.ref b38)])) _
    refine XS.aload X38.here hx rfl (hb hby at_175) rfl rfl ?_
    show Steps p.tables e below (T38.setTop (mkF m 177 #[.val (.int p1), .val (.int p2), .val (.int p3), .val (.int p4), .val (.long q5), .second, .val (.int p6), .val (.int (1 : Int32)), .val (.int (own_t0 q5)), .val (.int (own_t1 q5 (8 : Int32))), .val (.int (own_t1 q5 (16 : Int32))), .val (.int (1 : Int32)), .val (.ref b2), .val (.ref b10), .val (.ref b1_36), .unset, .unset] [(.ref b1_36), (.int p3), (.int p2), (.int p1), (.ref b38), (.ref b38)])) _
    refine st45.trans ?_
    show Steps p.tables e below (T45.setTop (mkF m 180 #[.val (.int p1), .val (.int p2), .val (.int p3), .val (.int p4), .val (.long q5), .second, .val (.int p6), .val (.int (1 : Int32)), .val (.int (own_t0 q5)), .val (.int (own_t1 q5 (8 : Int32))), .val (.int (own_t1 q5 (16 : Int32))), .val (.int (1 : Int32)), .val (.ref b2), .val (.ref b10), .val (.ref b1_36), .unset, .unset] [(.ref b38)])) _
    refine XS.astore X45.here hx rfl (hb hby at_180) rfl rfl (l' := #[.val (.int p1), .val (.int p2), .val (.int p3), .val (.int p4), .val (.long q5), .second, .val (.int p6), .val (.int (1 : Int32)), .val (.int (own_t0 q5)), .val (.int (own_t1 q5 (8 : Int32))), .val (.int (own_t1 q5 (16 : Int32))), .val (.int (1 : Int32)), .val (.ref b2), .val (.ref b10), .val (.ref b1_36), .val (.ref b38), .unset]) rfl ?_
    show Steps p.tables e below (T45.setTop (mkF m 182 #[.val (.int p1), .val (.int p2), .val (.int p3), .val (.int p4), .val (.long q5), .second, .val (.int p6), .val (.int (1 : Int32)), .val (.int (own_t0 q5)), .val (.int (own_t1 q5 (8 : Int32))), .val (.int (own_t1 q5 (16 : Int32))), .val (.int (1 : Int32)), .val (.ref b2), .val (.ref b10), .val (.ref b1_36), .val (.ref b38), .unset] [])) _
    refine XS.iload X45.here hx rfl (hb hby at_182) rfl ?_
    show Steps p.tables e below (T45.setTop (mkF m 184 #[.val (.int p1), .val (.int p2), .val (.int p3), .val (.int p4), .val (.long q5), .second, .val (.int p6), .val (.int (1 : Int32)), .val (.int (own_t0 q5)), .val (.int (own_t1 q5 (8 : Int32))), .val (.int (own_t1 q5 (16 : Int32))), .val (.int (1 : Int32)), .val (.ref b2), .val (.ref b10), .val (.ref b1_36), .val (.ref b38), .unset] [(.int (1 : Int32))])) _
    refine XS.iconst X45.here hx rfl (hb hby at_184) ?_
    show Steps p.tables e below (T45.setTop (mkF m 185 #[.val (.int p1), .val (.int p2), .val (.int p3), .val (.int p4), .val (.long q5), .second, .val (.int p6), .val (.int (1 : Int32)), .val (.int (own_t0 q5)), .val (.int (own_t1 q5 (8 : Int32))), .val (.int (own_t1 q5 (16 : Int32))), .val (.int (1 : Int32)), .val (.ref b2), .val (.ref b10), .val (.ref b1_36), .val (.ref b38), .unset] [(.int (1 : Int32)), (.int (1 : Int32))])) _
    refine XS.icmpYes X45.here hx rfl (pc0 := 185) (pc' := 192) rfl (hb hby at_185) rfl (teq (rfl : (1 : Int32) = (1 : Int32))).1 (by decide) (by decide) ?_
    show Steps p.tables e below (T45.setTop (mkF m 192 #[.val (.int p1), .val (.int p2), .val (.int p3), .val (.int p4), .val (.long q5), .second, .val (.int p6), .val (.int (1 : Int32)), .val (.int (own_t0 q5)), .val (.int (own_t1 q5 (8 : Int32))), .val (.int (own_t1 q5 (16 : Int32))), .val (.int (1 : Int32)), .val (.ref b2), .val (.ref b10), .val (.ref b1_36), .val (.ref b38), .unset] [])) _
    refine XS.iconst X45.here hx rfl (hb hby at_192) ?_
    show Steps p.tables e below (T45.setTop (mkF m 193 #[.val (.int p1), .val (.int p2), .val (.int p3), .val (.int p4), .val (.long q5), .second, .val (.int p6), .val (.int (1 : Int32)), .val (.int (own_t0 q5)), .val (.int (own_t1 q5 (8 : Int32))), .val (.int (own_t1 q5 (16 : Int32))), .val (.int (1 : Int32)), .val (.ref b2), .val (.ref b10), .val (.ref b1_36), .val (.ref b38), .unset] [(.int (0 : Int32))])) _
    refine XS.istore X45.here hx rfl (hb hby at_193) rfl (l' := #[.val (.int p1), .val (.int p2), .val (.int p3), .val (.int p4), .val (.long q5), .second, .val (.int p6), .val (.int (1 : Int32)), .val (.int (own_t0 q5)), .val (.int (own_t1 q5 (8 : Int32))), .val (.int (own_t1 q5 (16 : Int32))), .val (.int (1 : Int32)), .val (.ref b2), .val (.ref b10), .val (.ref b1_36), .val (.ref b38), .val (.int (0 : Int32))]) rfl ?_
    show Steps p.tables e below (T45.setTop (mkF m 195 #[.val (.int p1), .val (.int p2), .val (.int p3), .val (.int p4), .val (.long q5), .second, .val (.int p6), .val (.int (1 : Int32)), .val (.int (own_t0 q5)), .val (.int (own_t1 q5 (8 : Int32))), .val (.int (own_t1 q5 (16 : Int32))), .val (.int (1 : Int32)), .val (.ref b2), .val (.ref b10), .val (.ref b1_36), .val (.ref b38), .val (.int (0 : Int32))] [])) _
    refine XS.aload X45.here hx rfl (hb hby at_195) rfl rfl ?_
    show Steps p.tables e below (T45.setTop (mkF m 197 #[.val (.int p1), .val (.int p2), .val (.int p3), .val (.int p4), .val (.long q5), .second, .val (.int p6), .val (.int (1 : Int32)), .val (.int (own_t0 q5)), .val (.int (own_t1 q5 (8 : Int32))), .val (.int (own_t1 q5 (16 : Int32))), .val (.int (1 : Int32)), .val (.ref b2), .val (.ref b10), .val (.ref b1_36), .val (.ref b38), .val (.int (0 : Int32))] [(.ref b38)])) _
    refine st51.trans ?_
    show Steps p.tables e below (T51.setTop (mkF m 200 #[.val (.int p1), .val (.int p2), .val (.int p3), .val (.int p4), .val (.long q5), .second, .val (.int p6), .val (.int (1 : Int32)), .val (.int (own_t0 q5)), .val (.int (own_t1 q5 (8 : Int32))), .val (.int (own_t1 q5 (16 : Int32))), .val (.int (1 : Int32)), .val (.ref b2), .val (.ref b10), .val (.ref b1_36), .val (.ref b38), .val (.int (0 : Int32))] [(.int (0 : Int32))])) _
    refine XS.iload X51.here hx rfl (hb hby at_200) rfl ?_
    show Steps p.tables e below (T51.setTop (mkF m 202 #[.val (.int p1), .val (.int p2), .val (.int p3), .val (.int p4), .val (.long q5), .second, .val (.int p6), .val (.int (1 : Int32)), .val (.int (own_t0 q5)), .val (.int (own_t1 q5 (8 : Int32))), .val (.int (own_t1 q5 (16 : Int32))), .val (.int (1 : Int32)), .val (.ref b2), .val (.ref b10), .val (.ref b1_36), .val (.ref b38), .val (.int (0 : Int32))] [(.int (0 : Int32)), (.int (0 : Int32))])) _
    refine XS.icmpNo X51.here hx rfl (hb hby at_202) rfl (teq (rfl : (0 : Int32) = (0 : Int32))).2 ?_
    show Steps p.tables e below (T51.setTop (mkF m 205 #[.val (.int p1), .val (.int p2), .val (.int p3), .val (.int p4), .val (.long q5), .second, .val (.int p6), .val (.int (1 : Int32)), .val (.int (own_t0 q5)), .val (.int (own_t1 q5 (8 : Int32))), .val (.int (own_t1 q5 (16 : Int32))), .val (.int (1 : Int32)), .val (.ref b2), .val (.ref b10), .val (.ref b1_36), .val (.ref b38), .val (.int (0 : Int32))] [])) _
    refine XS.iconst X51.here hx rfl (hb hby at_205) ?_
    show Steps p.tables e below (T51.setTop (mkF m 206 #[.val (.int p1), .val (.int p2), .val (.int p3), .val (.int p4), .val (.long q5), .second, .val (.int p6), .val (.int (1 : Int32)), .val (.int (own_t0 q5)), .val (.int (own_t1 q5 (8 : Int32))), .val (.int (own_t1 q5 (16 : Int32))), .val (.int (1 : Int32)), .val (.ref b2), .val (.ref b10), .val (.ref b1_36), .val (.ref b38), .val (.int (0 : Int32))] [(.int (1 : Int32))])) _
    refine XS.goto X51.here hx rfl (pc0 := 206) (pc' := 210) rfl (hb hby at_206) (by decide) (by decide) ?_
    show Steps p.tables e below (T51.setTop (mkF m 210 #[.val (.int p1), .val (.int p2), .val (.int p3), .val (.int p4), .val (.long q5), .second, .val (.int p6), .val (.int (1 : Int32)), .val (.int (own_t0 q5)), .val (.int (own_t1 q5 (8 : Int32))), .val (.int (own_t1 q5 (16 : Int32))), .val (.int (1 : Int32)), .val (.ref b2), .val (.ref b10), .val (.ref b1_36), .val (.ref b38), .val (.int (0 : Int32))] [(.int (1 : Int32))])) _
    exact retN X51 hx (t := .boolean) Bd.returns (by simp) (hb hby at_210) hr
  · show own_Qlaw h0 n0 _ T51.heap _
    exact ⟨rfl, N51⟩
theorem own_eflaw12 (m : MethodId) (p1 : Int32) (p2 : Int32) (p3 : Int32) (p4 : Int32) (q5 : Int64) (p6 : Int32) : entryFrame m #[(.int p1), (.int p2), (.int p3), (.int p4), (.long q5), (.int p6)] maxLocals = mkF m 0 #[.val (.int p1), .val (.int p2), .val (.int p3), .val (.int p4), .val (.long q5), .second, .val (.int p6), .unset, .unset, .unset, .unset, .unset, .unset, .unset, .unset, .unset, .unset] [] := by first | (simp [entryFrame, mkF, argsToLocals, Value.category, maxLocals]; done) | rfl
set_option maxRecDepth 65536 in
set_option maxHeartbeats 40000000 in
theorem own_law12 (l : Launch) (Z : State) (a0 : Array Value) (hw : ∀ d ∈ tables_1, d.before a0 Z = true) (ws : List Jvm.Cond) (G1 : Int32) (k_EMPTY : Addr) (gl : own_Glob Z G1 k_EMPTY) (p1 : Int32) (p2 : Int32) (p3 : Int32) (p4 : Int32) (q5 : Int64) (p6 : Int32) (h0 : Heap) (n0 : Nat) (Z0 : n0 ≤ h0.size) (X00 : Old Z n0 h0) (hk : own_kd p4 = 2) (hn : own_a3 p6 = 0) :
    MetFree l x (head1 (Jvm.Cond.code x code maxLocals ret :: ws) room_1) (fun a U => a = #[(.int p1), (.int p2), (.int p3), (.int p4), (.long q5), (.int p6)] ∧ Z.Warmed39 U.vm ∧ U.heap = h0) (fun _ _ _ _ _ => True) (fun _ U o U' => ∃ v L, o = .returned v ∧ own_Qlaw h0 n0 v U'.heap L ∧ ReturnedEndW U o U' L room_1.cells room_1.slots) := by
  refine MetFree.of_bodySF (plainFor_of_name own_pn15) hisR ?_
  intro p e s m args below meth c s₁ Bd hml0 hP hK
  obtain ⟨rfl, hZ, hh⟩ := hP
  obtain ⟨O_CS, P_CS, O_EMPTY, E_EMPTY, F_EMPTY⟩ := id gl
  have hx := Bd.exec
  have hby := Bd.bytes
  have hml : c.maxLocals = 17 := hml0
  have hown : s.vm.findClass "com/example/leftmost/leftmost/tree/NodeIsLeafPinLaw" = some m.cls := findClass_of_methodNamed Bd.named
  have hnm := (name_of_methodNamed Bd.named Bd.method).1
  have X0 : Stand p l e room_1 s m #[(.int p1), (.int p2), (.int p3), (.int p4), (.long q5), (.int p6)] below meth c s₁ [] 0 0 := Stand.of_body Bd
  have e0 : s₁.heap = h0 := by rw [← hh, Bd.state]; rfl
  have N0 := Fr.nil n0
  have pre0 : ∀ t, Steps p.tables e below (s₁.setTop (mkF m 0 #[.val (.int p1), .val (.int p2), .val (.int p3), .val (.int p4), .val (.long q5), .second, .val (.int p6), .unset, .unset, .unset, .unset, .unset, .unset, .unset, .unset, .unset, .unset] [])) t → Steps p.tables e below (s₁.setTop (entryFrame m #[(.int p1), (.int p2), (.int p3), (.int p4), (.long q5), (.int p6)] maxLocals)) t := fun t k => castTop (own_eflaw12 m p1 p2 p3 p4 q5 p6) k
  obtain ⟨_, _, ⟨T1, L1, k1, n1⟩, -, X1, ⟨Lc1, hQ1, l1, y1, z1⟩, st1⟩ := Jvm.LawKit.callS X0 hx (y := (⟨"java/lang/Math", "min", "(II)I"⟩ : MethodName)) hown (mvT hZ (hw _ (List.mem_of_getElem? (i := 2) rfl))) (mvT hZ (hw _ (List.mem_of_getElem? (i := 3) rfl))) (mvT hZ (hw _ (List.mem_of_getElem? (i := 4) rfl))) (mvT hZ (hw _ (List.mem_of_getElem? (i := 5) rfl))) (by decide) (backOf (W := 1) (own_rm_minR l Z a0 hw [] G1 k_EMPTY gl (2 : Int32) (0 : Int32) h0 n0 Z0 (by decide : (0 : Int32) < (2 : Int32))) hZ (hw _ (List.mem_of_getElem? (i := 5) rfl)) (hw _ (List.mem_of_getElem? (i := 4) rfl)) (by decide) (by decide)) (g := (mkF m 50 #[.val (.int p1), .val (.int p2), .val (.int p3), .val (.int p4), .val (.long q5), .second, .val (.int p6), .val (.int (2 : Int32)), .val (.int (own_t0 q5)), .val (.int (own_t1 q5 (8 : Int32))), .val (.int (own_t1 q5 (16 : Int32))), .unset, .unset, .unset, .unset, .unset, .unset] [(.int (0 : Int32)), (.int (2 : Int32)), (.int (1 : Int32))])) rfl (by rw [hml]; rfl) (argsL := [(.int (2 : Int32)), (.int (0 : Int32))]) (rest := [(.int (1 : Int32))]) (lenOf own_pd11 rfl) rfl (by show 2 * 0 + _ ≤ _; exact Nat.le_of_eq rfl) (hb hby at_50) (fun _ _ => ⟨rfl, e0, (by decide : 0 + 0 ≤ _), (by decide : 0 + 0 ≤ _)⟩)
  dsimp only [Pt.U, Pt.locs, Pt.cells, Pt.slots] at X1 l1 y1 z1 st1 hQ1
  subst y1 z1
  obtain ⟨rfl, Nq1, e1⟩ := hQ1
  have N1 : Fr n0 L1 := by rw [l1]; exact Fr.app N0 Nq1
  obtain ⟨T2, h2, k2, X2, e2, E2, A2, st2⟩ := newP X1 hx hZ (hw _ (List.mem_of_getElem? (i := 6) rfl)) e1 (g := (mkF m 63 #[.val (.int p1), .val (.int p2), .val (.int p3), .val (.int p4), .val (.long q5), .second, .val (.int p6), .val (.int (2 : Int32)), .val (.int (own_t0 q5)), .val (.int (own_t1 q5 (8 : Int32))), .val (.int (own_t1 q5 (16 : Int32))), .val (.int (1 : Int32)), .unset, .unset, .unset, .unset, .unset] [(.int (1 : Int32))])) rfl (hb hby at_63) rfl (by decide) (cap := 1) (by decide) (by decide) (by decide) (by decide)
  obtain ⟨b2, g2⟩ : ∃ z, z = h0.size := ⟨_, rfl⟩
  rw [← g2] at A2 st2
  have Kp3 : Keep h0 h2 [] := (Keep.refl h0 []).ext E2
  have Vh4 : Arv Z h2 b2 k2 .char (1 : Int32) [(.int (0 : Int32))] (.int (0 : Int32)) := (Arv.new A2 (by decide)).pad (pad_rep [] (.int (0 : Int32)) 1)
  obtain ⟨cl5, Ar5, qc5, Sz5, Ng5, Hs5, Gs5⟩ := id Vh4
  have hin5 : ¬ ((0 : Int32) < 0 ∨ cl5.slots.size ≤ ((0 : Int32)).toNatClampNeg) := inb_of Sz5 ⟨(by decide), (by decide)⟩
  obtain ⟨T6, h6, X6, e6, W6, st6⟩ := stC X2 hx hZ e2 Ar5 (j := (0 : Int32)) hin5 (g := (mkF m 69 #[.val (.int p1), .val (.int p2), .val (.int p3), .val (.int p4), .val (.long q5), .second, .val (.int p6), .val (.int (2 : Int32)), .val (.int (own_t0 q5)), .val (.int (own_t1 q5 (8 : Int32))), .val (.int (own_t1 q5 (16 : Int32))), .val (.int (1 : Int32)), .unset, .unset, .unset, .unset, .unset] [(.int (own_t0 q5)), (.int (0 : Int32)), (.ref b2), (.ref b2)])) rfl rfl (hb hby at_69)
  have Kp7 : Keep h0 h6 [] := Kp3.wr W6 (Or.inr (Nat.le_trans (Keep.refl h0 []).1 (Nat.le_of_eq g2.symm)))
  have gh8 : n0 ≤ b2 := Nat.le_trans Z0 (Nat.le_of_eq g2.symm)
  obtain ⟨Lp6, X6, N6⟩ := own_pack X6 (Fr.snoc X6 N1 gh8)
  have Vh9 : Arv Z h6 b2 k2 .char (1 : Int32) [(.int (own_n0 q5))] (.int (0 : Int32)) := (Arv.set Ar5 qc5 Sz5 Ng5 Hs5 Gs5 (fits_nar_char _) W6 0 rfl (Nat.le_of_ble_eq_true rfl))
  obtain ⟨T10, h10, X10, e10, E10, A10, D10, U10, st10⟩ := newO X6 hx hZ hown (hw _ (List.mem_of_getElem? (i := 7) rfl)) (hw _ (List.mem_of_getElem? (i := 8) rfl)) (hw _ (List.mem_of_getElem? (i := 9) rfl)) e6 (g := (mkF m 119 #[.val (.int p1), .val (.int p2), .val (.int p3), .val (.int p4), .val (.long q5), .second, .val (.int p6), .val (.int (2 : Int32)), .val (.int (own_t0 q5)), .val (.int (own_t1 q5 (8 : Int32))), .val (.int (own_t1 q5 (16 : Int32))), .val (.int (1 : Int32)), .val (.ref b2), .unset, .unset, .unset, .unset] [])) rfl (hb hby at_119) (by decide) (by decide)
  obtain ⟨b10, g10⟩ : ∃ z, z = h6.size := ⟨_, rfl⟩
  rw [← g10] at A10 D10 U10 st10
  have Kp11 : Keep h0 h10 [] := Kp7.ext E10
  have Fh12 : Fld Z h10 b10 "java/lang/String" "value" "[B" .null := (D10 (Or.inr (hw _ (List.mem_of_getElem? (i := 35) rfl))) (ty := (.array .byte)) (by decide))
  have Fh13 : Fld Z h10 b10 "java/lang/String" "coder" "B" (.int (0 : Int32)) := (D10 (Or.inr (hw _ (List.mem_of_getElem? (i := 33) rfl))) (ty := .byte) (by decide))
  have Vh14 : Arv Z h10 b2 k2 .char (1 : Int32) [(.int (own_n0 q5))] (.int (0 : Int32)) := (Vh9.ext E10)
  have hph15 : ∀ c ∈ ([(own_n0 q5)] : List Int32), ¬ c < 0 ∧ ¬ (255 : Int32) < c := (own_cS (own_rng_n0 q5) own_c0)
  have hws_words : ∀ d ∈ StrChars.Road.words, d.before a0 Z = true := fun d hd => hw d (own_hws_words d hd)
  have Zh16 : n0 ≤ h10.size := (Nat.le_trans Z0 Kp11.1)
  have gh17 : n0 ≤ b10 := Nat.le_trans (Nat.le_trans Z0 Kp7.1) (Nat.le_of_eq g10.symm)
  have Old18 : Old Z n0 h2 := X00.ext E2
  have Old19 : Old Z n0 h6 := Old18.wr W6 gh8
  have Old20 : Old Z n0 h10 := Old19.ext E10
  obtain ⟨_, _, ⟨T21, L21, k21, n21⟩, -, X21, ⟨Lc21, hQ21, l21, y21, z21⟩, st21⟩ := X10.specialBack hx (y := (⟨"java/lang/String", "<init>", "([C)V"⟩ : MethodName)) rfl hown (mvT hZ (hw _ (List.mem_of_getElem? (i := 10) rfl))) (mvT hZ (hw _ (List.mem_of_getElem? (i := 11) rfl))) (mvT hZ (hw _ (List.mem_of_getElem? (i := 12) rfl))) (by decide) (StrChars.Road.backV (W := 1) hZ hws_words (kI := 4) (hw _ (List.mem_of_getElem? (i := 8) rfl)) (cs := ([(own_n0 q5)] : List Int32)) (bs := ([(own_n0 q5)] : List Int32).map (fun c => c.toInt8.toInt32)) (n := 1) gh17 Zh16 A10 Fh12 Fh13 Vh14 (O_CS.ext Old20.2) P_CS rfl rfl (by decide) (by decide) hph15 rfl (by decide) (by decide)) (g := (mkF m 125 #[.val (.int p1), .val (.int p2), .val (.int p3), .val (.int p4), .val (.long q5), .second, .val (.int p6), .val (.int (2 : Int32)), .val (.int (own_t0 q5)), .val (.int (own_t1 q5 (8 : Int32))), .val (.int (own_t1 q5 (16 : Int32))), .val (.int (1 : Int32)), .val (.ref b2), .unset, .unset, .unset, .unset] [(.ref b2), (.ref b10), (.ref b10)])) rfl (by rw [hml]; rfl) (Steps.refl _) (a := b10) (argsL := [(.ref b2)]) (rest := [(.ref b10)]) (lenOf own_pd12 rfl) rfl (by show 2 * 0 + _ ≤ _; exact Nat.le_of_eq rfl) (hb hby at_125) (fun _ _ => ⟨rfl, e10, (by decide : 2 + 1 ≤ _), (by decide : 5 + 1 ≤ _)⟩)
  dsimp only [Pt.U, Pt.locs, Pt.cells, Pt.slots] at X21 l21 y21 z21 st21 hQ21
  subst y21 z21
  obtain ⟨rfl, Nq21, Kq21, Eq21, Cq21, t21, kb21, gt21, szt21, nt21, Vq21, Bq21⟩ := hQ21
  have N21 : Fr n0 L21 := by rw [l21]; exact Fr.app N6 Nq21
  have Kp22 : Keep h0 T21.heap [] := Kp11.trans Kq21 (allS (Or.inr (Nat.le_trans Kp7.1 (Nat.le_of_eq g10.symm))) all0)
  obtain ⟨T23, h23, X23, e23, E23, A23, D23, U23, st23⟩ := newO X21 hx hZ hown (hw _ (List.mem_of_getElem? (i := 36) rfl)) (hw _ (List.mem_of_getElem? (i := 37) rfl)) (hw _ (List.mem_of_getElem? (i := 38) rfl)) rfl (g := (mkF m 143 #[.val (.int p1), .val (.int p2), .val (.int p3), .val (.int p4), .val (.long q5), .second, .val (.int p6), .val (.int (2 : Int32)), .val (.int (own_t0 q5)), .val (.int (own_t1 q5 (8 : Int32))), .val (.int (own_t1 q5 (16 : Int32))), .val (.int (1 : Int32)), .val (.ref b2), .val (.ref b10), .unset, .unset, .unset] [])) rfl (hb hby at_143) (by decide) (by decide)
  obtain ⟨b23, g23⟩ : ∃ z, z = T21.heap.size := ⟨_, rfl⟩
  rw [← g23] at A23 D23 U23 st23
  have Kp24 : Keep h0 h23 [] := Kp22.ext E23
  have Eh25 : Exa Z h23 b10 "java/lang/String" := (Eq21.ext E23)
  have Fh26 : Fld Z h23 b10 "java/lang/String" "value" "[B" (.ref t21) := (Vq21.ext E23)
  have Fh27 : Fld Z h23 b10 "java/lang/String" "coder" "B" (.int (0 : Int32)) := (Cq21.ext E23)
  have Vh28 : Arv Z h23 t21 kb21 .byte (1 : Int32) ((([(own_n0 q5)] : List Int32).map (fun c => c.toInt8.toInt32)).map Value.int) (.int (0 : Int32)) := (Bq21.ext E23)
  have Fh29 : Fld Z h23 b23 "com/example/leftmost/leftmost/grammar/Symbol" "name" "Ljava/lang/String;" .null := (D23 (Or.inr (hw _ (List.mem_of_getElem? (i := 61) rfl))) (ty := (.object "java/lang/String")) (by decide))
  have gh30 : n0 ≤ b23 := Nat.le_trans (Nat.le_trans Z0 Kp22.1) (Nat.le_of_eq g23.symm)
  have Fh31 : Fld Z h23 b23 "com/example/leftmost/leftmost/grammar/Symbol" "isVariable" "Z" (.int (0 : Int32)) := (D23 (Or.inr (hw _ (List.mem_of_getElem? (i := 63) rfl))) (ty := .boolean) (by decide))
  have Old32 : Old Z n0 T21.heap := Old20.keep Kq21 (allS gh17 all0)
  have Old33 : Old Z n0 h23 := Old32.ext E23
  obtain ⟨_, _, ⟨T34, L34, k34, n34⟩, -, X34, hSq34, hgr34, ⟨Lc34, hQ34, l34, y34, z34⟩, st34⟩ := X23.specialBackS hx (y := (⟨"com/example/leftmost/leftmost/grammar/Symbol", "<init>", "(Ljava/lang/String;Z)V"⟩ : MethodName)) rfl hown (mvT hZ (hw _ (List.mem_of_getElem? (i := 39) rfl))) (mvT hZ (hw _ (List.mem_of_getElem? (i := 40) rfl))) (mvT hZ (hw _ (List.mem_of_getElem? (i := 41) rfl))) (by decide) (backOfS (W := 1) (own_rm_sym1 l Z a0 hw [] G1 k_EMPTY gl b23 b10 (0 : Int32) (own_n0 q5) t21 (kb21) (.null) ((.int (0 : Int32))) h23 n0 (Nat.le_trans Z0 Kp24.1) Old33 Eh25 Fh26 Fh27 Vh28 hph15 A23 Fh29 gh30 Fh31) hZ (hw _ (List.mem_of_getElem? (i := 41) rfl)) (hw _ (List.mem_of_getElem? (i := 38) rfl)) (by decide) (by decide)) (g := (mkF m 160 #[.val (.int p1), .val (.int p2), .val (.int p3), .val (.int p4), .val (.long q5), .second, .val (.int p6), .val (.int (2 : Int32)), .val (.int (own_t0 q5)), .val (.int (own_t1 q5 (8 : Int32))), .val (.int (own_t1 q5 (16 : Int32))), .val (.int (1 : Int32)), .val (.ref b2), .val (.ref b10), .unset, .unset, .unset] [(.int (0 : Int32)), (.ref b10), (.ref b23), (.ref b23)])) rfl (by rw [hml]; rfl) (Steps.refl _) (a := b23) (argsL := [(.ref b10), (.int (0 : Int32))]) (rest := [(.ref b23)]) (lenOf own_pd16 rfl) rfl (by show 2 * 0 + _ ≤ _; exact Nat.le_of_eq rfl) (hb hby at_160) (fun _ _ => ⟨rfl, e23, (by decide : 4 + 2 ≤ _), (by decide : 8 + 20 ≤ _)⟩)
  dsimp only [Pt.U, Pt.locs, Pt.cells, Pt.slots] at X34 l34 y34 z34 st34 hQ34 hSq34 hgr34
  subst y34 z34
  obtain ⟨Xw34, hS34, hZ34, hown34⟩ := rebS (vm0 := s.vm) ((State.WarmedH.refl s).since 0) (by rw [e23]; exact (Nat.zero_le _)) X34 hSq34 hgr34 hZ hown
  obtain ⟨rfl, Nq34, Kq34, f34_0, f34_1, f34_2⟩ := hQ34
  have N34 : Fr n0 L34 := by rw [l34]; exact Fr.app N21 Nq34
  have Kp35 : Keep h0 T34.heap [] := Kp24.trans Kq34 (allS (Or.inr (Nat.le_trans Kp22.1 (Nat.le_of_eq g23.symm))) all0)
  obtain ⟨_, _, ⟨T36, L36, k36, n36⟩, -, X36, ⟨Lc36, hQ36, l36, y36, z36⟩, st36⟩ := Jvm.LawKit.callS Xw34 hx (y := (⟨"java/util/Optional", "of", "(Ljava/lang/Object;)Ljava/util/Optional;"⟩ : MethodName)) hown34 (mvT hZ34 (hw _ (List.mem_of_getElem? (i := 64) rfl))) (mvT hZ34 (hw _ (List.mem_of_getElem? (i := 65) rfl))) (mvT hZ34 (hw _ (List.mem_of_getElem? (i := 66) rfl))) (mvT hZ34 (hw _ (List.mem_of_getElem? (i := 67) rfl))) (by decide) (backOf (W := 0) (own_rm_of l Z a0 hw [] G1 k_EMPTY gl b23 T34.heap n0 (Nat.le_trans Z0 Kp35.1) ) hZ34 (hw _ (List.mem_of_getElem? (i := 67) rfl)) (hw _ (List.mem_of_getElem? (i := 66) rfl)) (by decide) (by decide)) (g := (mkF m 163 #[.val (.int p1), .val (.int p2), .val (.int p3), .val (.int p4), .val (.long q5), .second, .val (.int p6), .val (.int (2 : Int32)), .val (.int (own_t0 q5)), .val (.int (own_t1 q5 (8 : Int32))), .val (.int (own_t1 q5 (16 : Int32))), .val (.int (1 : Int32)), .val (.ref b2), .val (.ref b10), .unset, .unset, .unset] [(.ref b23)])) rfl (by rw [hml]; rfl) (argsL := [(.ref b23)]) (rest := []) (lenOf own_pd17 rfl) rfl (by show 2 * 0 + _ ≤ _; exact Nat.le_of_eq rfl) (hb hby at_163) (fun _ _ => ⟨rfl, rfl, (by decide : 6 + 1 ≤ _), (by decide : 28 + 1 ≤ _)⟩)
  dsimp only [Pt.U, Pt.locs, Pt.cells, Pt.slots] at X36 l36 y36 z36 st36 hQ36
  subst y36 z36
  obtain ⟨b1_36, rfl, Nq36, Kq36, f36_0, f36_1, f36_2⟩ := hQ36
  have N36 : Fr n0 L36 := by rw [l36]; exact Fr.app N34 Nq36
  have Kp37 : Keep h0 T36.heap [] := Kp35.trans Kq36 all0
  obtain ⟨T38, h38, X38, e38, E38, A38, D38, U38, st38⟩ := newO X36 hx hZ34 hown34 (hw _ (List.mem_of_getElem? (i := 80) rfl)) (hw _ (List.mem_of_getElem? (i := 81) rfl)) (hw _ (List.mem_of_getElem? (i := 82) rfl)) rfl (g := (mkF m 168 #[.val (.int p1), .val (.int p2), .val (.int p3), .val (.int p4), .val (.long q5), .second, .val (.int p6), .val (.int (2 : Int32)), .val (.int (own_t0 q5)), .val (.int (own_t1 q5 (8 : Int32))), .val (.int (own_t1 q5 (16 : Int32))), .val (.int (1 : Int32)), .val (.ref b2), .val (.ref b10), .val (.ref b1_36), .unset, .unset] [])) rfl (hb hby at_168) (by decide) (by decide)
  obtain ⟨b38, g38⟩ : ∃ z, z = T36.heap.size := ⟨_, rfl⟩
  rw [← g38] at A38 D38 U38 st38
  have Kp39 : Keep h0 h38 [] := Kp37.ext E38
  have Fh40 : Fld Z h38 b38 "com/example/leftmost/leftmost/tree/ParseTree$Node" "index" "I" (.int (0 : Int32)) := (D38 (Or.inr (hw _ (List.mem_of_getElem? (i := 88) rfl))) (ty := .int) (by decide))
  have gh41 : n0 ≤ b38 := Nat.le_trans (Nat.le_trans Z0 Kp37.1) (Nat.le_of_eq g38.symm)
  have Fh42 : Fld Z h38 b38 "com/example/leftmost/leftmost/tree/ParseTree$Node" "parent" "I" (.int (0 : Int32)) := (D38 (Or.inr (hw _ (List.mem_of_getElem? (i := 90) rfl))) (ty := .int) (by decide))
  have Fh43 : Fld Z h38 b38 "com/example/leftmost/leftmost/tree/ParseTree$Node" "depth" "I" (.int (0 : Int32)) := (D38 (Or.inr (hw _ (List.mem_of_getElem? (i := 92) rfl))) (ty := .int) (by decide))
  have Fh44 : Fld Z h38 b38 "com/example/leftmost/leftmost/tree/ParseTree$Node" "symbol" "Ljava/util/Optional;" .null := (D38 (Or.inr (hw _ (List.mem_of_getElem? (i := 94) rfl))) (ty := (.object "java/util/Optional")) (by decide))
  obtain ⟨_, _, ⟨T45, L45, k45, n45⟩, -, X45, ⟨Lc45, hQ45, l45, y45, z45⟩, st45⟩ := X38.specialBack hx (y := (⟨"com/example/leftmost/leftmost/tree/ParseTree$Node", "<init>", "(IIILjava/util/Optional;)V"⟩ : MethodName)) rfl hown34 (mvT hZ34 (hw _ (List.mem_of_getElem? (i := 83) rfl))) (mvT hZ34 (hw _ (List.mem_of_getElem? (i := 84) rfl))) (mvT hZ34 (hw _ (List.mem_of_getElem? (i := 85) rfl))) (by decide) (backOf (W := 1) (own_rm_node l Z a0 hw [] G1 k_EMPTY gl b38 p1 p2 p3 b1_36 ((.int (0 : Int32))) ((.int (0 : Int32))) ((.int (0 : Int32))) (.null) h38 n0 (Nat.le_trans Z0 Kp39.1) A38 Fh40 gh41 Fh42 Fh43 Fh44) hZ34 (hw _ (List.mem_of_getElem? (i := 85) rfl)) (hw _ (List.mem_of_getElem? (i := 82) rfl)) (by decide) (by decide)) (g := (mkF m 177 #[.val (.int p1), .val (.int p2), .val (.int p3), .val (.int p4), .val (.long q5), .second, .val (.int p6), .val (.int (2 : Int32)), .val (.int (own_t0 q5)), .val (.int (own_t1 q5 (8 : Int32))), .val (.int (own_t1 q5 (16 : Int32))), .val (.int (1 : Int32)), .val (.ref b2), .val (.ref b10), .val (.ref b1_36), .unset, .unset] [(.ref b1_36), (.int p3), (.int p2), (.int p1), (.ref b38), (.ref b38)])) rfl (by rw [hml]; rfl) (Steps.refl _) (a := b38) (argsL := [(.int p1), (.int p2), (.int p3), (.ref b1_36)]) (rest := [(.ref b38)]) (lenOf own_pd14 rfl) rfl (by show 2 * 0 + _ ≤ _; exact Nat.le_of_eq rfl) (hb hby at_177) (fun _ _ => ⟨rfl, e38, (by decide : 8 + 0 ≤ _), (by decide : 33 + 0 ≤ _)⟩)
  dsimp only [Pt.U, Pt.locs, Pt.cells, Pt.slots] at X45 l45 y45 z45 st45 hQ45
  subst y45 z45
  obtain ⟨rfl, Nq45, Kq45, f45_0, f45_1, f45_2, f45_3, f45_4⟩ := hQ45
  have N45 : Fr n0 L45 := by rw [l45]; exact Fr.app N36 Nq45
  have Kp46 : Keep h0 T45.heap [] := Kp39.trans Kq45 (allS (Or.inr (Nat.le_trans Kp37.1 (Nat.le_of_eq g38.symm))) all0)
  have Eh47 : Exa Z T45.heap b1_36 "java/util/Optional" := ((f36_1.ext E38).keep Kq45)
  have Fh48 : Fld Z T45.heap b1_36 "java/util/Optional" "value" "Ljava/lang/Object;" (.ref b23) := ((f36_2.ext E38).keep Kq45 (ninS (Nat.ne_of_lt (Nat.lt_of_lt_of_le f36_1.lt (Nat.le_of_eq g38.symm))) nin0))
  have Eh49 : Exa Z T45.heap b23 "com/example/leftmost/leftmost/grammar/Symbol" := (((f34_0.keep Kq36).ext E38).keep Kq45)
  have Fh50 : Fld Z T45.heap b23 "com/example/leftmost/leftmost/grammar/Symbol" "isVariable" "Z" (.int (0 : Int32)) := (((f34_2.keep Kq36 nin0).ext E38).keep Kq45 (ninS (Nat.ne_of_lt (Nat.lt_of_lt_of_le (f34_0.keep Kq36).lt (Nat.le_of_eq g38.symm))) nin0))
  obtain ⟨cq51, kq51, q51a, q51b, q51c⟩ := isOf hZ34 rfl f45_0
  obtain ⟨_, _, ⟨T51, L51, k51, n51⟩, -, X51, ⟨Lc51, hQ51, l51, y51, z51⟩, st51⟩ := X45.virtualBack hx (y := (⟨"com/example/leftmost/leftmost/tree/ParseTree$Node", "isLeaf", "()Z"⟩ : MethodName)) (z := (⟨"com/example/leftmost/leftmost/tree/ParseTree$Node", "isLeaf", "()Z"⟩ : MethodName)) hown34 (mvT hZ34 (hw _ (List.mem_of_getElem? (i := 95) rfl))) (mvT hZ34 (hw _ (List.mem_of_getElem? (i := 96) rfl))) (notFace_of_selects (args := #[]) (mvT hZ34 (hw _ (List.mem_of_getElem? (i := 98) rfl)))) (mvT hZ34 (hw _ (List.mem_of_getElem? (i := 98) rfl))) (mvT hZ34 (hw _ (List.mem_of_getElem? (i := 97) rfl))) (by decide) (backOf (W := 0) (own_rm_leaf0 l Z a0 hw [] G1 k_EMPTY gl b38 b1_36 b23 T45.heap n0 (Nat.le_trans Z0 Kp46.1) f45_4 Eh47 Fh48 Eh49 Fh50) hZ34 (hw _ (List.mem_of_getElem? (i := 99) rfl)) (hw _ (List.mem_of_getElem? (i := 82) rfl)) (by decide) (by decide)) q51a q51c (g := (mkF m 197 #[.val (.int p1), .val (.int p2), .val (.int p3), .val (.int p4), .val (.long q5), .second, .val (.int p6), .val (.int (2 : Int32)), .val (.int (own_t0 q5)), .val (.int (own_t1 q5 (8 : Int32))), .val (.int (own_t1 q5 (16 : Int32))), .val (.int (1 : Int32)), .val (.ref b2), .val (.ref b10), .val (.ref b1_36), .val (.ref b38), .val (.int (1 : Int32))] [(.ref b38)])) rfl (by rw [hml]; rfl) (Steps.refl _) (argsL := []) (rest := []) (lenOf own_pd7 rfl) rfl (by show 2 * 0 + _ ≤ _; exact Nat.le_of_eq rfl) (hb hby at_197) (fun _ _ => ⟨rfl, rfl, (by decide : 8 + 0 ≤ _), (by decide : 33 + 0 ≤ _)⟩)
  dsimp only [Pt.U, Pt.locs, Pt.cells, Pt.slots] at X51 l51 y51 z51 st51 hQ51
  subst y51 z51
  obtain ⟨rfl, Nq51, e51⟩ := hQ51
  have N51 : Fr n0 L51 := by rw [l51]; exact Fr.app N45 Nq51
  obtain ⟨fs, hr, hrun, hended, hREW⟩ := X51.leaveW hS34 (by rw [e51]; exact (Nat.le_trans (Nat.le_refl _) (Nat.le_trans (Nat.le_trans Kq36.1 E38.1) Kq45.1))) (v := some (.int (1 : Int32))) (fun h => by rw [Bd.returns] at h; cases h)
  refine ⟨_, _, pre0 _ ?_, hrun, hended, _, _, rfl, ?_, hREW.1, hREW.2.1, hREW.2.2.1, hREW.2.2.2.mono (by decide) (by decide)⟩
  · show Steps p.tables e below (s₁.setTop (mkF m 0 #[.val (.int p1), .val (.int p2), .val (.int p3), .val (.int p4), .val (.long q5), .second, .val (.int p6), .unset, .unset, .unset, .unset, .unset, .unset, .unset, .unset, .unset, .unset] [])) _
    refine XS.iloadN X0.here hx rfl (hb hby at_0) rfl ?_
    show Steps p.tables e below (s₁.setTop (mkF m 1 #[.val (.int p1), .val (.int p2), .val (.int p3), .val (.int p4), .val (.long q5), .second, .val (.int p6), .unset, .unset, .unset, .unset, .unset, .unset, .unset, .unset, .unset, .unset] [(.int p4)])) _
    refine X0.ldcInt hx hown (mvT hZ (hw _ (List.mem_of_getElem? (i := 0) rfl))) (g := (mkF m 1 #[.val (.int p1), .val (.int p2), .val (.int p3), .val (.int p4), .val (.long q5), .second, .val (.int p6), .unset, .unset, .unset, .unset, .unset, .unset, .unset, .unset, .unset, .unset] [(.int p4)])) rfl (hb hby at_1) _ ?_
    show Steps p.tables e below (s₁.setTop (mkF m 3 #[.val (.int p1), .val (.int p2), .val (.int p3), .val (.int p4), .val (.long q5), .second, .val (.int p6), .unset, .unset, .unset, .unset, .unset, .unset, .unset, .unset, .unset, .unset] [(.int (2147483647 : Int32)), (.int p4)])) _
    refine XS.iand X0.here hx rfl (hb hby at_3) rfl ?_
    show Steps p.tables e below (s₁.setTop (mkF m 4 #[.val (.int p1), .val (.int p2), .val (.int p3), .val (.int p4), .val (.long q5), .second, .val (.int p6), .unset, .unset, .unset, .unset, .unset, .unset, .unset, .unset, .unset, .unset] [(.int (p4 &&& (2147483647 : Int32)))])) _
    refine XS.iconst X0.here hx rfl (hb hby at_4) ?_
    show Steps p.tables e below (s₁.setTop (mkF m 5 #[.val (.int p1), .val (.int p2), .val (.int p3), .val (.int p4), .val (.long q5), .second, .val (.int p6), .unset, .unset, .unset, .unset, .unset, .unset, .unset, .unset, .unset, .unset] [(.int (3 : Int32)), (.int (p4 &&& (2147483647 : Int32)))])) _
    refine iremM X0 hx rfl (hb hby at_5) rfl (by decide) ?_
    show Steps p.tables e below (s₁.setTop (mkF m 6 #[.val (.int p1), .val (.int p2), .val (.int p3), .val (.int p4), .val (.long q5), .second, .val (.int p6), .unset, .unset, .unset, .unset, .unset, .unset, .unset, .unset, .unset, .unset] [(.int (own_kd p4))])) _
    rw [hk]
    show Steps p.tables e below (s₁.setTop (mkF m 6 #[.val (.int p1), .val (.int p2), .val (.int p3), .val (.int p4), .val (.long q5), .second, .val (.int p6), .unset, .unset, .unset, .unset, .unset, .unset, .unset, .unset, .unset, .unset] [(.int (2 : Int32))])) _
    refine XS.istore X0.here hx rfl (hb hby at_6) rfl (l' := #[.val (.int p1), .val (.int p2), .val (.int p3), .val (.int p4), .val (.long q5), .second, .val (.int p6), .val (.int (2 : Int32)), .unset, .unset, .unset, .unset, .unset, .unset, .unset, .unset, .unset]) rfl ?_
    show Steps p.tables e below (s₁.setTop (mkF m 8 #[.val (.int p1), .val (.int p2), .val (.int p3), .val (.int p4), .val (.long q5), .second, .val (.int p6), .val (.int (2 : Int32)), .unset, .unset, .unset, .unset, .unset, .unset, .unset, .unset, .unset] [])) _
    refine XS.lload X0.here hx rfl (hb hby at_8) rfl ?_
    show Steps p.tables e below (s₁.setTop (mkF m 10 #[.val (.int p1), .val (.int p2), .val (.int p3), .val (.int p4), .val (.long q5), .second, .val (.int p6), .val (.int (2 : Int32)), .unset, .unset, .unset, .unset, .unset, .unset, .unset, .unset, .unset] [(.long q5)])) _
    refine X0.ldc2Long hx hown (mvT hZ (hw _ (List.mem_of_getElem? (i := 1) rfl))) (g := (mkF m 10 #[.val (.int p1), .val (.int p2), .val (.int p3), .val (.int p4), .val (.long q5), .second, .val (.int p6), .val (.int (2 : Int32)), .unset, .unset, .unset, .unset, .unset, .unset, .unset, .unset, .unset] [(.long q5)])) rfl (hb hby at_10) _ ?_
    show Steps p.tables e below (s₁.setTop (mkF m 13 #[.val (.int p1), .val (.int p2), .val (.int p3), .val (.int p4), .val (.long q5), .second, .val (.int p6), .val (.int (2 : Int32)), .unset, .unset, .unset, .unset, .unset, .unset, .unset, .unset, .unset] [(.long (255 : Int64)), (.long q5)])) _
    refine XS.land X0.here hx rfl (hb hby at_13) rfl ?_
    show Steps p.tables e below (s₁.setTop (mkF m 14 #[.val (.int p1), .val (.int p2), .val (.int p3), .val (.int p4), .val (.long q5), .second, .val (.int p6), .val (.int (2 : Int32)), .unset, .unset, .unset, .unset, .unset, .unset, .unset, .unset, .unset] [(.long (q5 &&& (255 : Int64)))])) _
    refine XS.l2i X0.here hx rfl (hb hby at_14) rfl ?_
    show Steps p.tables e below (s₁.setTop (mkF m 15 #[.val (.int p1), .val (.int p2), .val (.int p3), .val (.int p4), .val (.long q5), .second, .val (.int p6), .val (.int (2 : Int32)), .unset, .unset, .unset, .unset, .unset, .unset, .unset, .unset, .unset] [(.int ((q5 &&& (255 : Int64)).toInt32))])) _
    refine XS.i2c X0.here hx rfl (hb hby at_15) rfl ?_
    show Steps p.tables e below (s₁.setTop (mkF m 16 #[.val (.int p1), .val (.int p2), .val (.int p3), .val (.int p4), .val (.long q5), .second, .val (.int p6), .val (.int (2 : Int32)), .unset, .unset, .unset, .unset, .unset, .unset, .unset, .unset, .unset] [(.int (own_t0 q5))])) _
    refine XS.istore X0.here hx rfl (hb hby at_16) rfl (l' := #[.val (.int p1), .val (.int p2), .val (.int p3), .val (.int p4), .val (.long q5), .second, .val (.int p6), .val (.int (2 : Int32)), .val (.int (own_t0 q5)), .unset, .unset, .unset, .unset, .unset, .unset, .unset, .unset]) rfl ?_
    show Steps p.tables e below (s₁.setTop (mkF m 18 #[.val (.int p1), .val (.int p2), .val (.int p3), .val (.int p4), .val (.long q5), .second, .val (.int p6), .val (.int (2 : Int32)), .val (.int (own_t0 q5)), .unset, .unset, .unset, .unset, .unset, .unset, .unset, .unset] [])) _
    refine XS.lload X0.here hx rfl (hb hby at_18) rfl ?_
    show Steps p.tables e below (s₁.setTop (mkF m 20 #[.val (.int p1), .val (.int p2), .val (.int p3), .val (.int p4), .val (.long q5), .second, .val (.int p6), .val (.int (2 : Int32)), .val (.int (own_t0 q5)), .unset, .unset, .unset, .unset, .unset, .unset, .unset, .unset] [(.long q5)])) _
    refine XS.bipush X0.here hx rfl (hb hby at_20) ?_
    show Steps p.tables e below (s₁.setTop (mkF m 22 #[.val (.int p1), .val (.int p2), .val (.int p3), .val (.int p4), .val (.long q5), .second, .val (.int p6), .val (.int (2 : Int32)), .val (.int (own_t0 q5)), .unset, .unset, .unset, .unset, .unset, .unset, .unset, .unset] [(.int (8 : Int32)), (.long q5)])) _
    refine XS.lushr X0.here hx rfl (hb hby at_22) rfl ?_
    show Steps p.tables e below (s₁.setTop (mkF m 23 #[.val (.int p1), .val (.int p2), .val (.int p3), .val (.int p4), .val (.long q5), .second, .val (.int p6), .val (.int (2 : Int32)), .val (.int (own_t0 q5)), .unset, .unset, .unset, .unset, .unset, .unset, .unset, .unset] [(.long ((q5.toUInt64 >>> ((8 : Int32) &&& 0x3f).toInt64.toUInt64).toInt64))])) _
    refine X0.ldc2Long hx hown (mvT hZ (hw _ (List.mem_of_getElem? (i := 1) rfl))) (g := (mkF m 23 #[.val (.int p1), .val (.int p2), .val (.int p3), .val (.int p4), .val (.long q5), .second, .val (.int p6), .val (.int (2 : Int32)), .val (.int (own_t0 q5)), .unset, .unset, .unset, .unset, .unset, .unset, .unset, .unset] [(.long ((q5.toUInt64 >>> ((8 : Int32) &&& 0x3f).toInt64.toUInt64).toInt64))])) rfl (hb hby at_23) _ ?_
    show Steps p.tables e below (s₁.setTop (mkF m 26 #[.val (.int p1), .val (.int p2), .val (.int p3), .val (.int p4), .val (.long q5), .second, .val (.int p6), .val (.int (2 : Int32)), .val (.int (own_t0 q5)), .unset, .unset, .unset, .unset, .unset, .unset, .unset, .unset] [(.long (255 : Int64)), (.long ((q5.toUInt64 >>> ((8 : Int32) &&& 0x3f).toInt64.toUInt64).toInt64))])) _
    refine XS.land X0.here hx rfl (hb hby at_26) rfl ?_
    show Steps p.tables e below (s₁.setTop (mkF m 27 #[.val (.int p1), .val (.int p2), .val (.int p3), .val (.int p4), .val (.long q5), .second, .val (.int p6), .val (.int (2 : Int32)), .val (.int (own_t0 q5)), .unset, .unset, .unset, .unset, .unset, .unset, .unset, .unset] [(.long (((q5.toUInt64 >>> ((8 : Int32) &&& 0x3f).toInt64.toUInt64).toInt64) &&& (255 : Int64)))])) _
    refine XS.l2i X0.here hx rfl (hb hby at_27) rfl ?_
    show Steps p.tables e below (s₁.setTop (mkF m 28 #[.val (.int p1), .val (.int p2), .val (.int p3), .val (.int p4), .val (.long q5), .second, .val (.int p6), .val (.int (2 : Int32)), .val (.int (own_t0 q5)), .unset, .unset, .unset, .unset, .unset, .unset, .unset, .unset] [(.int ((((q5.toUInt64 >>> ((8 : Int32) &&& 0x3f).toInt64.toUInt64).toInt64) &&& (255 : Int64)).toInt32))])) _
    refine XS.i2c X0.here hx rfl (hb hby at_28) rfl ?_
    show Steps p.tables e below (s₁.setTop (mkF m 29 #[.val (.int p1), .val (.int p2), .val (.int p3), .val (.int p4), .val (.long q5), .second, .val (.int p6), .val (.int (2 : Int32)), .val (.int (own_t0 q5)), .unset, .unset, .unset, .unset, .unset, .unset, .unset, .unset] [(.int (own_t1 q5 (8 : Int32)))])) _
    refine XS.istore X0.here hx rfl (hb hby at_29) rfl (l' := #[.val (.int p1), .val (.int p2), .val (.int p3), .val (.int p4), .val (.long q5), .second, .val (.int p6), .val (.int (2 : Int32)), .val (.int (own_t0 q5)), .val (.int (own_t1 q5 (8 : Int32))), .unset, .unset, .unset, .unset, .unset, .unset, .unset]) rfl ?_
    show Steps p.tables e below (s₁.setTop (mkF m 31 #[.val (.int p1), .val (.int p2), .val (.int p3), .val (.int p4), .val (.long q5), .second, .val (.int p6), .val (.int (2 : Int32)), .val (.int (own_t0 q5)), .val (.int (own_t1 q5 (8 : Int32))), .unset, .unset, .unset, .unset, .unset, .unset, .unset] [])) _
    refine XS.lload X0.here hx rfl (hb hby at_31) rfl ?_
    show Steps p.tables e below (s₁.setTop (mkF m 33 #[.val (.int p1), .val (.int p2), .val (.int p3), .val (.int p4), .val (.long q5), .second, .val (.int p6), .val (.int (2 : Int32)), .val (.int (own_t0 q5)), .val (.int (own_t1 q5 (8 : Int32))), .unset, .unset, .unset, .unset, .unset, .unset, .unset] [(.long q5)])) _
    refine XS.bipush X0.here hx rfl (hb hby at_33) ?_
    show Steps p.tables e below (s₁.setTop (mkF m 35 #[.val (.int p1), .val (.int p2), .val (.int p3), .val (.int p4), .val (.long q5), .second, .val (.int p6), .val (.int (2 : Int32)), .val (.int (own_t0 q5)), .val (.int (own_t1 q5 (8 : Int32))), .unset, .unset, .unset, .unset, .unset, .unset, .unset] [(.int (16 : Int32)), (.long q5)])) _
    refine XS.lushr X0.here hx rfl (hb hby at_35) rfl ?_
    show Steps p.tables e below (s₁.setTop (mkF m 36 #[.val (.int p1), .val (.int p2), .val (.int p3), .val (.int p4), .val (.long q5), .second, .val (.int p6), .val (.int (2 : Int32)), .val (.int (own_t0 q5)), .val (.int (own_t1 q5 (8 : Int32))), .unset, .unset, .unset, .unset, .unset, .unset, .unset] [(.long ((q5.toUInt64 >>> ((16 : Int32) &&& 0x3f).toInt64.toUInt64).toInt64))])) _
    refine X0.ldc2Long hx hown (mvT hZ (hw _ (List.mem_of_getElem? (i := 1) rfl))) (g := (mkF m 36 #[.val (.int p1), .val (.int p2), .val (.int p3), .val (.int p4), .val (.long q5), .second, .val (.int p6), .val (.int (2 : Int32)), .val (.int (own_t0 q5)), .val (.int (own_t1 q5 (8 : Int32))), .unset, .unset, .unset, .unset, .unset, .unset, .unset] [(.long ((q5.toUInt64 >>> ((16 : Int32) &&& 0x3f).toInt64.toUInt64).toInt64))])) rfl (hb hby at_36) _ ?_
    show Steps p.tables e below (s₁.setTop (mkF m 39 #[.val (.int p1), .val (.int p2), .val (.int p3), .val (.int p4), .val (.long q5), .second, .val (.int p6), .val (.int (2 : Int32)), .val (.int (own_t0 q5)), .val (.int (own_t1 q5 (8 : Int32))), .unset, .unset, .unset, .unset, .unset, .unset, .unset] [(.long (255 : Int64)), (.long ((q5.toUInt64 >>> ((16 : Int32) &&& 0x3f).toInt64.toUInt64).toInt64))])) _
    refine XS.land X0.here hx rfl (hb hby at_39) rfl ?_
    show Steps p.tables e below (s₁.setTop (mkF m 40 #[.val (.int p1), .val (.int p2), .val (.int p3), .val (.int p4), .val (.long q5), .second, .val (.int p6), .val (.int (2 : Int32)), .val (.int (own_t0 q5)), .val (.int (own_t1 q5 (8 : Int32))), .unset, .unset, .unset, .unset, .unset, .unset, .unset] [(.long (((q5.toUInt64 >>> ((16 : Int32) &&& 0x3f).toInt64.toUInt64).toInt64) &&& (255 : Int64)))])) _
    refine XS.l2i X0.here hx rfl (hb hby at_40) rfl ?_
    show Steps p.tables e below (s₁.setTop (mkF m 41 #[.val (.int p1), .val (.int p2), .val (.int p3), .val (.int p4), .val (.long q5), .second, .val (.int p6), .val (.int (2 : Int32)), .val (.int (own_t0 q5)), .val (.int (own_t1 q5 (8 : Int32))), .unset, .unset, .unset, .unset, .unset, .unset, .unset] [(.int ((((q5.toUInt64 >>> ((16 : Int32) &&& 0x3f).toInt64.toUInt64).toInt64) &&& (255 : Int64)).toInt32))])) _
    refine XS.i2c X0.here hx rfl (hb hby at_41) rfl ?_
    show Steps p.tables e below (s₁.setTop (mkF m 42 #[.val (.int p1), .val (.int p2), .val (.int p3), .val (.int p4), .val (.long q5), .second, .val (.int p6), .val (.int (2 : Int32)), .val (.int (own_t0 q5)), .val (.int (own_t1 q5 (8 : Int32))), .unset, .unset, .unset, .unset, .unset, .unset, .unset] [(.int (own_t1 q5 (16 : Int32)))])) _
    refine XS.istore X0.here hx rfl (hb hby at_42) rfl (l' := #[.val (.int p1), .val (.int p2), .val (.int p3), .val (.int p4), .val (.long q5), .second, .val (.int p6), .val (.int (2 : Int32)), .val (.int (own_t0 q5)), .val (.int (own_t1 q5 (8 : Int32))), .val (.int (own_t1 q5 (16 : Int32))), .unset, .unset, .unset, .unset, .unset, .unset]) rfl ?_
    show Steps p.tables e below (s₁.setTop (mkF m 44 #[.val (.int p1), .val (.int p2), .val (.int p3), .val (.int p4), .val (.long q5), .second, .val (.int p6), .val (.int (2 : Int32)), .val (.int (own_t0 q5)), .val (.int (own_t1 q5 (8 : Int32))), .val (.int (own_t1 q5 (16 : Int32))), .unset, .unset, .unset, .unset, .unset, .unset] [])) _
    refine XS.iconst X0.here hx rfl (hb hby at_44) ?_
    show Steps p.tables e below (s₁.setTop (mkF m 45 #[.val (.int p1), .val (.int p2), .val (.int p3), .val (.int p4), .val (.long q5), .second, .val (.int p6), .val (.int (2 : Int32)), .val (.int (own_t0 q5)), .val (.int (own_t1 q5 (8 : Int32))), .val (.int (own_t1 q5 (16 : Int32))), .unset, .unset, .unset, .unset, .unset, .unset] [(.int (1 : Int32))])) _
    refine XS.iconst X0.here hx rfl (hb hby at_45) ?_
    show Steps p.tables e below (s₁.setTop (mkF m 46 #[.val (.int p1), .val (.int p2), .val (.int p3), .val (.int p4), .val (.long q5), .second, .val (.int p6), .val (.int (2 : Int32)), .val (.int (own_t0 q5)), .val (.int (own_t1 q5 (8 : Int32))), .val (.int (own_t1 q5 (16 : Int32))), .unset, .unset, .unset, .unset, .unset, .unset] [(.int (2 : Int32)), (.int (1 : Int32))])) _
    refine XS.iload X0.here hx rfl (hb hby at_46) rfl ?_
    show Steps p.tables e below (s₁.setTop (mkF m 48 #[.val (.int p1), .val (.int p2), .val (.int p3), .val (.int p4), .val (.long q5), .second, .val (.int p6), .val (.int (2 : Int32)), .val (.int (own_t0 q5)), .val (.int (own_t1 q5 (8 : Int32))), .val (.int (own_t1 q5 (16 : Int32))), .unset, .unset, .unset, .unset, .unset, .unset] [(.int p6), (.int (2 : Int32)), (.int (1 : Int32))])) _
    refine XS.iconst X0.here hx rfl (hb hby at_48) ?_
    show Steps p.tables e below (s₁.setTop (mkF m 49 #[.val (.int p1), .val (.int p2), .val (.int p3), .val (.int p4), .val (.long q5), .second, .val (.int p6), .val (.int (2 : Int32)), .val (.int (own_t0 q5)), .val (.int (own_t1 q5 (8 : Int32))), .val (.int (own_t1 q5 (16 : Int32))), .unset, .unset, .unset, .unset, .unset, .unset] [(.int (3 : Int32)), (.int p6), (.int (2 : Int32)), (.int (1 : Int32))])) _
    refine XS.iand X0.here hx rfl (hb hby at_49) rfl ?_
    show Steps p.tables e below (s₁.setTop (mkF m 50 #[.val (.int p1), .val (.int p2), .val (.int p3), .val (.int p4), .val (.long q5), .second, .val (.int p6), .val (.int (2 : Int32)), .val (.int (own_t0 q5)), .val (.int (own_t1 q5 (8 : Int32))), .val (.int (own_t1 q5 (16 : Int32))), .unset, .unset, .unset, .unset, .unset, .unset] [(.int (own_a3 p6)), (.int (2 : Int32)), (.int (1 : Int32))])) _
    rw [hn]
    show Steps p.tables e below (s₁.setTop (mkF m 50 #[.val (.int p1), .val (.int p2), .val (.int p3), .val (.int p4), .val (.long q5), .second, .val (.int p6), .val (.int (2 : Int32)), .val (.int (own_t0 q5)), .val (.int (own_t1 q5 (8 : Int32))), .val (.int (own_t1 q5 (16 : Int32))), .unset, .unset, .unset, .unset, .unset, .unset] [(.int (0 : Int32)), (.int (2 : Int32)), (.int (1 : Int32))])) _
    refine st1 _ ?_
    show Steps p.tables e below (T1.setTop (mkF m 53 #[.val (.int p1), .val (.int p2), .val (.int p3), .val (.int p4), .val (.long q5), .second, .val (.int p6), .val (.int (2 : Int32)), .val (.int (own_t0 q5)), .val (.int (own_t1 q5 (8 : Int32))), .val (.int (own_t1 q5 (16 : Int32))), .unset, .unset, .unset, .unset, .unset, .unset] [(.int (0 : Int32)), (.int (1 : Int32))])) _
    refine XS.iadd X1.here hx rfl (hb hby at_53) rfl ?_
    show Steps p.tables e below (T1.setTop (mkF m 54 #[.val (.int p1), .val (.int p2), .val (.int p3), .val (.int p4), .val (.long q5), .second, .val (.int p6), .val (.int (2 : Int32)), .val (.int (own_t0 q5)), .val (.int (own_t1 q5 (8 : Int32))), .val (.int (own_t1 q5 (16 : Int32))), .unset, .unset, .unset, .unset, .unset, .unset] [(.int (1 : Int32))])) _
    refine XS.istore X1.here hx rfl (hb hby at_54) rfl (l' := #[.val (.int p1), .val (.int p2), .val (.int p3), .val (.int p4), .val (.long q5), .second, .val (.int p6), .val (.int (2 : Int32)), .val (.int (own_t0 q5)), .val (.int (own_t1 q5 (8 : Int32))), .val (.int (own_t1 q5 (16 : Int32))), .val (.int (1 : Int32)), .unset, .unset, .unset, .unset, .unset]) rfl ?_
    show Steps p.tables e below (T1.setTop (mkF m 56 #[.val (.int p1), .val (.int p2), .val (.int p3), .val (.int p4), .val (.long q5), .second, .val (.int p6), .val (.int (2 : Int32)), .val (.int (own_t0 q5)), .val (.int (own_t1 q5 (8 : Int32))), .val (.int (own_t1 q5 (16 : Int32))), .val (.int (1 : Int32)), .unset, .unset, .unset, .unset, .unset] [])) _
    refine XS.iload X1.here hx rfl (hb hby at_56) rfl ?_
    show Steps p.tables e below (T1.setTop (mkF m 58 #[.val (.int p1), .val (.int p2), .val (.int p3), .val (.int p4), .val (.long q5), .second, .val (.int p6), .val (.int (2 : Int32)), .val (.int (own_t0 q5)), .val (.int (own_t1 q5 (8 : Int32))), .val (.int (own_t1 q5 (16 : Int32))), .val (.int (1 : Int32)), .unset, .unset, .unset, .unset, .unset] [(.int (1 : Int32))])) _
    refine XS.iconst X1.here hx rfl (hb hby at_58) ?_
    show Steps p.tables e below (T1.setTop (mkF m 59 #[.val (.int p1), .val (.int p2), .val (.int p3), .val (.int p4), .val (.long q5), .second, .val (.int p6), .val (.int (2 : Int32)), .val (.int (own_t0 q5)), .val (.int (own_t1 q5 (8 : Int32))), .val (.int (own_t1 q5 (16 : Int32))), .val (.int (1 : Int32)), .unset, .unset, .unset, .unset, .unset] [(.int (1 : Int32)), (.int (1 : Int32))])) _
    refine XS.icmpNo X1.here hx rfl (hb hby at_59) rfl (teq (rfl : (1 : Int32) = (1 : Int32))).2 ?_
    show Steps p.tables e below (T1.setTop (mkF m 62 #[.val (.int p1), .val (.int p2), .val (.int p3), .val (.int p4), .val (.long q5), .second, .val (.int p6), .val (.int (2 : Int32)), .val (.int (own_t0 q5)), .val (.int (own_t1 q5 (8 : Int32))), .val (.int (own_t1 q5 (16 : Int32))), .val (.int (1 : Int32)), .unset, .unset, .unset, .unset, .unset] [])) _
    refine XS.iconst X1.here hx rfl (hb hby at_62) ?_
    show Steps p.tables e below (T1.setTop (mkF m 63 #[.val (.int p1), .val (.int p2), .val (.int p3), .val (.int p4), .val (.long q5), .second, .val (.int p6), .val (.int (2 : Int32)), .val (.int (own_t0 q5)), .val (.int (own_t1 q5 (8 : Int32))), .val (.int (own_t1 q5 (16 : Int32))), .val (.int (1 : Int32)), .unset, .unset, .unset, .unset, .unset] [(.int (1 : Int32))])) _
    refine st2 _ ?_
    show Steps p.tables e below (T2.setTop (mkF m 65 #[.val (.int p1), .val (.int p2), .val (.int p3), .val (.int p4), .val (.long q5), .second, .val (.int p6), .val (.int (2 : Int32)), .val (.int (own_t0 q5)), .val (.int (own_t1 q5 (8 : Int32))), .val (.int (own_t1 q5 (16 : Int32))), .val (.int (1 : Int32)), .unset, .unset, .unset, .unset, .unset] [(.ref b2)])) _
    refine XS.dup X2.here hx rfl (hb hby at_65) rfl rfl ?_
    show Steps p.tables e below (T2.setTop (mkF m 66 #[.val (.int p1), .val (.int p2), .val (.int p3), .val (.int p4), .val (.long q5), .second, .val (.int p6), .val (.int (2 : Int32)), .val (.int (own_t0 q5)), .val (.int (own_t1 q5 (8 : Int32))), .val (.int (own_t1 q5 (16 : Int32))), .val (.int (1 : Int32)), .unset, .unset, .unset, .unset, .unset] [(.ref b2), (.ref b2)])) _
    refine XS.iconst X2.here hx rfl (hb hby at_66) ?_
    show Steps p.tables e below (T2.setTop (mkF m 67 #[.val (.int p1), .val (.int p2), .val (.int p3), .val (.int p4), .val (.long q5), .second, .val (.int p6), .val (.int (2 : Int32)), .val (.int (own_t0 q5)), .val (.int (own_t1 q5 (8 : Int32))), .val (.int (own_t1 q5 (16 : Int32))), .val (.int (1 : Int32)), .unset, .unset, .unset, .unset, .unset] [(.int (0 : Int32)), (.ref b2), (.ref b2)])) _
    refine XS.iload X2.here hx rfl (hb hby at_67) rfl ?_
    show Steps p.tables e below (T2.setTop (mkF m 69 #[.val (.int p1), .val (.int p2), .val (.int p3), .val (.int p4), .val (.long q5), .second, .val (.int p6), .val (.int (2 : Int32)), .val (.int (own_t0 q5)), .val (.int (own_t1 q5 (8 : Int32))), .val (.int (own_t1 q5 (16 : Int32))), .val (.int (1 : Int32)), .unset, .unset, .unset, .unset, .unset] [(.int (own_t0 q5)), (.int (0 : Int32)), (.ref b2), (.ref b2)])) _
    refine st6 _ ?_
    show Steps p.tables e below (T6.setTop (mkF m 70 #[.val (.int p1), .val (.int p2), .val (.int p3), .val (.int p4), .val (.long q5), .second, .val (.int p6), .val (.int (2 : Int32)), .val (.int (own_t0 q5)), .val (.int (own_t1 q5 (8 : Int32))), .val (.int (own_t1 q5 (16 : Int32))), .val (.int (1 : Int32)), .unset, .unset, .unset, .unset, .unset] [(.ref b2)])) _
    refine XS.astore X6.here hx rfl (hb hby at_70) rfl rfl (l' := #[.val (.int p1), .val (.int p2), .val (.int p3), .val (.int p4), .val (.long q5), .second, .val (.int p6), .val (.int (2 : Int32)), .val (.int (own_t0 q5)), .val (.int (own_t1 q5 (8 : Int32))), .val (.int (own_t1 q5 (16 : Int32))), .val (.int (1 : Int32)), .val (.ref b2), .unset, .unset, .unset, .unset]) rfl ?_
    show Steps p.tables e below (T6.setTop (mkF m 72 #[.val (.int p1), .val (.int p2), .val (.int p3), .val (.int p4), .val (.long q5), .second, .val (.int p6), .val (.int (2 : Int32)), .val (.int (own_t0 q5)), .val (.int (own_t1 q5 (8 : Int32))), .val (.int (own_t1 q5 (16 : Int32))), .val (.int (1 : Int32)), .val (.ref b2), .unset, .unset, .unset, .unset] [])) _
    refine XS.goto X6.here hx rfl (pc0 := 72) (pc' := 119) rfl (hb hby at_72) (by decide) (by decide) ?_
    show Steps p.tables e below (T6.setTop (mkF m 119 #[.val (.int p1), .val (.int p2), .val (.int p3), .val (.int p4), .val (.long q5), .second, .val (.int p6), .val (.int (2 : Int32)), .val (.int (own_t0 q5)), .val (.int (own_t1 q5 (8 : Int32))), .val (.int (own_t1 q5 (16 : Int32))), .val (.int (1 : Int32)), .val (.ref b2), .unset, .unset, .unset, .unset] [])) _
    refine st10 _ ?_
    show Steps p.tables e below (T10.setTop (mkF m 122 #[.val (.int p1), .val (.int p2), .val (.int p3), .val (.int p4), .val (.long q5), .second, .val (.int p6), .val (.int (2 : Int32)), .val (.int (own_t0 q5)), .val (.int (own_t1 q5 (8 : Int32))), .val (.int (own_t1 q5 (16 : Int32))), .val (.int (1 : Int32)), .val (.ref b2), .unset, .unset, .unset, .unset] [(.ref b10)])) _
    refine XS.dup X10.here hx rfl (hb hby at_122) rfl rfl ?_
    show Steps p.tables e below (T10.setTop (mkF m 123 #[.val (.int p1), .val (.int p2), .val (.int p3), .val (.int p4), .val (.long q5), .second, .val (.int p6), .val (.int (2 : Int32)), .val (.int (own_t0 q5)), .val (.int (own_t1 q5 (8 : Int32))), .val (.int (own_t1 q5 (16 : Int32))), .val (.int (1 : Int32)), .val (.ref b2), .unset, .unset, .unset, .unset] [(.ref b10), (.ref b10)])) _
    refine XS.aload X10.here hx rfl (hb hby at_123) rfl rfl ?_
    show Steps p.tables e below (T10.setTop (mkF m 125 #[.val (.int p1), .val (.int p2), .val (.int p3), .val (.int p4), .val (.long q5), .second, .val (.int p6), .val (.int (2 : Int32)), .val (.int (own_t0 q5)), .val (.int (own_t1 q5 (8 : Int32))), .val (.int (own_t1 q5 (16 : Int32))), .val (.int (1 : Int32)), .val (.ref b2), .unset, .unset, .unset, .unset] [(.ref b2), (.ref b10), (.ref b10)])) _
    refine st21.trans ?_
    show Steps p.tables e below (T21.setTop (mkF m 128 #[.val (.int p1), .val (.int p2), .val (.int p3), .val (.int p4), .val (.long q5), .second, .val (.int p6), .val (.int (2 : Int32)), .val (.int (own_t0 q5)), .val (.int (own_t1 q5 (8 : Int32))), .val (.int (own_t1 q5 (16 : Int32))), .val (.int (1 : Int32)), .val (.ref b2), .unset, .unset, .unset, .unset] [(.ref b10)])) _
    refine XS.astore X21.here hx rfl (hb hby at_128) rfl rfl (l' := #[.val (.int p1), .val (.int p2), .val (.int p3), .val (.int p4), .val (.long q5), .second, .val (.int p6), .val (.int (2 : Int32)), .val (.int (own_t0 q5)), .val (.int (own_t1 q5 (8 : Int32))), .val (.int (own_t1 q5 (16 : Int32))), .val (.int (1 : Int32)), .val (.ref b2), .val (.ref b10), .unset, .unset, .unset]) rfl ?_
    show Steps p.tables e below (T21.setTop (mkF m 130 #[.val (.int p1), .val (.int p2), .val (.int p3), .val (.int p4), .val (.long q5), .second, .val (.int p6), .val (.int (2 : Int32)), .val (.int (own_t0 q5)), .val (.int (own_t1 q5 (8 : Int32))), .val (.int (own_t1 q5 (16 : Int32))), .val (.int (1 : Int32)), .val (.ref b2), .val (.ref b10), .unset, .unset, .unset] [])) _
    refine XS.iload X21.here hx rfl (hb hby at_130) rfl ?_
    show Steps p.tables e below (T21.setTop (mkF m 132 #[.val (.int p1), .val (.int p2), .val (.int p3), .val (.int p4), .val (.long q5), .second, .val (.int p6), .val (.int (2 : Int32)), .val (.int (own_t0 q5)), .val (.int (own_t1 q5 (8 : Int32))), .val (.int (own_t1 q5 (16 : Int32))), .val (.int (1 : Int32)), .val (.ref b2), .val (.ref b10), .unset, .unset, .unset] [(.int (2 : Int32))])) _
    refine XS.ifYes X21.here hx rfl (pc0 := 132) (pc' := 143) rfl (hb hby at_132) rfl ((if0 _ _).trans (feq (by decide : ¬ ((2 : Int32) = (0 : Int32)))).2) (by decide) (by decide) ?_
    show Steps p.tables e below (T21.setTop (mkF m 143 #[.val (.int p1), .val (.int p2), .val (.int p3), .val (.int p4), .val (.long q5), .second, .val (.int p6), .val (.int (2 : Int32)), .val (.int (own_t0 q5)), .val (.int (own_t1 q5 (8 : Int32))), .val (.int (own_t1 q5 (16 : Int32))), .val (.int (1 : Int32)), .val (.ref b2), .val (.ref b10), .unset, .unset, .unset] [])) _
    refine st23 _ ?_
    show Steps p.tables e below (T23.setTop (mkF m 146 #[.val (.int p1), .val (.int p2), .val (.int p3), .val (.int p4), .val (.long q5), .second, .val (.int p6), .val (.int (2 : Int32)), .val (.int (own_t0 q5)), .val (.int (own_t1 q5 (8 : Int32))), .val (.int (own_t1 q5 (16 : Int32))), .val (.int (1 : Int32)), .val (.ref b2), .val (.ref b10), .unset, .unset, .unset] [(.ref b23)])) _
    refine XS.dup X23.here hx rfl (hb hby at_146) rfl rfl ?_
    show Steps p.tables e below (T23.setTop (mkF m 147 #[.val (.int p1), .val (.int p2), .val (.int p3), .val (.int p4), .val (.long q5), .second, .val (.int p6), .val (.int (2 : Int32)), .val (.int (own_t0 q5)), .val (.int (own_t1 q5 (8 : Int32))), .val (.int (own_t1 q5 (16 : Int32))), .val (.int (1 : Int32)), .val (.ref b2), .val (.ref b10), .unset, .unset, .unset] [(.ref b23), (.ref b23)])) _
    refine XS.aload X23.here hx rfl (hb hby at_147) rfl rfl ?_
    show Steps p.tables e below (T23.setTop (mkF m 149 #[.val (.int p1), .val (.int p2), .val (.int p3), .val (.int p4), .val (.long q5), .second, .val (.int p6), .val (.int (2 : Int32)), .val (.int (own_t0 q5)), .val (.int (own_t1 q5 (8 : Int32))), .val (.int (own_t1 q5 (16 : Int32))), .val (.int (1 : Int32)), .val (.ref b2), .val (.ref b10), .unset, .unset, .unset] [(.ref b10), (.ref b23), (.ref b23)])) _
    refine XS.iload X23.here hx rfl (hb hby at_149) rfl ?_
    show Steps p.tables e below (T23.setTop (mkF m 151 #[.val (.int p1), .val (.int p2), .val (.int p3), .val (.int p4), .val (.long q5), .second, .val (.int p6), .val (.int (2 : Int32)), .val (.int (own_t0 q5)), .val (.int (own_t1 q5 (8 : Int32))), .val (.int (own_t1 q5 (16 : Int32))), .val (.int (1 : Int32)), .val (.ref b2), .val (.ref b10), .unset, .unset, .unset] [(.int (2 : Int32)), (.ref b10), (.ref b23), (.ref b23)])) _
    refine XS.iconst X23.here hx rfl (hb hby at_151) ?_
    show Steps p.tables e below (T23.setTop (mkF m 152 #[.val (.int p1), .val (.int p2), .val (.int p3), .val (.int p4), .val (.long q5), .second, .val (.int p6), .val (.int (2 : Int32)), .val (.int (own_t0 q5)), .val (.int (own_t1 q5 (8 : Int32))), .val (.int (own_t1 q5 (16 : Int32))), .val (.int (1 : Int32)), .val (.ref b2), .val (.ref b10), .unset, .unset, .unset] [(.int (1 : Int32)), (.int (2 : Int32)), (.ref b10), (.ref b23), (.ref b23)])) _
    refine XS.icmpYes X23.here hx rfl (pc0 := 152) (pc' := 159) rfl (hb hby at_152) rfl (feq (by decide : ¬ ((2 : Int32) = (1 : Int32)))).2 (by decide) (by decide) ?_
    show Steps p.tables e below (T23.setTop (mkF m 159 #[.val (.int p1), .val (.int p2), .val (.int p3), .val (.int p4), .val (.long q5), .second, .val (.int p6), .val (.int (2 : Int32)), .val (.int (own_t0 q5)), .val (.int (own_t1 q5 (8 : Int32))), .val (.int (own_t1 q5 (16 : Int32))), .val (.int (1 : Int32)), .val (.ref b2), .val (.ref b10), .unset, .unset, .unset] [(.ref b10), (.ref b23), (.ref b23)])) _
    refine XS.iconst X23.here hx rfl (hb hby at_159) ?_
    show Steps p.tables e below (T23.setTop (mkF m 160 #[.val (.int p1), .val (.int p2), .val (.int p3), .val (.int p4), .val (.long q5), .second, .val (.int p6), .val (.int (2 : Int32)), .val (.int (own_t0 q5)), .val (.int (own_t1 q5 (8 : Int32))), .val (.int (own_t1 q5 (16 : Int32))), .val (.int (1 : Int32)), .val (.ref b2), .val (.ref b10), .unset, .unset, .unset] [(.int (0 : Int32)), (.ref b10), (.ref b23), (.ref b23)])) _
    refine st34.trans ?_
    show Steps p.tables e below (T34.setTop (mkF m 163 #[.val (.int p1), .val (.int p2), .val (.int p3), .val (.int p4), .val (.long q5), .second, .val (.int p6), .val (.int (2 : Int32)), .val (.int (own_t0 q5)), .val (.int (own_t1 q5 (8 : Int32))), .val (.int (own_t1 q5 (16 : Int32))), .val (.int (1 : Int32)), .val (.ref b2), .val (.ref b10), .unset, .unset, .unset] [(.ref b23)])) _
    refine st36 _ ?_
    show Steps p.tables e below (T36.setTop (mkF m 166 #[.val (.int p1), .val (.int p2), .val (.int p3), .val (.int p4), .val (.long q5), .second, .val (.int p6), .val (.int (2 : Int32)), .val (.int (own_t0 q5)), .val (.int (own_t1 q5 (8 : Int32))), .val (.int (own_t1 q5 (16 : Int32))), .val (.int (1 : Int32)), .val (.ref b2), .val (.ref b10), .unset, .unset, .unset] [(.ref b1_36)])) _
    refine XS.astore X36.here hx rfl (hb hby at_166) rfl rfl (l' := #[.val (.int p1), .val (.int p2), .val (.int p3), .val (.int p4), .val (.long q5), .second, .val (.int p6), .val (.int (2 : Int32)), .val (.int (own_t0 q5)), .val (.int (own_t1 q5 (8 : Int32))), .val (.int (own_t1 q5 (16 : Int32))), .val (.int (1 : Int32)), .val (.ref b2), .val (.ref b10), .val (.ref b1_36), .unset, .unset]) rfl ?_
    show Steps p.tables e below (T36.setTop (mkF m 168 #[.val (.int p1), .val (.int p2), .val (.int p3), .val (.int p4), .val (.long q5), .second, .val (.int p6), .val (.int (2 : Int32)), .val (.int (own_t0 q5)), .val (.int (own_t1 q5 (8 : Int32))), .val (.int (own_t1 q5 (16 : Int32))), .val (.int (1 : Int32)), .val (.ref b2), .val (.ref b10), .val (.ref b1_36), .unset, .unset] [])) _
    refine st38 _ ?_
    show Steps p.tables e below (T38.setTop (mkF m 171 #[.val (.int p1), .val (.int p2), .val (.int p3), .val (.int p4), .val (.long q5), .second, .val (.int p6), .val (.int (2 : Int32)), .val (.int (own_t0 q5)), .val (.int (own_t1 q5 (8 : Int32))), .val (.int (own_t1 q5 (16 : Int32))), .val (.int (1 : Int32)), .val (.ref b2), .val (.ref b10), .val (.ref b1_36), .unset, .unset] [(.ref b38)])) _
    refine XS.dup X38.here hx rfl (hb hby at_171) rfl rfl ?_
    show Steps p.tables e below (T38.setTop (mkF m 172 #[.val (.int p1), .val (.int p2), .val (.int p3), .val (.int p4), .val (.long q5), .second, .val (.int p6), .val (.int (2 : Int32)), .val (.int (own_t0 q5)), .val (.int (own_t1 q5 (8 : Int32))), .val (.int (own_t1 q5 (16 : Int32))), .val (.int (1 : Int32)), .val (.ref b2), .val (.ref b10), .val (.ref b1_36), .unset, .unset] [(.ref b38), (.ref b38)])) _
    refine XS.iloadN X38.here hx rfl (hb hby at_172) rfl ?_
    show Steps p.tables e below (T38.setTop (mkF m 173 #[.val (.int p1), .val (.int p2), .val (.int p3), .val (.int p4), .val (.long q5), .second, .val (.int p6), .val (.int (2 : Int32)), .val (.int (own_t0 q5)), .val (.int (own_t1 q5 (8 : Int32))), .val (.int (own_t1 q5 (16 : Int32))), .val (.int (1 : Int32)), .val (.ref b2), .val (.ref b10), .val (.ref b1_36), .unset, .unset] [(.int p1), (.ref b38), (.ref b38)])) _
    refine XS.iloadN X38.here hx rfl (hb hby at_173) rfl ?_
    show Steps p.tables e below (T38.setTop (mkF m 174 #[.val (.int p1), .val (.int p2), .val (.int p3), .val (.int p4), .val (.long q5), .second, .val (.int p6), .val (.int (2 : Int32)), .val (.int (own_t0 q5)), .val (.int (own_t1 q5 (8 : Int32))), .val (.int (own_t1 q5 (16 : Int32))), .val (.int (1 : Int32)), .val (.ref b2), .val (.ref b10), .val (.ref b1_36), .unset, .unset] [(.int p2), (.int p1), (.ref b38), (.ref b38)])) _
    refine XS.iloadN X38.here hx rfl (hb hby at_174) rfl ?_
    show Steps p.tables e below (T38.setTop (mkF m 175 #[.val (.int p1), .val (.int p2), .val (.int p3), .val (.int p4), .val (.long q5), .second, .val (.int p6), .val (.int (2 : Int32)), .val (.int (own_t0 q5)), .val (.int (own_t1 q5 (8 : Int32))), .val (.int (own_t1 q5 (16 : Int32))), .val (.int (1 : Int32)), .val (.ref b2), .val (.ref b10), .val (.ref b1_36), .unset, .unset] [(.int p3), (.int p2), (.int p1), (.ref b38), (.ref b38)])) _
    refine XS.aload X38.here hx rfl (hb hby at_175) rfl rfl ?_
    show Steps p.tables e below (T38.setTop (mkF m 177 #[.val (.int p1), .val (.int p2), .val (.int p3), .val (.int p4), .val (.long q5), .second, .val (.int p6), .val (.int (2 : Int32)), .val (.int (own_t0 q5)), .val (.int (own_t1 q5 (8 : Int32))), .val (.int (own_t1 q5 (16 : Int32))), .val (.int (1 : Int32)), .val (.ref b2), .val (.ref b10), .val (.ref b1_36), .unset, .unset] [(.ref b1_36), (.int p3), (.int p2), (.int p1), (.ref b38), (.ref b38)])) _
    refine st45.trans ?_
    show Steps p.tables e below (T45.setTop (mkF m 180 #[.val (.int p1), .val (.int p2), .val (.int p3), .val (.int p4), .val (.long q5), .second, .val (.int p6), .val (.int (2 : Int32)), .val (.int (own_t0 q5)), .val (.int (own_t1 q5 (8 : Int32))), .val (.int (own_t1 q5 (16 : Int32))), .val (.int (1 : Int32)), .val (.ref b2), .val (.ref b10), .val (.ref b1_36), .unset, .unset] [(.ref b38)])) _
    refine XS.astore X45.here hx rfl (hb hby at_180) rfl rfl (l' := #[.val (.int p1), .val (.int p2), .val (.int p3), .val (.int p4), .val (.long q5), .second, .val (.int p6), .val (.int (2 : Int32)), .val (.int (own_t0 q5)), .val (.int (own_t1 q5 (8 : Int32))), .val (.int (own_t1 q5 (16 : Int32))), .val (.int (1 : Int32)), .val (.ref b2), .val (.ref b10), .val (.ref b1_36), .val (.ref b38), .unset]) rfl ?_
    show Steps p.tables e below (T45.setTop (mkF m 182 #[.val (.int p1), .val (.int p2), .val (.int p3), .val (.int p4), .val (.long q5), .second, .val (.int p6), .val (.int (2 : Int32)), .val (.int (own_t0 q5)), .val (.int (own_t1 q5 (8 : Int32))), .val (.int (own_t1 q5 (16 : Int32))), .val (.int (1 : Int32)), .val (.ref b2), .val (.ref b10), .val (.ref b1_36), .val (.ref b38), .unset] [])) _
    refine XS.iload X45.here hx rfl (hb hby at_182) rfl ?_
    show Steps p.tables e below (T45.setTop (mkF m 184 #[.val (.int p1), .val (.int p2), .val (.int p3), .val (.int p4), .val (.long q5), .second, .val (.int p6), .val (.int (2 : Int32)), .val (.int (own_t0 q5)), .val (.int (own_t1 q5 (8 : Int32))), .val (.int (own_t1 q5 (16 : Int32))), .val (.int (1 : Int32)), .val (.ref b2), .val (.ref b10), .val (.ref b1_36), .val (.ref b38), .unset] [(.int (2 : Int32))])) _
    refine XS.iconst X45.here hx rfl (hb hby at_184) ?_
    show Steps p.tables e below (T45.setTop (mkF m 185 #[.val (.int p1), .val (.int p2), .val (.int p3), .val (.int p4), .val (.long q5), .second, .val (.int p6), .val (.int (2 : Int32)), .val (.int (own_t0 q5)), .val (.int (own_t1 q5 (8 : Int32))), .val (.int (own_t1 q5 (16 : Int32))), .val (.int (1 : Int32)), .val (.ref b2), .val (.ref b10), .val (.ref b1_36), .val (.ref b38), .unset] [(.int (1 : Int32)), (.int (2 : Int32))])) _
    refine XS.icmpNo X45.here hx rfl (hb hby at_185) rfl (feq (by decide : ¬ ((2 : Int32) = (1 : Int32)))).1 ?_
    show Steps p.tables e below (T45.setTop (mkF m 188 #[.val (.int p1), .val (.int p2), .val (.int p3), .val (.int p4), .val (.long q5), .second, .val (.int p6), .val (.int (2 : Int32)), .val (.int (own_t0 q5)), .val (.int (own_t1 q5 (8 : Int32))), .val (.int (own_t1 q5 (16 : Int32))), .val (.int (1 : Int32)), .val (.ref b2), .val (.ref b10), .val (.ref b1_36), .val (.ref b38), .unset] [])) _
    refine XS.iconst X45.here hx rfl (hb hby at_188) ?_
    show Steps p.tables e below (T45.setTop (mkF m 189 #[.val (.int p1), .val (.int p2), .val (.int p3), .val (.int p4), .val (.long q5), .second, .val (.int p6), .val (.int (2 : Int32)), .val (.int (own_t0 q5)), .val (.int (own_t1 q5 (8 : Int32))), .val (.int (own_t1 q5 (16 : Int32))), .val (.int (1 : Int32)), .val (.ref b2), .val (.ref b10), .val (.ref b1_36), .val (.ref b38), .unset] [(.int (1 : Int32))])) _
    refine XS.goto X45.here hx rfl (pc0 := 189) (pc' := 193) rfl (hb hby at_189) (by decide) (by decide) ?_
    show Steps p.tables e below (T45.setTop (mkF m 193 #[.val (.int p1), .val (.int p2), .val (.int p3), .val (.int p4), .val (.long q5), .second, .val (.int p6), .val (.int (2 : Int32)), .val (.int (own_t0 q5)), .val (.int (own_t1 q5 (8 : Int32))), .val (.int (own_t1 q5 (16 : Int32))), .val (.int (1 : Int32)), .val (.ref b2), .val (.ref b10), .val (.ref b1_36), .val (.ref b38), .unset] [(.int (1 : Int32))])) _
    refine XS.istore X45.here hx rfl (hb hby at_193) rfl (l' := #[.val (.int p1), .val (.int p2), .val (.int p3), .val (.int p4), .val (.long q5), .second, .val (.int p6), .val (.int (2 : Int32)), .val (.int (own_t0 q5)), .val (.int (own_t1 q5 (8 : Int32))), .val (.int (own_t1 q5 (16 : Int32))), .val (.int (1 : Int32)), .val (.ref b2), .val (.ref b10), .val (.ref b1_36), .val (.ref b38), .val (.int (1 : Int32))]) rfl ?_
    show Steps p.tables e below (T45.setTop (mkF m 195 #[.val (.int p1), .val (.int p2), .val (.int p3), .val (.int p4), .val (.long q5), .second, .val (.int p6), .val (.int (2 : Int32)), .val (.int (own_t0 q5)), .val (.int (own_t1 q5 (8 : Int32))), .val (.int (own_t1 q5 (16 : Int32))), .val (.int (1 : Int32)), .val (.ref b2), .val (.ref b10), .val (.ref b1_36), .val (.ref b38), .val (.int (1 : Int32))] [])) _
    refine XS.aload X45.here hx rfl (hb hby at_195) rfl rfl ?_
    show Steps p.tables e below (T45.setTop (mkF m 197 #[.val (.int p1), .val (.int p2), .val (.int p3), .val (.int p4), .val (.long q5), .second, .val (.int p6), .val (.int (2 : Int32)), .val (.int (own_t0 q5)), .val (.int (own_t1 q5 (8 : Int32))), .val (.int (own_t1 q5 (16 : Int32))), .val (.int (1 : Int32)), .val (.ref b2), .val (.ref b10), .val (.ref b1_36), .val (.ref b38), .val (.int (1 : Int32))] [(.ref b38)])) _
    refine st51.trans ?_
    show Steps p.tables e below (T51.setTop (mkF m 200 #[.val (.int p1), .val (.int p2), .val (.int p3), .val (.int p4), .val (.long q5), .second, .val (.int p6), .val (.int (2 : Int32)), .val (.int (own_t0 q5)), .val (.int (own_t1 q5 (8 : Int32))), .val (.int (own_t1 q5 (16 : Int32))), .val (.int (1 : Int32)), .val (.ref b2), .val (.ref b10), .val (.ref b1_36), .val (.ref b38), .val (.int (1 : Int32))] [(.int (1 : Int32))])) _
    refine XS.iload X51.here hx rfl (hb hby at_200) rfl ?_
    show Steps p.tables e below (T51.setTop (mkF m 202 #[.val (.int p1), .val (.int p2), .val (.int p3), .val (.int p4), .val (.long q5), .second, .val (.int p6), .val (.int (2 : Int32)), .val (.int (own_t0 q5)), .val (.int (own_t1 q5 (8 : Int32))), .val (.int (own_t1 q5 (16 : Int32))), .val (.int (1 : Int32)), .val (.ref b2), .val (.ref b10), .val (.ref b1_36), .val (.ref b38), .val (.int (1 : Int32))] [(.int (1 : Int32)), (.int (1 : Int32))])) _
    refine XS.icmpNo X51.here hx rfl (hb hby at_202) rfl (teq (rfl : (1 : Int32) = (1 : Int32))).2 ?_
    show Steps p.tables e below (T51.setTop (mkF m 205 #[.val (.int p1), .val (.int p2), .val (.int p3), .val (.int p4), .val (.long q5), .second, .val (.int p6), .val (.int (2 : Int32)), .val (.int (own_t0 q5)), .val (.int (own_t1 q5 (8 : Int32))), .val (.int (own_t1 q5 (16 : Int32))), .val (.int (1 : Int32)), .val (.ref b2), .val (.ref b10), .val (.ref b1_36), .val (.ref b38), .val (.int (1 : Int32))] [])) _
    refine XS.iconst X51.here hx rfl (hb hby at_205) ?_
    show Steps p.tables e below (T51.setTop (mkF m 206 #[.val (.int p1), .val (.int p2), .val (.int p3), .val (.int p4), .val (.long q5), .second, .val (.int p6), .val (.int (2 : Int32)), .val (.int (own_t0 q5)), .val (.int (own_t1 q5 (8 : Int32))), .val (.int (own_t1 q5 (16 : Int32))), .val (.int (1 : Int32)), .val (.ref b2), .val (.ref b10), .val (.ref b1_36), .val (.ref b38), .val (.int (1 : Int32))] [(.int (1 : Int32))])) _
    refine XS.goto X51.here hx rfl (pc0 := 206) (pc' := 210) rfl (hb hby at_206) (by decide) (by decide) ?_
    show Steps p.tables e below (T51.setTop (mkF m 210 #[.val (.int p1), .val (.int p2), .val (.int p3), .val (.int p4), .val (.long q5), .second, .val (.int p6), .val (.int (2 : Int32)), .val (.int (own_t0 q5)), .val (.int (own_t1 q5 (8 : Int32))), .val (.int (own_t1 q5 (16 : Int32))), .val (.int (1 : Int32)), .val (.ref b2), .val (.ref b10), .val (.ref b1_36), .val (.ref b38), .val (.int (1 : Int32))] [(.int (1 : Int32))])) _
    exact retN X51 hx (t := .boolean) Bd.returns (by simp) (hb hby at_210) hr
  · show own_Qlaw h0 n0 _ T51.heap _
    exact ⟨rfl, N51⟩
theorem own_eflaw20 (m : MethodId) (p1 : Int32) (p2 : Int32) (p3 : Int32) (p4 : Int32) (q5 : Int64) (p6 : Int32) : entryFrame m #[(.int p1), (.int p2), (.int p3), (.int p4), (.long q5), (.int p6)] maxLocals = mkF m 0 #[.val (.int p1), .val (.int p2), .val (.int p3), .val (.int p4), .val (.long q5), .second, .val (.int p6), .unset, .unset, .unset, .unset, .unset, .unset, .unset, .unset, .unset, .unset] [] := by first | (simp [entryFrame, mkF, argsToLocals, Value.category, maxLocals]; done) | rfl
set_option maxRecDepth 65536 in
set_option maxHeartbeats 40000000 in
theorem own_law20 (l : Launch) (Z : State) (a0 : Array Value) (hw : ∀ d ∈ tables_1, d.before a0 Z = true) (ws : List Jvm.Cond) (G1 : Int32) (k_EMPTY : Addr) (gl : own_Glob Z G1 k_EMPTY) (p1 : Int32) (p2 : Int32) (p3 : Int32) (p4 : Int32) (q5 : Int64) (p6 : Int32) (h0 : Heap) (n0 : Nat) (Z0 : n0 ≤ h0.size) (X00 : Old Z n0 h0) (hk : own_kd p4 = 0) (hn : own_a3 p6 = 1) :
    MetFree l x (head1 (Jvm.Cond.code x code maxLocals ret :: ws) room_1) (fun a U => a = #[(.int p1), (.int p2), (.int p3), (.int p4), (.long q5), (.int p6)] ∧ Z.Warmed39 U.vm ∧ U.heap = h0) (fun _ _ _ _ _ => True) (fun _ U o U' => ∃ v L, o = .returned v ∧ own_Qlaw h0 n0 v U'.heap L ∧ ReturnedEndW U o U' L room_1.cells room_1.slots) := by
  refine MetFree.of_bodySF (plainFor_of_name own_pn15) hisR ?_
  intro p e s m args below meth c s₁ Bd hml0 hP hK
  obtain ⟨rfl, hZ, hh⟩ := hP
  obtain ⟨O_CS, P_CS, O_EMPTY, E_EMPTY, F_EMPTY⟩ := id gl
  have hx := Bd.exec
  have hby := Bd.bytes
  have hml : c.maxLocals = 17 := hml0
  have hown : s.vm.findClass "com/example/leftmost/leftmost/tree/NodeIsLeafPinLaw" = some m.cls := findClass_of_methodNamed Bd.named
  have hnm := (name_of_methodNamed Bd.named Bd.method).1
  have X0 : Stand p l e room_1 s m #[(.int p1), (.int p2), (.int p3), (.int p4), (.long q5), (.int p6)] below meth c s₁ [] 0 0 := Stand.of_body Bd
  have e0 : s₁.heap = h0 := by rw [← hh, Bd.state]; rfl
  have N0 := Fr.nil n0
  have pre0 : ∀ t, Steps p.tables e below (s₁.setTop (mkF m 0 #[.val (.int p1), .val (.int p2), .val (.int p3), .val (.int p4), .val (.long q5), .second, .val (.int p6), .unset, .unset, .unset, .unset, .unset, .unset, .unset, .unset, .unset, .unset] [])) t → Steps p.tables e below (s₁.setTop (entryFrame m #[(.int p1), (.int p2), (.int p3), (.int p4), (.long q5), (.int p6)] maxLocals)) t := fun t k => castTop (own_eflaw20 m p1 p2 p3 p4 q5 p6) k
  obtain ⟨_, _, ⟨T1, L1, k1, n1⟩, -, X1, ⟨Lc1, hQ1, l1, y1, z1⟩, st1⟩ := Jvm.LawKit.callS X0 hx (y := (⟨"java/lang/Math", "min", "(II)I"⟩ : MethodName)) hown (mvT hZ (hw _ (List.mem_of_getElem? (i := 2) rfl))) (mvT hZ (hw _ (List.mem_of_getElem? (i := 3) rfl))) (mvT hZ (hw _ (List.mem_of_getElem? (i := 4) rfl))) (mvT hZ (hw _ (List.mem_of_getElem? (i := 5) rfl))) (by decide) (backOf (W := 1) (own_rm_minR l Z a0 hw [] G1 k_EMPTY gl (2 : Int32) (1 : Int32) h0 n0 Z0 (by decide : (1 : Int32) < (2 : Int32))) hZ (hw _ (List.mem_of_getElem? (i := 5) rfl)) (hw _ (List.mem_of_getElem? (i := 4) rfl)) (by decide) (by decide)) (g := (mkF m 50 #[.val (.int p1), .val (.int p2), .val (.int p3), .val (.int p4), .val (.long q5), .second, .val (.int p6), .val (.int (0 : Int32)), .val (.int (own_t0 q5)), .val (.int (own_t1 q5 (8 : Int32))), .val (.int (own_t1 q5 (16 : Int32))), .unset, .unset, .unset, .unset, .unset, .unset] [(.int (1 : Int32)), (.int (2 : Int32)), (.int (1 : Int32))])) rfl (by rw [hml]; rfl) (argsL := [(.int (2 : Int32)), (.int (1 : Int32))]) (rest := [(.int (1 : Int32))]) (lenOf own_pd11 rfl) rfl (by show 2 * 0 + _ ≤ _; exact Nat.le_of_eq rfl) (hb hby at_50) (fun _ _ => ⟨rfl, e0, (by decide : 0 + 0 ≤ _), (by decide : 0 + 0 ≤ _)⟩)
  dsimp only [Pt.U, Pt.locs, Pt.cells, Pt.slots] at X1 l1 y1 z1 st1 hQ1
  subst y1 z1
  obtain ⟨rfl, Nq1, e1⟩ := hQ1
  have N1 : Fr n0 L1 := by rw [l1]; exact Fr.app N0 Nq1
  obtain ⟨T2, h2, k2, X2, e2, E2, A2, st2⟩ := newP X1 hx hZ (hw _ (List.mem_of_getElem? (i := 6) rfl)) e1 (g := (mkF m 82 #[.val (.int p1), .val (.int p2), .val (.int p3), .val (.int p4), .val (.long q5), .second, .val (.int p6), .val (.int (0 : Int32)), .val (.int (own_t0 q5)), .val (.int (own_t1 q5 (8 : Int32))), .val (.int (own_t1 q5 (16 : Int32))), .val (.int (2 : Int32)), .unset, .unset, .unset, .unset, .unset] [(.int (2 : Int32))])) rfl (hb hby at_82) rfl (by decide) (cap := 2) (by decide) (by decide) (by decide) (by decide)
  obtain ⟨b2, g2⟩ : ∃ z, z = h0.size := ⟨_, rfl⟩
  rw [← g2] at A2 st2
  have Kp3 : Keep h0 h2 [] := (Keep.refl h0 []).ext E2
  have Vh4 : Arv Z h2 b2 k2 .char (2 : Int32) [(.int (0 : Int32)), (.int (0 : Int32))] (.int (0 : Int32)) := (Arv.new A2 (by decide)).pad (pad_rep [] (.int (0 : Int32)) 2)
  obtain ⟨cl5, Ar5, qc5, Sz5, Ng5, Hs5, Gs5⟩ := id Vh4
  have hin5 : ¬ ((0 : Int32) < 0 ∨ cl5.slots.size ≤ ((0 : Int32)).toNatClampNeg) := inb_of Sz5 ⟨(by decide), (by decide)⟩
  obtain ⟨T6, h6, X6, e6, W6, st6⟩ := stC X2 hx hZ e2 Ar5 (j := (0 : Int32)) hin5 (g := (mkF m 88 #[.val (.int p1), .val (.int p2), .val (.int p3), .val (.int p4), .val (.long q5), .second, .val (.int p6), .val (.int (0 : Int32)), .val (.int (own_t0 q5)), .val (.int (own_t1 q5 (8 : Int32))), .val (.int (own_t1 q5 (16 : Int32))), .val (.int (2 : Int32)), .unset, .unset, .unset, .unset, .unset] [(.int (own_t0 q5)), (.int (0 : Int32)), (.ref b2), (.ref b2)])) rfl rfl (hb hby at_88)
  have Kp7 : Keep h0 h6 [] := Kp3.wr W6 (Or.inr (Nat.le_trans (Keep.refl h0 []).1 (Nat.le_of_eq g2.symm)))
  have gh8 : n0 ≤ b2 := Nat.le_trans Z0 (Nat.le_of_eq g2.symm)
  obtain ⟨Lp6, X6, N6⟩ := own_pack X6 (Fr.snoc X6 N1 gh8)
  have Vh9 : Arv Z h6 b2 k2 .char (2 : Int32) [(.int (own_n0 q5)), (.int (0 : Int32))] (.int (0 : Int32)) := (Arv.set Ar5 qc5 Sz5 Ng5 Hs5 Gs5 (fits_nar_char _) W6 0 rfl (Nat.le_of_ble_eq_true rfl))
  obtain ⟨cl10, Ar10, qc10, Sz10, Ng10, Hs10, Gs10⟩ := id Vh9
  have hin10 : ¬ ((1 : Int32) < 0 ∨ cl10.slots.size ≤ ((1 : Int32)).toNatClampNeg) := inb_of Sz10 ⟨(by decide), (by decide)⟩
  obtain ⟨T11, h11, X11, e11, W11, st11⟩ := stC X6 hx hZ e6 Ar10 (j := (1 : Int32)) hin10 (g := (mkF m 93 #[.val (.int p1), .val (.int p2), .val (.int p3), .val (.int p4), .val (.long q5), .second, .val (.int p6), .val (.int (0 : Int32)), .val (.int (own_t0 q5)), .val (.int (own_t1 q5 (8 : Int32))), .val (.int (own_t1 q5 (16 : Int32))), .val (.int (2 : Int32)), .unset, .unset, .unset, .unset, .unset] [(.int (own_t1 q5 (8 : Int32))), (.int (1 : Int32)), (.ref b2), (.ref b2)])) rfl rfl (hb hby at_93)
  have Kp12 : Keep h0 h11 [] := Kp7.wr W11 (Or.inr (Nat.le_trans (Keep.refl h0 []).1 (Nat.le_of_eq g2.symm)))
  obtain ⟨Lp11, X11, N11⟩ := own_pack X11 (Fr.snoc X11 N6 gh8)
  have Vh13 : Arv Z h11 b2 k2 .char (2 : Int32) [(.int (own_n0 q5)), (.int (own_n1 q5 (8 : Int32)))] (.int (0 : Int32)) := (Arv.set Ar10 qc10 Sz10 Ng10 Hs10 Gs10 (fits_nar_char _) W11 1 rfl (Nat.le_of_ble_eq_true rfl))
  obtain ⟨T14, h14, X14, e14, E14, A14, D14, U14, st14⟩ := newO X11 hx hZ hown (hw _ (List.mem_of_getElem? (i := 7) rfl)) (hw _ (List.mem_of_getElem? (i := 8) rfl)) (hw _ (List.mem_of_getElem? (i := 9) rfl)) e11 (g := (mkF m 119 #[.val (.int p1), .val (.int p2), .val (.int p3), .val (.int p4), .val (.long q5), .second, .val (.int p6), .val (.int (0 : Int32)), .val (.int (own_t0 q5)), .val (.int (own_t1 q5 (8 : Int32))), .val (.int (own_t1 q5 (16 : Int32))), .val (.int (2 : Int32)), .val (.ref b2), .unset, .unset, .unset, .unset] [])) rfl (hb hby at_119) (by decide) (by decide)
  obtain ⟨b14, g14⟩ : ∃ z, z = h11.size := ⟨_, rfl⟩
  rw [← g14] at A14 D14 U14 st14
  have Kp15 : Keep h0 h14 [] := Kp12.ext E14
  have Fh16 : Fld Z h14 b14 "java/lang/String" "value" "[B" .null := (D14 (Or.inr (hw _ (List.mem_of_getElem? (i := 35) rfl))) (ty := (.array .byte)) (by decide))
  have Fh17 : Fld Z h14 b14 "java/lang/String" "coder" "B" (.int (0 : Int32)) := (D14 (Or.inr (hw _ (List.mem_of_getElem? (i := 33) rfl))) (ty := .byte) (by decide))
  have Vh18 : Arv Z h14 b2 k2 .char (2 : Int32) [(.int (own_n0 q5)), (.int (own_n1 q5 (8 : Int32)))] (.int (0 : Int32)) := (Vh13.ext E14)
  have hph19 : ∀ c ∈ ([(own_n0 q5), (own_n1 q5 (8 : Int32))] : List Int32), ¬ c < 0 ∧ ¬ (255 : Int32) < c := (own_cS (own_rng_n0 q5) (own_cS (own_rng_n1 q5 (8 : Int32)) own_c0))
  have hws_words : ∀ d ∈ StrChars.Road.words, d.before a0 Z = true := fun d hd => hw d (own_hws_words d hd)
  have Zh20 : n0 ≤ h14.size := (Nat.le_trans Z0 Kp15.1)
  have gh21 : n0 ≤ b14 := Nat.le_trans (Nat.le_trans Z0 Kp12.1) (Nat.le_of_eq g14.symm)
  have Old22 : Old Z n0 h2 := X00.ext E2
  have Old23 : Old Z n0 h6 := Old22.wr W6 gh8
  have Old24 : Old Z n0 h11 := Old23.wr W11 gh8
  have Old25 : Old Z n0 h14 := Old24.ext E14
  obtain ⟨_, _, ⟨T26, L26, k26, n26⟩, -, X26, ⟨Lc26, hQ26, l26, y26, z26⟩, st26⟩ := X14.specialBack hx (y := (⟨"java/lang/String", "<init>", "([C)V"⟩ : MethodName)) rfl hown (mvT hZ (hw _ (List.mem_of_getElem? (i := 10) rfl))) (mvT hZ (hw _ (List.mem_of_getElem? (i := 11) rfl))) (mvT hZ (hw _ (List.mem_of_getElem? (i := 12) rfl))) (by decide) (StrChars.Road.backV (W := 1) hZ hws_words (kI := 4) (hw _ (List.mem_of_getElem? (i := 8) rfl)) (cs := ([(own_n0 q5), (own_n1 q5 (8 : Int32))] : List Int32)) (bs := ([(own_n0 q5), (own_n1 q5 (8 : Int32))] : List Int32).map (fun c => c.toInt8.toInt32)) (n := 2) gh21 Zh20 A14 Fh16 Fh17 Vh18 (O_CS.ext Old25.2) P_CS rfl rfl (by decide) (by decide) hph19 rfl (by decide) (by decide)) (g := (mkF m 125 #[.val (.int p1), .val (.int p2), .val (.int p3), .val (.int p4), .val (.long q5), .second, .val (.int p6), .val (.int (0 : Int32)), .val (.int (own_t0 q5)), .val (.int (own_t1 q5 (8 : Int32))), .val (.int (own_t1 q5 (16 : Int32))), .val (.int (2 : Int32)), .val (.ref b2), .unset, .unset, .unset, .unset] [(.ref b2), (.ref b14), (.ref b14)])) rfl (by rw [hml]; rfl) (Steps.refl _) (a := b14) (argsL := [(.ref b2)]) (rest := [(.ref b14)]) (lenOf own_pd12 rfl) rfl (by show 2 * 0 + _ ≤ _; exact Nat.le_of_eq rfl) (hb hby at_125) (fun _ _ => ⟨rfl, e14, (by decide : 2 + 1 ≤ _), (by decide : 6 + 2 ≤ _)⟩)
  dsimp only [Pt.U, Pt.locs, Pt.cells, Pt.slots] at X26 l26 y26 z26 st26 hQ26
  subst y26 z26
  obtain ⟨rfl, Nq26, Kq26, Eq26, Cq26, t26, kb26, gt26, szt26, nt26, Vq26, Bq26⟩ := hQ26
  have N26 : Fr n0 L26 := by rw [l26]; exact Fr.app N11 Nq26
  have Kp27 : Keep h0 T26.heap [] := Kp15.trans Kq26 (allS (Or.inr (Nat.le_trans Kp12.1 (Nat.le_of_eq g14.symm))) all0)
  have Old28 : Old Z n0 T26.heap := Old25.keep Kq26 (allS gh21 all0)
  obtain ⟨_, _, ⟨T29, L29, k29, n29⟩, -, X29, ⟨Lc29, hQ29, l29, y29, z29⟩, st29⟩ := Jvm.LawKit.callS X26 hx (y := (⟨"java/util/Optional", "empty", "()Ljava/util/Optional;"⟩ : MethodName)) hown (mvT hZ (hw _ (List.mem_of_getElem? (i := 117) rfl))) (mvT hZ (hw _ (List.mem_of_getElem? (i := 118) rfl))) (mvT hZ (hw _ (List.mem_of_getElem? (i := 66) rfl))) (mvT hZ (hw _ (List.mem_of_getElem? (i := 119) rfl))) (by decide) (backOf (W := 0) (own_rm_empty l Z a0 hw [] G1 k_EMPTY gl  T26.heap n0 (Nat.le_trans Z0 Kp27.1) Old28 ) hZ (hw _ (List.mem_of_getElem? (i := 119) rfl)) (hw _ (List.mem_of_getElem? (i := 66) rfl)) (by decide) (by decide)) (g := (mkF m 135 #[.val (.int p1), .val (.int p2), .val (.int p3), .val (.int p4), .val (.long q5), .second, .val (.int p6), .val (.int (0 : Int32)), .val (.int (own_t0 q5)), .val (.int (own_t1 q5 (8 : Int32))), .val (.int (own_t1 q5 (16 : Int32))), .val (.int (2 : Int32)), .val (.ref b2), .val (.ref b14), .unset, .unset, .unset] [])) rfl (by rw [hml]; rfl) (argsL := []) (rest := []) (lenOf own_pd13 rfl) rfl (by show 2 * 0 + _ ≤ _; exact Nat.le_of_eq rfl) (hb hby at_135) (fun _ _ => ⟨rfl, rfl, (by decide : 3 + 0 ≤ _), (by decide : 8 + 0 ≤ _)⟩)
  dsimp only [Pt.U, Pt.locs, Pt.cells, Pt.slots] at X29 l29 y29 z29 st29 hQ29
  subst y29 z29
  obtain ⟨rfl, Nq29, e29⟩ := hQ29
  have N29 : Fr n0 L29 := by rw [l29]; exact Fr.app N26 Nq29
  obtain ⟨T30, h30, X30, e30, E30, A30, D30, U30, st30⟩ := newO X29 hx hZ hown (hw _ (List.mem_of_getElem? (i := 80) rfl)) (hw _ (List.mem_of_getElem? (i := 81) rfl)) (hw _ (List.mem_of_getElem? (i := 82) rfl)) e29 (g := (mkF m 168 #[.val (.int p1), .val (.int p2), .val (.int p3), .val (.int p4), .val (.long q5), .second, .val (.int p6), .val (.int (0 : Int32)), .val (.int (own_t0 q5)), .val (.int (own_t1 q5 (8 : Int32))), .val (.int (own_t1 q5 (16 : Int32))), .val (.int (2 : Int32)), .val (.ref b2), .val (.ref b14), .val (.ref k_EMPTY), .unset, .unset] [])) rfl (hb hby at_168) (by decide) (by decide)
  obtain ⟨b30, g30⟩ : ∃ z, z = T26.heap.size := ⟨_, rfl⟩
  rw [← g30] at A30 D30 U30 st30
  have Kp31 : Keep h0 h30 [] := Kp27.ext E30
  have Fh32 : Fld Z h30 b30 "com/example/leftmost/leftmost/tree/ParseTree$Node" "index" "I" (.int (0 : Int32)) := (D30 (Or.inr (hw _ (List.mem_of_getElem? (i := 88) rfl))) (ty := .int) (by decide))
  have gh33 : n0 ≤ b30 := Nat.le_trans (Nat.le_trans Z0 Kp27.1) (Nat.le_of_eq g30.symm)
  have Fh34 : Fld Z h30 b30 "com/example/leftmost/leftmost/tree/ParseTree$Node" "parent" "I" (.int (0 : Int32)) := (D30 (Or.inr (hw _ (List.mem_of_getElem? (i := 90) rfl))) (ty := .int) (by decide))
  have Fh35 : Fld Z h30 b30 "com/example/leftmost/leftmost/tree/ParseTree$Node" "depth" "I" (.int (0 : Int32)) := (D30 (Or.inr (hw _ (List.mem_of_getElem? (i := 92) rfl))) (ty := .int) (by decide))
  have Fh36 : Fld Z h30 b30 "com/example/leftmost/leftmost/tree/ParseTree$Node" "symbol" "Ljava/util/Optional;" .null := (D30 (Or.inr (hw _ (List.mem_of_getElem? (i := 94) rfl))) (ty := (.object "java/util/Optional")) (by decide))
  obtain ⟨_, _, ⟨T37, L37, k37, n37⟩, -, X37, ⟨Lc37, hQ37, l37, y37, z37⟩, st37⟩ := X30.specialBack hx (y := (⟨"com/example/leftmost/leftmost/tree/ParseTree$Node", "<init>", "(IIILjava/util/Optional;)V"⟩ : MethodName)) rfl hown (mvT hZ (hw _ (List.mem_of_getElem? (i := 83) rfl))) (mvT hZ (hw _ (List.mem_of_getElem? (i := 84) rfl))) (mvT hZ (hw _ (List.mem_of_getElem? (i := 85) rfl))) (by decide) (backOf (W := 1) (own_rm_node l Z a0 hw [] G1 k_EMPTY gl b30 p1 p2 p3 k_EMPTY ((.int (0 : Int32))) ((.int (0 : Int32))) ((.int (0 : Int32))) (.null) h30 n0 (Nat.le_trans Z0 Kp31.1) A30 Fh32 gh33 Fh34 Fh35 Fh36) hZ (hw _ (List.mem_of_getElem? (i := 85) rfl)) (hw _ (List.mem_of_getElem? (i := 82) rfl)) (by decide) (by decide)) (g := (mkF m 177 #[.val (.int p1), .val (.int p2), .val (.int p3), .val (.int p4), .val (.long q5), .second, .val (.int p6), .val (.int (0 : Int32)), .val (.int (own_t0 q5)), .val (.int (own_t1 q5 (8 : Int32))), .val (.int (own_t1 q5 (16 : Int32))), .val (.int (2 : Int32)), .val (.ref b2), .val (.ref b14), .val (.ref k_EMPTY), .unset, .unset] [(.ref k_EMPTY), (.int p3), (.int p2), (.int p1), (.ref b30), (.ref b30)])) rfl (by rw [hml]; rfl) (Steps.refl _) (a := b30) (argsL := [(.int p1), (.int p2), (.int p3), (.ref k_EMPTY)]) (rest := [(.ref b30)]) (lenOf own_pd14 rfl) rfl (by show 2 * 0 + _ ≤ _; exact Nat.le_of_eq rfl) (hb hby at_177) (fun _ _ => ⟨rfl, e30, (by decide : 4 + 0 ≤ _), (by decide : 12 + 0 ≤ _)⟩)
  dsimp only [Pt.U, Pt.locs, Pt.cells, Pt.slots] at X37 l37 y37 z37 st37 hQ37
  subst y37 z37
  obtain ⟨rfl, Nq37, Kq37, f37_0, f37_1, f37_2, f37_3, f37_4⟩ := hQ37
  have N37 : Fr n0 L37 := by rw [l37]; exact Fr.app N29 Nq37
  have Kp38 : Keep h0 T37.heap [] := Kp31.trans Kq37 (allS (Or.inr (Nat.le_trans Kp27.1 (Nat.le_of_eq g30.symm))) all0)
  have Old39 : Old Z n0 h30 := Old28.ext E30
  have Old40 : Old Z n0 T37.heap := Old39.keep Kq37 (allS gh33 all0)
  obtain ⟨cq41, kq41, q41a, q41b, q41c⟩ := isOf hZ rfl f37_0
  obtain ⟨_, _, ⟨T41, L41, k41, n41⟩, -, X41, ⟨Lc41, hQ41, l41, y41, z41⟩, st41⟩ := X37.virtualBack hx (y := (⟨"com/example/leftmost/leftmost/tree/ParseTree$Node", "isLeaf", "()Z"⟩ : MethodName)) (z := (⟨"com/example/leftmost/leftmost/tree/ParseTree$Node", "isLeaf", "()Z"⟩ : MethodName)) hown (mvT hZ (hw _ (List.mem_of_getElem? (i := 95) rfl))) (mvT hZ (hw _ (List.mem_of_getElem? (i := 96) rfl))) (notFace_of_selects (args := #[]) (mvT hZ (hw _ (List.mem_of_getElem? (i := 98) rfl)))) (mvT hZ (hw _ (List.mem_of_getElem? (i := 98) rfl))) (mvT hZ (hw _ (List.mem_of_getElem? (i := 97) rfl))) (by decide) (backOf (W := 0) (own_rm_leafE l Z a0 hw [] G1 k_EMPTY gl b30 T37.heap n0 (Nat.le_trans Z0 Kp38.1) Old40 f37_4) hZ (hw _ (List.mem_of_getElem? (i := 99) rfl)) (hw _ (List.mem_of_getElem? (i := 82) rfl)) (by decide) (by decide)) q41a q41c (g := (mkF m 197 #[.val (.int p1), .val (.int p2), .val (.int p3), .val (.int p4), .val (.long q5), .second, .val (.int p6), .val (.int (0 : Int32)), .val (.int (own_t0 q5)), .val (.int (own_t1 q5 (8 : Int32))), .val (.int (own_t1 q5 (16 : Int32))), .val (.int (2 : Int32)), .val (.ref b2), .val (.ref b14), .val (.ref k_EMPTY), .val (.ref b30), .val (.int (1 : Int32))] [(.ref b30)])) rfl (by rw [hml]; rfl) (Steps.refl _) (argsL := []) (rest := []) (lenOf own_pd7 rfl) rfl (by show 2 * 0 + _ ≤ _; exact Nat.le_of_eq rfl) (hb hby at_197) (fun _ _ => ⟨rfl, rfl, (by decide : 4 + 0 ≤ _), (by decide : 12 + 0 ≤ _)⟩)
  dsimp only [Pt.U, Pt.locs, Pt.cells, Pt.slots] at X41 l41 y41 z41 st41 hQ41
  subst y41 z41
  obtain ⟨rfl, Nq41, e41⟩ := hQ41
  have N41 : Fr n0 L41 := by rw [l41]; exact Fr.app N37 Nq41
  obtain ⟨fs, hr, hrun, hended, hW, hsame⟩ := X41.leave (v := some (.int (1 : Int32))) (fun h => by rw [Bd.returns] at h; cases h)
  refine ⟨_, _, pre0 _ ?_, hrun, hended, _, _, rfl, ?_, ReturnedEndW.of_narrow ⟨_, rfl⟩ hW (hsame.mono (by decide) (by decide))⟩
  · show Steps p.tables e below (s₁.setTop (mkF m 0 #[.val (.int p1), .val (.int p2), .val (.int p3), .val (.int p4), .val (.long q5), .second, .val (.int p6), .unset, .unset, .unset, .unset, .unset, .unset, .unset, .unset, .unset, .unset] [])) _
    refine XS.iloadN X0.here hx rfl (hb hby at_0) rfl ?_
    show Steps p.tables e below (s₁.setTop (mkF m 1 #[.val (.int p1), .val (.int p2), .val (.int p3), .val (.int p4), .val (.long q5), .second, .val (.int p6), .unset, .unset, .unset, .unset, .unset, .unset, .unset, .unset, .unset, .unset] [(.int p4)])) _
    refine X0.ldcInt hx hown (mvT hZ (hw _ (List.mem_of_getElem? (i := 0) rfl))) (g := (mkF m 1 #[.val (.int p1), .val (.int p2), .val (.int p3), .val (.int p4), .val (.long q5), .second, .val (.int p6), .unset, .unset, .unset, .unset, .unset, .unset, .unset, .unset, .unset, .unset] [(.int p4)])) rfl (hb hby at_1) _ ?_
    show Steps p.tables e below (s₁.setTop (mkF m 3 #[.val (.int p1), .val (.int p2), .val (.int p3), .val (.int p4), .val (.long q5), .second, .val (.int p6), .unset, .unset, .unset, .unset, .unset, .unset, .unset, .unset, .unset, .unset] [(.int (2147483647 : Int32)), (.int p4)])) _
    refine XS.iand X0.here hx rfl (hb hby at_3) rfl ?_
    show Steps p.tables e below (s₁.setTop (mkF m 4 #[.val (.int p1), .val (.int p2), .val (.int p3), .val (.int p4), .val (.long q5), .second, .val (.int p6), .unset, .unset, .unset, .unset, .unset, .unset, .unset, .unset, .unset, .unset] [(.int (p4 &&& (2147483647 : Int32)))])) _
    refine XS.iconst X0.here hx rfl (hb hby at_4) ?_
    show Steps p.tables e below (s₁.setTop (mkF m 5 #[.val (.int p1), .val (.int p2), .val (.int p3), .val (.int p4), .val (.long q5), .second, .val (.int p6), .unset, .unset, .unset, .unset, .unset, .unset, .unset, .unset, .unset, .unset] [(.int (3 : Int32)), (.int (p4 &&& (2147483647 : Int32)))])) _
    refine iremM X0 hx rfl (hb hby at_5) rfl (by decide) ?_
    show Steps p.tables e below (s₁.setTop (mkF m 6 #[.val (.int p1), .val (.int p2), .val (.int p3), .val (.int p4), .val (.long q5), .second, .val (.int p6), .unset, .unset, .unset, .unset, .unset, .unset, .unset, .unset, .unset, .unset] [(.int (own_kd p4))])) _
    rw [hk]
    show Steps p.tables e below (s₁.setTop (mkF m 6 #[.val (.int p1), .val (.int p2), .val (.int p3), .val (.int p4), .val (.long q5), .second, .val (.int p6), .unset, .unset, .unset, .unset, .unset, .unset, .unset, .unset, .unset, .unset] [(.int (0 : Int32))])) _
    refine XS.istore X0.here hx rfl (hb hby at_6) rfl (l' := #[.val (.int p1), .val (.int p2), .val (.int p3), .val (.int p4), .val (.long q5), .second, .val (.int p6), .val (.int (0 : Int32)), .unset, .unset, .unset, .unset, .unset, .unset, .unset, .unset, .unset]) rfl ?_
    show Steps p.tables e below (s₁.setTop (mkF m 8 #[.val (.int p1), .val (.int p2), .val (.int p3), .val (.int p4), .val (.long q5), .second, .val (.int p6), .val (.int (0 : Int32)), .unset, .unset, .unset, .unset, .unset, .unset, .unset, .unset, .unset] [])) _
    refine XS.lload X0.here hx rfl (hb hby at_8) rfl ?_
    show Steps p.tables e below (s₁.setTop (mkF m 10 #[.val (.int p1), .val (.int p2), .val (.int p3), .val (.int p4), .val (.long q5), .second, .val (.int p6), .val (.int (0 : Int32)), .unset, .unset, .unset, .unset, .unset, .unset, .unset, .unset, .unset] [(.long q5)])) _
    refine X0.ldc2Long hx hown (mvT hZ (hw _ (List.mem_of_getElem? (i := 1) rfl))) (g := (mkF m 10 #[.val (.int p1), .val (.int p2), .val (.int p3), .val (.int p4), .val (.long q5), .second, .val (.int p6), .val (.int (0 : Int32)), .unset, .unset, .unset, .unset, .unset, .unset, .unset, .unset, .unset] [(.long q5)])) rfl (hb hby at_10) _ ?_
    show Steps p.tables e below (s₁.setTop (mkF m 13 #[.val (.int p1), .val (.int p2), .val (.int p3), .val (.int p4), .val (.long q5), .second, .val (.int p6), .val (.int (0 : Int32)), .unset, .unset, .unset, .unset, .unset, .unset, .unset, .unset, .unset] [(.long (255 : Int64)), (.long q5)])) _
    refine XS.land X0.here hx rfl (hb hby at_13) rfl ?_
    show Steps p.tables e below (s₁.setTop (mkF m 14 #[.val (.int p1), .val (.int p2), .val (.int p3), .val (.int p4), .val (.long q5), .second, .val (.int p6), .val (.int (0 : Int32)), .unset, .unset, .unset, .unset, .unset, .unset, .unset, .unset, .unset] [(.long (q5 &&& (255 : Int64)))])) _
    refine XS.l2i X0.here hx rfl (hb hby at_14) rfl ?_
    show Steps p.tables e below (s₁.setTop (mkF m 15 #[.val (.int p1), .val (.int p2), .val (.int p3), .val (.int p4), .val (.long q5), .second, .val (.int p6), .val (.int (0 : Int32)), .unset, .unset, .unset, .unset, .unset, .unset, .unset, .unset, .unset] [(.int ((q5 &&& (255 : Int64)).toInt32))])) _
    refine XS.i2c X0.here hx rfl (hb hby at_15) rfl ?_
    show Steps p.tables e below (s₁.setTop (mkF m 16 #[.val (.int p1), .val (.int p2), .val (.int p3), .val (.int p4), .val (.long q5), .second, .val (.int p6), .val (.int (0 : Int32)), .unset, .unset, .unset, .unset, .unset, .unset, .unset, .unset, .unset] [(.int (own_t0 q5))])) _
    refine XS.istore X0.here hx rfl (hb hby at_16) rfl (l' := #[.val (.int p1), .val (.int p2), .val (.int p3), .val (.int p4), .val (.long q5), .second, .val (.int p6), .val (.int (0 : Int32)), .val (.int (own_t0 q5)), .unset, .unset, .unset, .unset, .unset, .unset, .unset, .unset]) rfl ?_
    show Steps p.tables e below (s₁.setTop (mkF m 18 #[.val (.int p1), .val (.int p2), .val (.int p3), .val (.int p4), .val (.long q5), .second, .val (.int p6), .val (.int (0 : Int32)), .val (.int (own_t0 q5)), .unset, .unset, .unset, .unset, .unset, .unset, .unset, .unset] [])) _
    refine XS.lload X0.here hx rfl (hb hby at_18) rfl ?_
    show Steps p.tables e below (s₁.setTop (mkF m 20 #[.val (.int p1), .val (.int p2), .val (.int p3), .val (.int p4), .val (.long q5), .second, .val (.int p6), .val (.int (0 : Int32)), .val (.int (own_t0 q5)), .unset, .unset, .unset, .unset, .unset, .unset, .unset, .unset] [(.long q5)])) _
    refine XS.bipush X0.here hx rfl (hb hby at_20) ?_
    show Steps p.tables e below (s₁.setTop (mkF m 22 #[.val (.int p1), .val (.int p2), .val (.int p3), .val (.int p4), .val (.long q5), .second, .val (.int p6), .val (.int (0 : Int32)), .val (.int (own_t0 q5)), .unset, .unset, .unset, .unset, .unset, .unset, .unset, .unset] [(.int (8 : Int32)), (.long q5)])) _
    refine XS.lushr X0.here hx rfl (hb hby at_22) rfl ?_
    show Steps p.tables e below (s₁.setTop (mkF m 23 #[.val (.int p1), .val (.int p2), .val (.int p3), .val (.int p4), .val (.long q5), .second, .val (.int p6), .val (.int (0 : Int32)), .val (.int (own_t0 q5)), .unset, .unset, .unset, .unset, .unset, .unset, .unset, .unset] [(.long ((q5.toUInt64 >>> ((8 : Int32) &&& 0x3f).toInt64.toUInt64).toInt64))])) _
    refine X0.ldc2Long hx hown (mvT hZ (hw _ (List.mem_of_getElem? (i := 1) rfl))) (g := (mkF m 23 #[.val (.int p1), .val (.int p2), .val (.int p3), .val (.int p4), .val (.long q5), .second, .val (.int p6), .val (.int (0 : Int32)), .val (.int (own_t0 q5)), .unset, .unset, .unset, .unset, .unset, .unset, .unset, .unset] [(.long ((q5.toUInt64 >>> ((8 : Int32) &&& 0x3f).toInt64.toUInt64).toInt64))])) rfl (hb hby at_23) _ ?_
    show Steps p.tables e below (s₁.setTop (mkF m 26 #[.val (.int p1), .val (.int p2), .val (.int p3), .val (.int p4), .val (.long q5), .second, .val (.int p6), .val (.int (0 : Int32)), .val (.int (own_t0 q5)), .unset, .unset, .unset, .unset, .unset, .unset, .unset, .unset] [(.long (255 : Int64)), (.long ((q5.toUInt64 >>> ((8 : Int32) &&& 0x3f).toInt64.toUInt64).toInt64))])) _
    refine XS.land X0.here hx rfl (hb hby at_26) rfl ?_
    show Steps p.tables e below (s₁.setTop (mkF m 27 #[.val (.int p1), .val (.int p2), .val (.int p3), .val (.int p4), .val (.long q5), .second, .val (.int p6), .val (.int (0 : Int32)), .val (.int (own_t0 q5)), .unset, .unset, .unset, .unset, .unset, .unset, .unset, .unset] [(.long (((q5.toUInt64 >>> ((8 : Int32) &&& 0x3f).toInt64.toUInt64).toInt64) &&& (255 : Int64)))])) _
    refine XS.l2i X0.here hx rfl (hb hby at_27) rfl ?_
    show Steps p.tables e below (s₁.setTop (mkF m 28 #[.val (.int p1), .val (.int p2), .val (.int p3), .val (.int p4), .val (.long q5), .second, .val (.int p6), .val (.int (0 : Int32)), .val (.int (own_t0 q5)), .unset, .unset, .unset, .unset, .unset, .unset, .unset, .unset] [(.int ((((q5.toUInt64 >>> ((8 : Int32) &&& 0x3f).toInt64.toUInt64).toInt64) &&& (255 : Int64)).toInt32))])) _
    refine XS.i2c X0.here hx rfl (hb hby at_28) rfl ?_
    show Steps p.tables e below (s₁.setTop (mkF m 29 #[.val (.int p1), .val (.int p2), .val (.int p3), .val (.int p4), .val (.long q5), .second, .val (.int p6), .val (.int (0 : Int32)), .val (.int (own_t0 q5)), .unset, .unset, .unset, .unset, .unset, .unset, .unset, .unset] [(.int (own_t1 q5 (8 : Int32)))])) _
    refine XS.istore X0.here hx rfl (hb hby at_29) rfl (l' := #[.val (.int p1), .val (.int p2), .val (.int p3), .val (.int p4), .val (.long q5), .second, .val (.int p6), .val (.int (0 : Int32)), .val (.int (own_t0 q5)), .val (.int (own_t1 q5 (8 : Int32))), .unset, .unset, .unset, .unset, .unset, .unset, .unset]) rfl ?_
    show Steps p.tables e below (s₁.setTop (mkF m 31 #[.val (.int p1), .val (.int p2), .val (.int p3), .val (.int p4), .val (.long q5), .second, .val (.int p6), .val (.int (0 : Int32)), .val (.int (own_t0 q5)), .val (.int (own_t1 q5 (8 : Int32))), .unset, .unset, .unset, .unset, .unset, .unset, .unset] [])) _
    refine XS.lload X0.here hx rfl (hb hby at_31) rfl ?_
    show Steps p.tables e below (s₁.setTop (mkF m 33 #[.val (.int p1), .val (.int p2), .val (.int p3), .val (.int p4), .val (.long q5), .second, .val (.int p6), .val (.int (0 : Int32)), .val (.int (own_t0 q5)), .val (.int (own_t1 q5 (8 : Int32))), .unset, .unset, .unset, .unset, .unset, .unset, .unset] [(.long q5)])) _
    refine XS.bipush X0.here hx rfl (hb hby at_33) ?_
    show Steps p.tables e below (s₁.setTop (mkF m 35 #[.val (.int p1), .val (.int p2), .val (.int p3), .val (.int p4), .val (.long q5), .second, .val (.int p6), .val (.int (0 : Int32)), .val (.int (own_t0 q5)), .val (.int (own_t1 q5 (8 : Int32))), .unset, .unset, .unset, .unset, .unset, .unset, .unset] [(.int (16 : Int32)), (.long q5)])) _
    refine XS.lushr X0.here hx rfl (hb hby at_35) rfl ?_
    show Steps p.tables e below (s₁.setTop (mkF m 36 #[.val (.int p1), .val (.int p2), .val (.int p3), .val (.int p4), .val (.long q5), .second, .val (.int p6), .val (.int (0 : Int32)), .val (.int (own_t0 q5)), .val (.int (own_t1 q5 (8 : Int32))), .unset, .unset, .unset, .unset, .unset, .unset, .unset] [(.long ((q5.toUInt64 >>> ((16 : Int32) &&& 0x3f).toInt64.toUInt64).toInt64))])) _
    refine X0.ldc2Long hx hown (mvT hZ (hw _ (List.mem_of_getElem? (i := 1) rfl))) (g := (mkF m 36 #[.val (.int p1), .val (.int p2), .val (.int p3), .val (.int p4), .val (.long q5), .second, .val (.int p6), .val (.int (0 : Int32)), .val (.int (own_t0 q5)), .val (.int (own_t1 q5 (8 : Int32))), .unset, .unset, .unset, .unset, .unset, .unset, .unset] [(.long ((q5.toUInt64 >>> ((16 : Int32) &&& 0x3f).toInt64.toUInt64).toInt64))])) rfl (hb hby at_36) _ ?_
    show Steps p.tables e below (s₁.setTop (mkF m 39 #[.val (.int p1), .val (.int p2), .val (.int p3), .val (.int p4), .val (.long q5), .second, .val (.int p6), .val (.int (0 : Int32)), .val (.int (own_t0 q5)), .val (.int (own_t1 q5 (8 : Int32))), .unset, .unset, .unset, .unset, .unset, .unset, .unset] [(.long (255 : Int64)), (.long ((q5.toUInt64 >>> ((16 : Int32) &&& 0x3f).toInt64.toUInt64).toInt64))])) _
    refine XS.land X0.here hx rfl (hb hby at_39) rfl ?_
    show Steps p.tables e below (s₁.setTop (mkF m 40 #[.val (.int p1), .val (.int p2), .val (.int p3), .val (.int p4), .val (.long q5), .second, .val (.int p6), .val (.int (0 : Int32)), .val (.int (own_t0 q5)), .val (.int (own_t1 q5 (8 : Int32))), .unset, .unset, .unset, .unset, .unset, .unset, .unset] [(.long (((q5.toUInt64 >>> ((16 : Int32) &&& 0x3f).toInt64.toUInt64).toInt64) &&& (255 : Int64)))])) _
    refine XS.l2i X0.here hx rfl (hb hby at_40) rfl ?_
    show Steps p.tables e below (s₁.setTop (mkF m 41 #[.val (.int p1), .val (.int p2), .val (.int p3), .val (.int p4), .val (.long q5), .second, .val (.int p6), .val (.int (0 : Int32)), .val (.int (own_t0 q5)), .val (.int (own_t1 q5 (8 : Int32))), .unset, .unset, .unset, .unset, .unset, .unset, .unset] [(.int ((((q5.toUInt64 >>> ((16 : Int32) &&& 0x3f).toInt64.toUInt64).toInt64) &&& (255 : Int64)).toInt32))])) _
    refine XS.i2c X0.here hx rfl (hb hby at_41) rfl ?_
    show Steps p.tables e below (s₁.setTop (mkF m 42 #[.val (.int p1), .val (.int p2), .val (.int p3), .val (.int p4), .val (.long q5), .second, .val (.int p6), .val (.int (0 : Int32)), .val (.int (own_t0 q5)), .val (.int (own_t1 q5 (8 : Int32))), .unset, .unset, .unset, .unset, .unset, .unset, .unset] [(.int (own_t1 q5 (16 : Int32)))])) _
    refine XS.istore X0.here hx rfl (hb hby at_42) rfl (l' := #[.val (.int p1), .val (.int p2), .val (.int p3), .val (.int p4), .val (.long q5), .second, .val (.int p6), .val (.int (0 : Int32)), .val (.int (own_t0 q5)), .val (.int (own_t1 q5 (8 : Int32))), .val (.int (own_t1 q5 (16 : Int32))), .unset, .unset, .unset, .unset, .unset, .unset]) rfl ?_
    show Steps p.tables e below (s₁.setTop (mkF m 44 #[.val (.int p1), .val (.int p2), .val (.int p3), .val (.int p4), .val (.long q5), .second, .val (.int p6), .val (.int (0 : Int32)), .val (.int (own_t0 q5)), .val (.int (own_t1 q5 (8 : Int32))), .val (.int (own_t1 q5 (16 : Int32))), .unset, .unset, .unset, .unset, .unset, .unset] [])) _
    refine XS.iconst X0.here hx rfl (hb hby at_44) ?_
    show Steps p.tables e below (s₁.setTop (mkF m 45 #[.val (.int p1), .val (.int p2), .val (.int p3), .val (.int p4), .val (.long q5), .second, .val (.int p6), .val (.int (0 : Int32)), .val (.int (own_t0 q5)), .val (.int (own_t1 q5 (8 : Int32))), .val (.int (own_t1 q5 (16 : Int32))), .unset, .unset, .unset, .unset, .unset, .unset] [(.int (1 : Int32))])) _
    refine XS.iconst X0.here hx rfl (hb hby at_45) ?_
    show Steps p.tables e below (s₁.setTop (mkF m 46 #[.val (.int p1), .val (.int p2), .val (.int p3), .val (.int p4), .val (.long q5), .second, .val (.int p6), .val (.int (0 : Int32)), .val (.int (own_t0 q5)), .val (.int (own_t1 q5 (8 : Int32))), .val (.int (own_t1 q5 (16 : Int32))), .unset, .unset, .unset, .unset, .unset, .unset] [(.int (2 : Int32)), (.int (1 : Int32))])) _
    refine XS.iload X0.here hx rfl (hb hby at_46) rfl ?_
    show Steps p.tables e below (s₁.setTop (mkF m 48 #[.val (.int p1), .val (.int p2), .val (.int p3), .val (.int p4), .val (.long q5), .second, .val (.int p6), .val (.int (0 : Int32)), .val (.int (own_t0 q5)), .val (.int (own_t1 q5 (8 : Int32))), .val (.int (own_t1 q5 (16 : Int32))), .unset, .unset, .unset, .unset, .unset, .unset] [(.int p6), (.int (2 : Int32)), (.int (1 : Int32))])) _
    refine XS.iconst X0.here hx rfl (hb hby at_48) ?_
    show Steps p.tables e below (s₁.setTop (mkF m 49 #[.val (.int p1), .val (.int p2), .val (.int p3), .val (.int p4), .val (.long q5), .second, .val (.int p6), .val (.int (0 : Int32)), .val (.int (own_t0 q5)), .val (.int (own_t1 q5 (8 : Int32))), .val (.int (own_t1 q5 (16 : Int32))), .unset, .unset, .unset, .unset, .unset, .unset] [(.int (3 : Int32)), (.int p6), (.int (2 : Int32)), (.int (1 : Int32))])) _
    refine XS.iand X0.here hx rfl (hb hby at_49) rfl ?_
    show Steps p.tables e below (s₁.setTop (mkF m 50 #[.val (.int p1), .val (.int p2), .val (.int p3), .val (.int p4), .val (.long q5), .second, .val (.int p6), .val (.int (0 : Int32)), .val (.int (own_t0 q5)), .val (.int (own_t1 q5 (8 : Int32))), .val (.int (own_t1 q5 (16 : Int32))), .unset, .unset, .unset, .unset, .unset, .unset] [(.int (own_a3 p6)), (.int (2 : Int32)), (.int (1 : Int32))])) _
    rw [hn]
    show Steps p.tables e below (s₁.setTop (mkF m 50 #[.val (.int p1), .val (.int p2), .val (.int p3), .val (.int p4), .val (.long q5), .second, .val (.int p6), .val (.int (0 : Int32)), .val (.int (own_t0 q5)), .val (.int (own_t1 q5 (8 : Int32))), .val (.int (own_t1 q5 (16 : Int32))), .unset, .unset, .unset, .unset, .unset, .unset] [(.int (1 : Int32)), (.int (2 : Int32)), (.int (1 : Int32))])) _
    refine st1 _ ?_
    show Steps p.tables e below (T1.setTop (mkF m 53 #[.val (.int p1), .val (.int p2), .val (.int p3), .val (.int p4), .val (.long q5), .second, .val (.int p6), .val (.int (0 : Int32)), .val (.int (own_t0 q5)), .val (.int (own_t1 q5 (8 : Int32))), .val (.int (own_t1 q5 (16 : Int32))), .unset, .unset, .unset, .unset, .unset, .unset] [(.int (1 : Int32)), (.int (1 : Int32))])) _
    refine XS.iadd X1.here hx rfl (hb hby at_53) rfl ?_
    show Steps p.tables e below (T1.setTop (mkF m 54 #[.val (.int p1), .val (.int p2), .val (.int p3), .val (.int p4), .val (.long q5), .second, .val (.int p6), .val (.int (0 : Int32)), .val (.int (own_t0 q5)), .val (.int (own_t1 q5 (8 : Int32))), .val (.int (own_t1 q5 (16 : Int32))), .unset, .unset, .unset, .unset, .unset, .unset] [(.int (2 : Int32))])) _
    refine XS.istore X1.here hx rfl (hb hby at_54) rfl (l' := #[.val (.int p1), .val (.int p2), .val (.int p3), .val (.int p4), .val (.long q5), .second, .val (.int p6), .val (.int (0 : Int32)), .val (.int (own_t0 q5)), .val (.int (own_t1 q5 (8 : Int32))), .val (.int (own_t1 q5 (16 : Int32))), .val (.int (2 : Int32)), .unset, .unset, .unset, .unset, .unset]) rfl ?_
    show Steps p.tables e below (T1.setTop (mkF m 56 #[.val (.int p1), .val (.int p2), .val (.int p3), .val (.int p4), .val (.long q5), .second, .val (.int p6), .val (.int (0 : Int32)), .val (.int (own_t0 q5)), .val (.int (own_t1 q5 (8 : Int32))), .val (.int (own_t1 q5 (16 : Int32))), .val (.int (2 : Int32)), .unset, .unset, .unset, .unset, .unset] [])) _
    refine XS.iload X1.here hx rfl (hb hby at_56) rfl ?_
    show Steps p.tables e below (T1.setTop (mkF m 58 #[.val (.int p1), .val (.int p2), .val (.int p3), .val (.int p4), .val (.long q5), .second, .val (.int p6), .val (.int (0 : Int32)), .val (.int (own_t0 q5)), .val (.int (own_t1 q5 (8 : Int32))), .val (.int (own_t1 q5 (16 : Int32))), .val (.int (2 : Int32)), .unset, .unset, .unset, .unset, .unset] [(.int (2 : Int32))])) _
    refine XS.iconst X1.here hx rfl (hb hby at_58) ?_
    show Steps p.tables e below (T1.setTop (mkF m 59 #[.val (.int p1), .val (.int p2), .val (.int p3), .val (.int p4), .val (.long q5), .second, .val (.int p6), .val (.int (0 : Int32)), .val (.int (own_t0 q5)), .val (.int (own_t1 q5 (8 : Int32))), .val (.int (own_t1 q5 (16 : Int32))), .val (.int (2 : Int32)), .unset, .unset, .unset, .unset, .unset] [(.int (1 : Int32)), (.int (2 : Int32))])) _
    refine XS.icmpYes X1.here hx rfl (pc0 := 59) (pc' := 75) rfl (hb hby at_59) rfl (feq (by decide : ¬ ((2 : Int32) = (1 : Int32)))).2 (by decide) (by decide) ?_
    show Steps p.tables e below (T1.setTop (mkF m 75 #[.val (.int p1), .val (.int p2), .val (.int p3), .val (.int p4), .val (.long q5), .second, .val (.int p6), .val (.int (0 : Int32)), .val (.int (own_t0 q5)), .val (.int (own_t1 q5 (8 : Int32))), .val (.int (own_t1 q5 (16 : Int32))), .val (.int (2 : Int32)), .unset, .unset, .unset, .unset, .unset] [])) _
    refine XS.iload X1.here hx rfl (hb hby at_75) rfl ?_
    show Steps p.tables e below (T1.setTop (mkF m 77 #[.val (.int p1), .val (.int p2), .val (.int p3), .val (.int p4), .val (.long q5), .second, .val (.int p6), .val (.int (0 : Int32)), .val (.int (own_t0 q5)), .val (.int (own_t1 q5 (8 : Int32))), .val (.int (own_t1 q5 (16 : Int32))), .val (.int (2 : Int32)), .unset, .unset, .unset, .unset, .unset] [(.int (2 : Int32))])) _
    refine XS.iconst X1.here hx rfl (hb hby at_77) ?_
    show Steps p.tables e below (T1.setTop (mkF m 78 #[.val (.int p1), .val (.int p2), .val (.int p3), .val (.int p4), .val (.long q5), .second, .val (.int p6), .val (.int (0 : Int32)), .val (.int (own_t0 q5)), .val (.int (own_t1 q5 (8 : Int32))), .val (.int (own_t1 q5 (16 : Int32))), .val (.int (2 : Int32)), .unset, .unset, .unset, .unset, .unset] [(.int (2 : Int32)), (.int (2 : Int32))])) _
    refine XS.icmpNo X1.here hx rfl (hb hby at_78) rfl (teq (rfl : (2 : Int32) = (2 : Int32))).2 ?_
    show Steps p.tables e below (T1.setTop (mkF m 81 #[.val (.int p1), .val (.int p2), .val (.int p3), .val (.int p4), .val (.long q5), .second, .val (.int p6), .val (.int (0 : Int32)), .val (.int (own_t0 q5)), .val (.int (own_t1 q5 (8 : Int32))), .val (.int (own_t1 q5 (16 : Int32))), .val (.int (2 : Int32)), .unset, .unset, .unset, .unset, .unset] [])) _
    refine XS.iconst X1.here hx rfl (hb hby at_81) ?_
    show Steps p.tables e below (T1.setTop (mkF m 82 #[.val (.int p1), .val (.int p2), .val (.int p3), .val (.int p4), .val (.long q5), .second, .val (.int p6), .val (.int (0 : Int32)), .val (.int (own_t0 q5)), .val (.int (own_t1 q5 (8 : Int32))), .val (.int (own_t1 q5 (16 : Int32))), .val (.int (2 : Int32)), .unset, .unset, .unset, .unset, .unset] [(.int (2 : Int32))])) _
    refine st2 _ ?_
    show Steps p.tables e below (T2.setTop (mkF m 84 #[.val (.int p1), .val (.int p2), .val (.int p3), .val (.int p4), .val (.long q5), .second, .val (.int p6), .val (.int (0 : Int32)), .val (.int (own_t0 q5)), .val (.int (own_t1 q5 (8 : Int32))), .val (.int (own_t1 q5 (16 : Int32))), .val (.int (2 : Int32)), .unset, .unset, .unset, .unset, .unset] [(.ref b2)])) _
    refine XS.dup X2.here hx rfl (hb hby at_84) rfl rfl ?_
    show Steps p.tables e below (T2.setTop (mkF m 85 #[.val (.int p1), .val (.int p2), .val (.int p3), .val (.int p4), .val (.long q5), .second, .val (.int p6), .val (.int (0 : Int32)), .val (.int (own_t0 q5)), .val (.int (own_t1 q5 (8 : Int32))), .val (.int (own_t1 q5 (16 : Int32))), .val (.int (2 : Int32)), .unset, .unset, .unset, .unset, .unset] [(.ref b2), (.ref b2)])) _
    refine XS.iconst X2.here hx rfl (hb hby at_85) ?_
    show Steps p.tables e below (T2.setTop (mkF m 86 #[.val (.int p1), .val (.int p2), .val (.int p3), .val (.int p4), .val (.long q5), .second, .val (.int p6), .val (.int (0 : Int32)), .val (.int (own_t0 q5)), .val (.int (own_t1 q5 (8 : Int32))), .val (.int (own_t1 q5 (16 : Int32))), .val (.int (2 : Int32)), .unset, .unset, .unset, .unset, .unset] [(.int (0 : Int32)), (.ref b2), (.ref b2)])) _
    refine XS.iload X2.here hx rfl (hb hby at_86) rfl ?_
    show Steps p.tables e below (T2.setTop (mkF m 88 #[.val (.int p1), .val (.int p2), .val (.int p3), .val (.int p4), .val (.long q5), .second, .val (.int p6), .val (.int (0 : Int32)), .val (.int (own_t0 q5)), .val (.int (own_t1 q5 (8 : Int32))), .val (.int (own_t1 q5 (16 : Int32))), .val (.int (2 : Int32)), .unset, .unset, .unset, .unset, .unset] [(.int (own_t0 q5)), (.int (0 : Int32)), (.ref b2), (.ref b2)])) _
    refine st6 _ ?_
    show Steps p.tables e below (T6.setTop (mkF m 89 #[.val (.int p1), .val (.int p2), .val (.int p3), .val (.int p4), .val (.long q5), .second, .val (.int p6), .val (.int (0 : Int32)), .val (.int (own_t0 q5)), .val (.int (own_t1 q5 (8 : Int32))), .val (.int (own_t1 q5 (16 : Int32))), .val (.int (2 : Int32)), .unset, .unset, .unset, .unset, .unset] [(.ref b2)])) _
    refine XS.dup X6.here hx rfl (hb hby at_89) rfl rfl ?_
    show Steps p.tables e below (T6.setTop (mkF m 90 #[.val (.int p1), .val (.int p2), .val (.int p3), .val (.int p4), .val (.long q5), .second, .val (.int p6), .val (.int (0 : Int32)), .val (.int (own_t0 q5)), .val (.int (own_t1 q5 (8 : Int32))), .val (.int (own_t1 q5 (16 : Int32))), .val (.int (2 : Int32)), .unset, .unset, .unset, .unset, .unset] [(.ref b2), (.ref b2)])) _
    refine XS.iconst X6.here hx rfl (hb hby at_90) ?_
    show Steps p.tables e below (T6.setTop (mkF m 91 #[.val (.int p1), .val (.int p2), .val (.int p3), .val (.int p4), .val (.long q5), .second, .val (.int p6), .val (.int (0 : Int32)), .val (.int (own_t0 q5)), .val (.int (own_t1 q5 (8 : Int32))), .val (.int (own_t1 q5 (16 : Int32))), .val (.int (2 : Int32)), .unset, .unset, .unset, .unset, .unset] [(.int (1 : Int32)), (.ref b2), (.ref b2)])) _
    refine XS.iload X6.here hx rfl (hb hby at_91) rfl ?_
    show Steps p.tables e below (T6.setTop (mkF m 93 #[.val (.int p1), .val (.int p2), .val (.int p3), .val (.int p4), .val (.long q5), .second, .val (.int p6), .val (.int (0 : Int32)), .val (.int (own_t0 q5)), .val (.int (own_t1 q5 (8 : Int32))), .val (.int (own_t1 q5 (16 : Int32))), .val (.int (2 : Int32)), .unset, .unset, .unset, .unset, .unset] [(.int (own_t1 q5 (8 : Int32))), (.int (1 : Int32)), (.ref b2), (.ref b2)])) _
    refine st11 _ ?_
    show Steps p.tables e below (T11.setTop (mkF m 94 #[.val (.int p1), .val (.int p2), .val (.int p3), .val (.int p4), .val (.long q5), .second, .val (.int p6), .val (.int (0 : Int32)), .val (.int (own_t0 q5)), .val (.int (own_t1 q5 (8 : Int32))), .val (.int (own_t1 q5 (16 : Int32))), .val (.int (2 : Int32)), .unset, .unset, .unset, .unset, .unset] [(.ref b2)])) _
    refine XS.astore X11.here hx rfl (hb hby at_94) rfl rfl (l' := #[.val (.int p1), .val (.int p2), .val (.int p3), .val (.int p4), .val (.long q5), .second, .val (.int p6), .val (.int (0 : Int32)), .val (.int (own_t0 q5)), .val (.int (own_t1 q5 (8 : Int32))), .val (.int (own_t1 q5 (16 : Int32))), .val (.int (2 : Int32)), .val (.ref b2), .unset, .unset, .unset, .unset]) rfl ?_
    show Steps p.tables e below (T11.setTop (mkF m 96 #[.val (.int p1), .val (.int p2), .val (.int p3), .val (.int p4), .val (.long q5), .second, .val (.int p6), .val (.int (0 : Int32)), .val (.int (own_t0 q5)), .val (.int (own_t1 q5 (8 : Int32))), .val (.int (own_t1 q5 (16 : Int32))), .val (.int (2 : Int32)), .val (.ref b2), .unset, .unset, .unset, .unset] [])) _
    refine XS.goto X11.here hx rfl (pc0 := 96) (pc' := 119) rfl (hb hby at_96) (by decide) (by decide) ?_
    show Steps p.tables e below (T11.setTop (mkF m 119 #[.val (.int p1), .val (.int p2), .val (.int p3), .val (.int p4), .val (.long q5), .second, .val (.int p6), .val (.int (0 : Int32)), .val (.int (own_t0 q5)), .val (.int (own_t1 q5 (8 : Int32))), .val (.int (own_t1 q5 (16 : Int32))), .val (.int (2 : Int32)), .val (.ref b2), .unset, .unset, .unset, .unset] [])) _
    refine st14 _ ?_
    show Steps p.tables e below (T14.setTop (mkF m 122 #[.val (.int p1), .val (.int p2), .val (.int p3), .val (.int p4), .val (.long q5), .second, .val (.int p6), .val (.int (0 : Int32)), .val (.int (own_t0 q5)), .val (.int (own_t1 q5 (8 : Int32))), .val (.int (own_t1 q5 (16 : Int32))), .val (.int (2 : Int32)), .val (.ref b2), .unset, .unset, .unset, .unset] [(.ref b14)])) _
    refine XS.dup X14.here hx rfl (hb hby at_122) rfl rfl ?_
    show Steps p.tables e below (T14.setTop (mkF m 123 #[.val (.int p1), .val (.int p2), .val (.int p3), .val (.int p4), .val (.long q5), .second, .val (.int p6), .val (.int (0 : Int32)), .val (.int (own_t0 q5)), .val (.int (own_t1 q5 (8 : Int32))), .val (.int (own_t1 q5 (16 : Int32))), .val (.int (2 : Int32)), .val (.ref b2), .unset, .unset, .unset, .unset] [(.ref b14), (.ref b14)])) _
    refine XS.aload X14.here hx rfl (hb hby at_123) rfl rfl ?_
    show Steps p.tables e below (T14.setTop (mkF m 125 #[.val (.int p1), .val (.int p2), .val (.int p3), .val (.int p4), .val (.long q5), .second, .val (.int p6), .val (.int (0 : Int32)), .val (.int (own_t0 q5)), .val (.int (own_t1 q5 (8 : Int32))), .val (.int (own_t1 q5 (16 : Int32))), .val (.int (2 : Int32)), .val (.ref b2), .unset, .unset, .unset, .unset] [(.ref b2), (.ref b14), (.ref b14)])) _
    refine st26.trans ?_
    show Steps p.tables e below (T26.setTop (mkF m 128 #[.val (.int p1), .val (.int p2), .val (.int p3), .val (.int p4), .val (.long q5), .second, .val (.int p6), .val (.int (0 : Int32)), .val (.int (own_t0 q5)), .val (.int (own_t1 q5 (8 : Int32))), .val (.int (own_t1 q5 (16 : Int32))), .val (.int (2 : Int32)), .val (.ref b2), .unset, .unset, .unset, .unset] [(.ref b14)])) _
    refine XS.astore X26.here hx rfl (hb hby at_128) rfl rfl (l' := #[.val (.int p1), .val (.int p2), .val (.int p3), .val (.int p4), .val (.long q5), .second, .val (.int p6), .val (.int (0 : Int32)), .val (.int (own_t0 q5)), .val (.int (own_t1 q5 (8 : Int32))), .val (.int (own_t1 q5 (16 : Int32))), .val (.int (2 : Int32)), .val (.ref b2), .val (.ref b14), .unset, .unset, .unset]) rfl ?_
    show Steps p.tables e below (T26.setTop (mkF m 130 #[.val (.int p1), .val (.int p2), .val (.int p3), .val (.int p4), .val (.long q5), .second, .val (.int p6), .val (.int (0 : Int32)), .val (.int (own_t0 q5)), .val (.int (own_t1 q5 (8 : Int32))), .val (.int (own_t1 q5 (16 : Int32))), .val (.int (2 : Int32)), .val (.ref b2), .val (.ref b14), .unset, .unset, .unset] [])) _
    refine XS.iload X26.here hx rfl (hb hby at_130) rfl ?_
    show Steps p.tables e below (T26.setTop (mkF m 132 #[.val (.int p1), .val (.int p2), .val (.int p3), .val (.int p4), .val (.long q5), .second, .val (.int p6), .val (.int (0 : Int32)), .val (.int (own_t0 q5)), .val (.int (own_t1 q5 (8 : Int32))), .val (.int (own_t1 q5 (16 : Int32))), .val (.int (2 : Int32)), .val (.ref b2), .val (.ref b14), .unset, .unset, .unset] [(.int (0 : Int32))])) _
    refine XS.ifNo X26.here hx rfl (hb hby at_132) rfl ((if0 _ _).trans (teq (rfl : (0 : Int32) = (0 : Int32))).2) ?_
    show Steps p.tables e below (T26.setTop (mkF m 135 #[.val (.int p1), .val (.int p2), .val (.int p3), .val (.int p4), .val (.long q5), .second, .val (.int p6), .val (.int (0 : Int32)), .val (.int (own_t0 q5)), .val (.int (own_t1 q5 (8 : Int32))), .val (.int (own_t1 q5 (16 : Int32))), .val (.int (2 : Int32)), .val (.ref b2), .val (.ref b14), .unset, .unset, .unset] [])) _
    refine st29 _ ?_
    show Steps p.tables e below (T29.setTop (mkF m 138 #[.val (.int p1), .val (.int p2), .val (.int p3), .val (.int p4), .val (.long q5), .second, .val (.int p6), .val (.int (0 : Int32)), .val (.int (own_t0 q5)), .val (.int (own_t1 q5 (8 : Int32))), .val (.int (own_t1 q5 (16 : Int32))), .val (.int (2 : Int32)), .val (.ref b2), .val (.ref b14), .unset, .unset, .unset] [(.ref k_EMPTY)])) _
    refine XS.astore X29.here hx rfl (hb hby at_138) rfl rfl (l' := #[.val (.int p1), .val (.int p2), .val (.int p3), .val (.int p4), .val (.long q5), .second, .val (.int p6), .val (.int (0 : Int32)), .val (.int (own_t0 q5)), .val (.int (own_t1 q5 (8 : Int32))), .val (.int (own_t1 q5 (16 : Int32))), .val (.int (2 : Int32)), .val (.ref b2), .val (.ref b14), .val (.ref k_EMPTY), .unset, .unset]) rfl ?_
    show Steps p.tables e below (T29.setTop (mkF m 140 #[.val (.int p1), .val (.int p2), .val (.int p3), .val (.int p4), .val (.long q5), .second, .val (.int p6), .val (.int (0 : Int32)), .val (.int (own_t0 q5)), .val (.int (own_t1 q5 (8 : Int32))), .val (.int (own_t1 q5 (16 : Int32))), .val (.int (2 : Int32)), .val (.ref b2), .val (.ref b14), .val (.ref k_EMPTY), .unset, .unset] [])) _
    refine XS.goto X29.here hx rfl (pc0 := 140) (pc' := 168) rfl (hb hby at_140) (by decide) (by decide) ?_
    show Steps p.tables e below (T29.setTop (mkF m 168 #[.val (.int p1), .val (.int p2), .val (.int p3), .val (.int p4), .val (.long q5), .second, .val (.int p6), .val (.int (0 : Int32)), .val (.int (own_t0 q5)), .val (.int (own_t1 q5 (8 : Int32))), .val (.int (own_t1 q5 (16 : Int32))), .val (.int (2 : Int32)), .val (.ref b2), .val (.ref b14), .val (.ref k_EMPTY), .unset, .unset] [])) _
    refine st30 _ ?_
    show Steps p.tables e below (T30.setTop (mkF m 171 #[.val (.int p1), .val (.int p2), .val (.int p3), .val (.int p4), .val (.long q5), .second, .val (.int p6), .val (.int (0 : Int32)), .val (.int (own_t0 q5)), .val (.int (own_t1 q5 (8 : Int32))), .val (.int (own_t1 q5 (16 : Int32))), .val (.int (2 : Int32)), .val (.ref b2), .val (.ref b14), .val (.ref k_EMPTY), .unset, .unset] [(.ref b30)])) _
    refine XS.dup X30.here hx rfl (hb hby at_171) rfl rfl ?_
    show Steps p.tables e below (T30.setTop (mkF m 172 #[.val (.int p1), .val (.int p2), .val (.int p3), .val (.int p4), .val (.long q5), .second, .val (.int p6), .val (.int (0 : Int32)), .val (.int (own_t0 q5)), .val (.int (own_t1 q5 (8 : Int32))), .val (.int (own_t1 q5 (16 : Int32))), .val (.int (2 : Int32)), .val (.ref b2), .val (.ref b14), .val (.ref k_EMPTY), .unset, .unset] [(.ref b30), (.ref b30)])) _
    refine XS.iloadN X30.here hx rfl (hb hby at_172) rfl ?_
    show Steps p.tables e below (T30.setTop (mkF m 173 #[.val (.int p1), .val (.int p2), .val (.int p3), .val (.int p4), .val (.long q5), .second, .val (.int p6), .val (.int (0 : Int32)), .val (.int (own_t0 q5)), .val (.int (own_t1 q5 (8 : Int32))), .val (.int (own_t1 q5 (16 : Int32))), .val (.int (2 : Int32)), .val (.ref b2), .val (.ref b14), .val (.ref k_EMPTY), .unset, .unset] [(.int p1), (.ref b30), (.ref b30)])) _
    refine XS.iloadN X30.here hx rfl (hb hby at_173) rfl ?_
    show Steps p.tables e below (T30.setTop (mkF m 174 #[.val (.int p1), .val (.int p2), .val (.int p3), .val (.int p4), .val (.long q5), .second, .val (.int p6), .val (.int (0 : Int32)), .val (.int (own_t0 q5)), .val (.int (own_t1 q5 (8 : Int32))), .val (.int (own_t1 q5 (16 : Int32))), .val (.int (2 : Int32)), .val (.ref b2), .val (.ref b14), .val (.ref k_EMPTY), .unset, .unset] [(.int p2), (.int p1), (.ref b30), (.ref b30)])) _
    refine XS.iloadN X30.here hx rfl (hb hby at_174) rfl ?_
    show Steps p.tables e below (T30.setTop (mkF m 175 #[.val (.int p1), .val (.int p2), .val (.int p3), .val (.int p4), .val (.long q5), .second, .val (.int p6), .val (.int (0 : Int32)), .val (.int (own_t0 q5)), .val (.int (own_t1 q5 (8 : Int32))), .val (.int (own_t1 q5 (16 : Int32))), .val (.int (2 : Int32)), .val (.ref b2), .val (.ref b14), .val (.ref k_EMPTY), .unset, .unset] [(.int p3), (.int p2), (.int p1), (.ref b30), (.ref b30)])) _
    refine XS.aload X30.here hx rfl (hb hby at_175) rfl rfl ?_
    show Steps p.tables e below (T30.setTop (mkF m 177 #[.val (.int p1), .val (.int p2), .val (.int p3), .val (.int p4), .val (.long q5), .second, .val (.int p6), .val (.int (0 : Int32)), .val (.int (own_t0 q5)), .val (.int (own_t1 q5 (8 : Int32))), .val (.int (own_t1 q5 (16 : Int32))), .val (.int (2 : Int32)), .val (.ref b2), .val (.ref b14), .val (.ref k_EMPTY), .unset, .unset] [(.ref k_EMPTY), (.int p3), (.int p2), (.int p1), (.ref b30), (.ref b30)])) _
    refine st37.trans ?_
    show Steps p.tables e below (T37.setTop (mkF m 180 #[.val (.int p1), .val (.int p2), .val (.int p3), .val (.int p4), .val (.long q5), .second, .val (.int p6), .val (.int (0 : Int32)), .val (.int (own_t0 q5)), .val (.int (own_t1 q5 (8 : Int32))), .val (.int (own_t1 q5 (16 : Int32))), .val (.int (2 : Int32)), .val (.ref b2), .val (.ref b14), .val (.ref k_EMPTY), .unset, .unset] [(.ref b30)])) _
    refine XS.astore X37.here hx rfl (hb hby at_180) rfl rfl (l' := #[.val (.int p1), .val (.int p2), .val (.int p3), .val (.int p4), .val (.long q5), .second, .val (.int p6), .val (.int (0 : Int32)), .val (.int (own_t0 q5)), .val (.int (own_t1 q5 (8 : Int32))), .val (.int (own_t1 q5 (16 : Int32))), .val (.int (2 : Int32)), .val (.ref b2), .val (.ref b14), .val (.ref k_EMPTY), .val (.ref b30), .unset]) rfl ?_
    show Steps p.tables e below (T37.setTop (mkF m 182 #[.val (.int p1), .val (.int p2), .val (.int p3), .val (.int p4), .val (.long q5), .second, .val (.int p6), .val (.int (0 : Int32)), .val (.int (own_t0 q5)), .val (.int (own_t1 q5 (8 : Int32))), .val (.int (own_t1 q5 (16 : Int32))), .val (.int (2 : Int32)), .val (.ref b2), .val (.ref b14), .val (.ref k_EMPTY), .val (.ref b30), .unset] [])) _
    refine XS.iload X37.here hx rfl (hb hby at_182) rfl ?_
    show Steps p.tables e below (T37.setTop (mkF m 184 #[.val (.int p1), .val (.int p2), .val (.int p3), .val (.int p4), .val (.long q5), .second, .val (.int p6), .val (.int (0 : Int32)), .val (.int (own_t0 q5)), .val (.int (own_t1 q5 (8 : Int32))), .val (.int (own_t1 q5 (16 : Int32))), .val (.int (2 : Int32)), .val (.ref b2), .val (.ref b14), .val (.ref k_EMPTY), .val (.ref b30), .unset] [(.int (0 : Int32))])) _
    refine XS.iconst X37.here hx rfl (hb hby at_184) ?_
    show Steps p.tables e below (T37.setTop (mkF m 185 #[.val (.int p1), .val (.int p2), .val (.int p3), .val (.int p4), .val (.long q5), .second, .val (.int p6), .val (.int (0 : Int32)), .val (.int (own_t0 q5)), .val (.int (own_t1 q5 (8 : Int32))), .val (.int (own_t1 q5 (16 : Int32))), .val (.int (2 : Int32)), .val (.ref b2), .val (.ref b14), .val (.ref k_EMPTY), .val (.ref b30), .unset] [(.int (1 : Int32)), (.int (0 : Int32))])) _
    refine XS.icmpNo X37.here hx rfl (hb hby at_185) rfl (feq (by decide : ¬ ((0 : Int32) = (1 : Int32)))).1 ?_
    show Steps p.tables e below (T37.setTop (mkF m 188 #[.val (.int p1), .val (.int p2), .val (.int p3), .val (.int p4), .val (.long q5), .second, .val (.int p6), .val (.int (0 : Int32)), .val (.int (own_t0 q5)), .val (.int (own_t1 q5 (8 : Int32))), .val (.int (own_t1 q5 (16 : Int32))), .val (.int (2 : Int32)), .val (.ref b2), .val (.ref b14), .val (.ref k_EMPTY), .val (.ref b30), .unset] [])) _
    refine XS.iconst X37.here hx rfl (hb hby at_188) ?_
    show Steps p.tables e below (T37.setTop (mkF m 189 #[.val (.int p1), .val (.int p2), .val (.int p3), .val (.int p4), .val (.long q5), .second, .val (.int p6), .val (.int (0 : Int32)), .val (.int (own_t0 q5)), .val (.int (own_t1 q5 (8 : Int32))), .val (.int (own_t1 q5 (16 : Int32))), .val (.int (2 : Int32)), .val (.ref b2), .val (.ref b14), .val (.ref k_EMPTY), .val (.ref b30), .unset] [(.int (1 : Int32))])) _
    refine XS.goto X37.here hx rfl (pc0 := 189) (pc' := 193) rfl (hb hby at_189) (by decide) (by decide) ?_
    show Steps p.tables e below (T37.setTop (mkF m 193 #[.val (.int p1), .val (.int p2), .val (.int p3), .val (.int p4), .val (.long q5), .second, .val (.int p6), .val (.int (0 : Int32)), .val (.int (own_t0 q5)), .val (.int (own_t1 q5 (8 : Int32))), .val (.int (own_t1 q5 (16 : Int32))), .val (.int (2 : Int32)), .val (.ref b2), .val (.ref b14), .val (.ref k_EMPTY), .val (.ref b30), .unset] [(.int (1 : Int32))])) _
    refine XS.istore X37.here hx rfl (hb hby at_193) rfl (l' := #[.val (.int p1), .val (.int p2), .val (.int p3), .val (.int p4), .val (.long q5), .second, .val (.int p6), .val (.int (0 : Int32)), .val (.int (own_t0 q5)), .val (.int (own_t1 q5 (8 : Int32))), .val (.int (own_t1 q5 (16 : Int32))), .val (.int (2 : Int32)), .val (.ref b2), .val (.ref b14), .val (.ref k_EMPTY), .val (.ref b30), .val (.int (1 : Int32))]) rfl ?_
    show Steps p.tables e below (T37.setTop (mkF m 195 #[.val (.int p1), .val (.int p2), .val (.int p3), .val (.int p4), .val (.long q5), .second, .val (.int p6), .val (.int (0 : Int32)), .val (.int (own_t0 q5)), .val (.int (own_t1 q5 (8 : Int32))), .val (.int (own_t1 q5 (16 : Int32))), .val (.int (2 : Int32)), .val (.ref b2), .val (.ref b14), .val (.ref k_EMPTY), .val (.ref b30), .val (.int (1 : Int32))] [])) _
    refine XS.aload X37.here hx rfl (hb hby at_195) rfl rfl ?_
    show Steps p.tables e below (T37.setTop (mkF m 197 #[.val (.int p1), .val (.int p2), .val (.int p3), .val (.int p4), .val (.long q5), .second, .val (.int p6), .val (.int (0 : Int32)), .val (.int (own_t0 q5)), .val (.int (own_t1 q5 (8 : Int32))), .val (.int (own_t1 q5 (16 : Int32))), .val (.int (2 : Int32)), .val (.ref b2), .val (.ref b14), .val (.ref k_EMPTY), .val (.ref b30), .val (.int (1 : Int32))] [(.ref b30)])) _
    refine st41.trans ?_
    show Steps p.tables e below (T41.setTop (mkF m 200 #[.val (.int p1), .val (.int p2), .val (.int p3), .val (.int p4), .val (.long q5), .second, .val (.int p6), .val (.int (0 : Int32)), .val (.int (own_t0 q5)), .val (.int (own_t1 q5 (8 : Int32))), .val (.int (own_t1 q5 (16 : Int32))), .val (.int (2 : Int32)), .val (.ref b2), .val (.ref b14), .val (.ref k_EMPTY), .val (.ref b30), .val (.int (1 : Int32))] [(.int (1 : Int32))])) _
    refine XS.iload X41.here hx rfl (hb hby at_200) rfl ?_
    show Steps p.tables e below (T41.setTop (mkF m 202 #[.val (.int p1), .val (.int p2), .val (.int p3), .val (.int p4), .val (.long q5), .second, .val (.int p6), .val (.int (0 : Int32)), .val (.int (own_t0 q5)), .val (.int (own_t1 q5 (8 : Int32))), .val (.int (own_t1 q5 (16 : Int32))), .val (.int (2 : Int32)), .val (.ref b2), .val (.ref b14), .val (.ref k_EMPTY), .val (.ref b30), .val (.int (1 : Int32))] [(.int (1 : Int32)), (.int (1 : Int32))])) _
    refine XS.icmpNo X41.here hx rfl (hb hby at_202) rfl (teq (rfl : (1 : Int32) = (1 : Int32))).2 ?_
    show Steps p.tables e below (T41.setTop (mkF m 205 #[.val (.int p1), .val (.int p2), .val (.int p3), .val (.int p4), .val (.long q5), .second, .val (.int p6), .val (.int (0 : Int32)), .val (.int (own_t0 q5)), .val (.int (own_t1 q5 (8 : Int32))), .val (.int (own_t1 q5 (16 : Int32))), .val (.int (2 : Int32)), .val (.ref b2), .val (.ref b14), .val (.ref k_EMPTY), .val (.ref b30), .val (.int (1 : Int32))] [])) _
    refine XS.iconst X41.here hx rfl (hb hby at_205) ?_
    show Steps p.tables e below (T41.setTop (mkF m 206 #[.val (.int p1), .val (.int p2), .val (.int p3), .val (.int p4), .val (.long q5), .second, .val (.int p6), .val (.int (0 : Int32)), .val (.int (own_t0 q5)), .val (.int (own_t1 q5 (8 : Int32))), .val (.int (own_t1 q5 (16 : Int32))), .val (.int (2 : Int32)), .val (.ref b2), .val (.ref b14), .val (.ref k_EMPTY), .val (.ref b30), .val (.int (1 : Int32))] [(.int (1 : Int32))])) _
    refine XS.goto X41.here hx rfl (pc0 := 206) (pc' := 210) rfl (hb hby at_206) (by decide) (by decide) ?_
    show Steps p.tables e below (T41.setTop (mkF m 210 #[.val (.int p1), .val (.int p2), .val (.int p3), .val (.int p4), .val (.long q5), .second, .val (.int p6), .val (.int (0 : Int32)), .val (.int (own_t0 q5)), .val (.int (own_t1 q5 (8 : Int32))), .val (.int (own_t1 q5 (16 : Int32))), .val (.int (2 : Int32)), .val (.ref b2), .val (.ref b14), .val (.ref k_EMPTY), .val (.ref b30), .val (.int (1 : Int32))] [(.int (1 : Int32))])) _
    exact retN X41 hx (t := .boolean) Bd.returns (by simp) (hb hby at_210) hr
  · show own_Qlaw h0 n0 _ T41.heap _
    exact ⟨rfl, N41⟩
theorem own_eflaw21 (m : MethodId) (p1 : Int32) (p2 : Int32) (p3 : Int32) (p4 : Int32) (q5 : Int64) (p6 : Int32) : entryFrame m #[(.int p1), (.int p2), (.int p3), (.int p4), (.long q5), (.int p6)] maxLocals = mkF m 0 #[.val (.int p1), .val (.int p2), .val (.int p3), .val (.int p4), .val (.long q5), .second, .val (.int p6), .unset, .unset, .unset, .unset, .unset, .unset, .unset, .unset, .unset, .unset] [] := by first | (simp [entryFrame, mkF, argsToLocals, Value.category, maxLocals]; done) | rfl
set_option maxRecDepth 65536 in
set_option maxHeartbeats 40000000 in
theorem own_law21 (l : Launch) (Z : State) (a0 : Array Value) (hw : ∀ d ∈ tables_1, d.before a0 Z = true) (ws : List Jvm.Cond) (G1 : Int32) (k_EMPTY : Addr) (gl : own_Glob Z G1 k_EMPTY) (p1 : Int32) (p2 : Int32) (p3 : Int32) (p4 : Int32) (q5 : Int64) (p6 : Int32) (h0 : Heap) (n0 : Nat) (Z0 : n0 ≤ h0.size) (X00 : Old Z n0 h0) (hk : own_kd p4 = 1) (hn : own_a3 p6 = 1) :
    MetFree l x (head1 (Jvm.Cond.code x code maxLocals ret :: ws) room_1) (fun a U => a = #[(.int p1), (.int p2), (.int p3), (.int p4), (.long q5), (.int p6)] ∧ Z.Warmed39 U.vm ∧ U.heap = h0) (fun _ _ _ _ _ => True) (fun _ U o U' => ∃ v L, o = .returned v ∧ own_Qlaw h0 n0 v U'.heap L ∧ ReturnedEndW U o U' L room_1.cells room_1.slots) := by
  refine MetFree.of_bodySF (plainFor_of_name own_pn15) hisR ?_
  intro p e s m args below meth c s₁ Bd hml0 hP hK
  obtain ⟨rfl, hZ, hh⟩ := hP
  obtain ⟨O_CS, P_CS, O_EMPTY, E_EMPTY, F_EMPTY⟩ := id gl
  have hx := Bd.exec
  have hby := Bd.bytes
  have hml : c.maxLocals = 17 := hml0
  have hown : s.vm.findClass "com/example/leftmost/leftmost/tree/NodeIsLeafPinLaw" = some m.cls := findClass_of_methodNamed Bd.named
  have hnm := (name_of_methodNamed Bd.named Bd.method).1
  have X0 : Stand p l e room_1 s m #[(.int p1), (.int p2), (.int p3), (.int p4), (.long q5), (.int p6)] below meth c s₁ [] 0 0 := Stand.of_body Bd
  have e0 : s₁.heap = h0 := by rw [← hh, Bd.state]; rfl
  have N0 := Fr.nil n0
  have pre0 : ∀ t, Steps p.tables e below (s₁.setTop (mkF m 0 #[.val (.int p1), .val (.int p2), .val (.int p3), .val (.int p4), .val (.long q5), .second, .val (.int p6), .unset, .unset, .unset, .unset, .unset, .unset, .unset, .unset, .unset, .unset] [])) t → Steps p.tables e below (s₁.setTop (entryFrame m #[(.int p1), (.int p2), (.int p3), (.int p4), (.long q5), (.int p6)] maxLocals)) t := fun t k => castTop (own_eflaw21 m p1 p2 p3 p4 q5 p6) k
  obtain ⟨_, _, ⟨T1, L1, k1, n1⟩, -, X1, ⟨Lc1, hQ1, l1, y1, z1⟩, st1⟩ := Jvm.LawKit.callS X0 hx (y := (⟨"java/lang/Math", "min", "(II)I"⟩ : MethodName)) hown (mvT hZ (hw _ (List.mem_of_getElem? (i := 2) rfl))) (mvT hZ (hw _ (List.mem_of_getElem? (i := 3) rfl))) (mvT hZ (hw _ (List.mem_of_getElem? (i := 4) rfl))) (mvT hZ (hw _ (List.mem_of_getElem? (i := 5) rfl))) (by decide) (backOf (W := 1) (own_rm_minR l Z a0 hw [] G1 k_EMPTY gl (2 : Int32) (1 : Int32) h0 n0 Z0 (by decide : (1 : Int32) < (2 : Int32))) hZ (hw _ (List.mem_of_getElem? (i := 5) rfl)) (hw _ (List.mem_of_getElem? (i := 4) rfl)) (by decide) (by decide)) (g := (mkF m 50 #[.val (.int p1), .val (.int p2), .val (.int p3), .val (.int p4), .val (.long q5), .second, .val (.int p6), .val (.int (1 : Int32)), .val (.int (own_t0 q5)), .val (.int (own_t1 q5 (8 : Int32))), .val (.int (own_t1 q5 (16 : Int32))), .unset, .unset, .unset, .unset, .unset, .unset] [(.int (1 : Int32)), (.int (2 : Int32)), (.int (1 : Int32))])) rfl (by rw [hml]; rfl) (argsL := [(.int (2 : Int32)), (.int (1 : Int32))]) (rest := [(.int (1 : Int32))]) (lenOf own_pd11 rfl) rfl (by show 2 * 0 + _ ≤ _; exact Nat.le_of_eq rfl) (hb hby at_50) (fun _ _ => ⟨rfl, e0, (by decide : 0 + 0 ≤ _), (by decide : 0 + 0 ≤ _)⟩)
  dsimp only [Pt.U, Pt.locs, Pt.cells, Pt.slots] at X1 l1 y1 z1 st1 hQ1
  subst y1 z1
  obtain ⟨rfl, Nq1, e1⟩ := hQ1
  have N1 : Fr n0 L1 := by rw [l1]; exact Fr.app N0 Nq1
  obtain ⟨T2, h2, k2, X2, e2, E2, A2, st2⟩ := newP X1 hx hZ (hw _ (List.mem_of_getElem? (i := 6) rfl)) e1 (g := (mkF m 82 #[.val (.int p1), .val (.int p2), .val (.int p3), .val (.int p4), .val (.long q5), .second, .val (.int p6), .val (.int (1 : Int32)), .val (.int (own_t0 q5)), .val (.int (own_t1 q5 (8 : Int32))), .val (.int (own_t1 q5 (16 : Int32))), .val (.int (2 : Int32)), .unset, .unset, .unset, .unset, .unset] [(.int (2 : Int32))])) rfl (hb hby at_82) rfl (by decide) (cap := 2) (by decide) (by decide) (by decide) (by decide)
  obtain ⟨b2, g2⟩ : ∃ z, z = h0.size := ⟨_, rfl⟩
  rw [← g2] at A2 st2
  have Kp3 : Keep h0 h2 [] := (Keep.refl h0 []).ext E2
  have Vh4 : Arv Z h2 b2 k2 .char (2 : Int32) [(.int (0 : Int32)), (.int (0 : Int32))] (.int (0 : Int32)) := (Arv.new A2 (by decide)).pad (pad_rep [] (.int (0 : Int32)) 2)
  obtain ⟨cl5, Ar5, qc5, Sz5, Ng5, Hs5, Gs5⟩ := id Vh4
  have hin5 : ¬ ((0 : Int32) < 0 ∨ cl5.slots.size ≤ ((0 : Int32)).toNatClampNeg) := inb_of Sz5 ⟨(by decide), (by decide)⟩
  obtain ⟨T6, h6, X6, e6, W6, st6⟩ := stC X2 hx hZ e2 Ar5 (j := (0 : Int32)) hin5 (g := (mkF m 88 #[.val (.int p1), .val (.int p2), .val (.int p3), .val (.int p4), .val (.long q5), .second, .val (.int p6), .val (.int (1 : Int32)), .val (.int (own_t0 q5)), .val (.int (own_t1 q5 (8 : Int32))), .val (.int (own_t1 q5 (16 : Int32))), .val (.int (2 : Int32)), .unset, .unset, .unset, .unset, .unset] [(.int (own_t0 q5)), (.int (0 : Int32)), (.ref b2), (.ref b2)])) rfl rfl (hb hby at_88)
  have Kp7 : Keep h0 h6 [] := Kp3.wr W6 (Or.inr (Nat.le_trans (Keep.refl h0 []).1 (Nat.le_of_eq g2.symm)))
  have gh8 : n0 ≤ b2 := Nat.le_trans Z0 (Nat.le_of_eq g2.symm)
  obtain ⟨Lp6, X6, N6⟩ := own_pack X6 (Fr.snoc X6 N1 gh8)
  have Vh9 : Arv Z h6 b2 k2 .char (2 : Int32) [(.int (own_n0 q5)), (.int (0 : Int32))] (.int (0 : Int32)) := (Arv.set Ar5 qc5 Sz5 Ng5 Hs5 Gs5 (fits_nar_char _) W6 0 rfl (Nat.le_of_ble_eq_true rfl))
  obtain ⟨cl10, Ar10, qc10, Sz10, Ng10, Hs10, Gs10⟩ := id Vh9
  have hin10 : ¬ ((1 : Int32) < 0 ∨ cl10.slots.size ≤ ((1 : Int32)).toNatClampNeg) := inb_of Sz10 ⟨(by decide), (by decide)⟩
  obtain ⟨T11, h11, X11, e11, W11, st11⟩ := stC X6 hx hZ e6 Ar10 (j := (1 : Int32)) hin10 (g := (mkF m 93 #[.val (.int p1), .val (.int p2), .val (.int p3), .val (.int p4), .val (.long q5), .second, .val (.int p6), .val (.int (1 : Int32)), .val (.int (own_t0 q5)), .val (.int (own_t1 q5 (8 : Int32))), .val (.int (own_t1 q5 (16 : Int32))), .val (.int (2 : Int32)), .unset, .unset, .unset, .unset, .unset] [(.int (own_t1 q5 (8 : Int32))), (.int (1 : Int32)), (.ref b2), (.ref b2)])) rfl rfl (hb hby at_93)
  have Kp12 : Keep h0 h11 [] := Kp7.wr W11 (Or.inr (Nat.le_trans (Keep.refl h0 []).1 (Nat.le_of_eq g2.symm)))
  obtain ⟨Lp11, X11, N11⟩ := own_pack X11 (Fr.snoc X11 N6 gh8)
  have Vh13 : Arv Z h11 b2 k2 .char (2 : Int32) [(.int (own_n0 q5)), (.int (own_n1 q5 (8 : Int32)))] (.int (0 : Int32)) := (Arv.set Ar10 qc10 Sz10 Ng10 Hs10 Gs10 (fits_nar_char _) W11 1 rfl (Nat.le_of_ble_eq_true rfl))
  obtain ⟨T14, h14, X14, e14, E14, A14, D14, U14, st14⟩ := newO X11 hx hZ hown (hw _ (List.mem_of_getElem? (i := 7) rfl)) (hw _ (List.mem_of_getElem? (i := 8) rfl)) (hw _ (List.mem_of_getElem? (i := 9) rfl)) e11 (g := (mkF m 119 #[.val (.int p1), .val (.int p2), .val (.int p3), .val (.int p4), .val (.long q5), .second, .val (.int p6), .val (.int (1 : Int32)), .val (.int (own_t0 q5)), .val (.int (own_t1 q5 (8 : Int32))), .val (.int (own_t1 q5 (16 : Int32))), .val (.int (2 : Int32)), .val (.ref b2), .unset, .unset, .unset, .unset] [])) rfl (hb hby at_119) (by decide) (by decide)
  obtain ⟨b14, g14⟩ : ∃ z, z = h11.size := ⟨_, rfl⟩
  rw [← g14] at A14 D14 U14 st14
  have Kp15 : Keep h0 h14 [] := Kp12.ext E14
  have Fh16 : Fld Z h14 b14 "java/lang/String" "value" "[B" .null := (D14 (Or.inr (hw _ (List.mem_of_getElem? (i := 35) rfl))) (ty := (.array .byte)) (by decide))
  have Fh17 : Fld Z h14 b14 "java/lang/String" "coder" "B" (.int (0 : Int32)) := (D14 (Or.inr (hw _ (List.mem_of_getElem? (i := 33) rfl))) (ty := .byte) (by decide))
  have Vh18 : Arv Z h14 b2 k2 .char (2 : Int32) [(.int (own_n0 q5)), (.int (own_n1 q5 (8 : Int32)))] (.int (0 : Int32)) := (Vh13.ext E14)
  have hph19 : ∀ c ∈ ([(own_n0 q5), (own_n1 q5 (8 : Int32))] : List Int32), ¬ c < 0 ∧ ¬ (255 : Int32) < c := (own_cS (own_rng_n0 q5) (own_cS (own_rng_n1 q5 (8 : Int32)) own_c0))
  have hws_words : ∀ d ∈ StrChars.Road.words, d.before a0 Z = true := fun d hd => hw d (own_hws_words d hd)
  have Zh20 : n0 ≤ h14.size := (Nat.le_trans Z0 Kp15.1)
  have gh21 : n0 ≤ b14 := Nat.le_trans (Nat.le_trans Z0 Kp12.1) (Nat.le_of_eq g14.symm)
  have Old22 : Old Z n0 h2 := X00.ext E2
  have Old23 : Old Z n0 h6 := Old22.wr W6 gh8
  have Old24 : Old Z n0 h11 := Old23.wr W11 gh8
  have Old25 : Old Z n0 h14 := Old24.ext E14
  obtain ⟨_, _, ⟨T26, L26, k26, n26⟩, -, X26, ⟨Lc26, hQ26, l26, y26, z26⟩, st26⟩ := X14.specialBack hx (y := (⟨"java/lang/String", "<init>", "([C)V"⟩ : MethodName)) rfl hown (mvT hZ (hw _ (List.mem_of_getElem? (i := 10) rfl))) (mvT hZ (hw _ (List.mem_of_getElem? (i := 11) rfl))) (mvT hZ (hw _ (List.mem_of_getElem? (i := 12) rfl))) (by decide) (StrChars.Road.backV (W := 1) hZ hws_words (kI := 4) (hw _ (List.mem_of_getElem? (i := 8) rfl)) (cs := ([(own_n0 q5), (own_n1 q5 (8 : Int32))] : List Int32)) (bs := ([(own_n0 q5), (own_n1 q5 (8 : Int32))] : List Int32).map (fun c => c.toInt8.toInt32)) (n := 2) gh21 Zh20 A14 Fh16 Fh17 Vh18 (O_CS.ext Old25.2) P_CS rfl rfl (by decide) (by decide) hph19 rfl (by decide) (by decide)) (g := (mkF m 125 #[.val (.int p1), .val (.int p2), .val (.int p3), .val (.int p4), .val (.long q5), .second, .val (.int p6), .val (.int (1 : Int32)), .val (.int (own_t0 q5)), .val (.int (own_t1 q5 (8 : Int32))), .val (.int (own_t1 q5 (16 : Int32))), .val (.int (2 : Int32)), .val (.ref b2), .unset, .unset, .unset, .unset] [(.ref b2), (.ref b14), (.ref b14)])) rfl (by rw [hml]; rfl) (Steps.refl _) (a := b14) (argsL := [(.ref b2)]) (rest := [(.ref b14)]) (lenOf own_pd12 rfl) rfl (by show 2 * 0 + _ ≤ _; exact Nat.le_of_eq rfl) (hb hby at_125) (fun _ _ => ⟨rfl, e14, (by decide : 2 + 1 ≤ _), (by decide : 6 + 2 ≤ _)⟩)
  dsimp only [Pt.U, Pt.locs, Pt.cells, Pt.slots] at X26 l26 y26 z26 st26 hQ26
  subst y26 z26
  obtain ⟨rfl, Nq26, Kq26, Eq26, Cq26, t26, kb26, gt26, szt26, nt26, Vq26, Bq26⟩ := hQ26
  have N26 : Fr n0 L26 := by rw [l26]; exact Fr.app N11 Nq26
  have Kp27 : Keep h0 T26.heap [] := Kp15.trans Kq26 (allS (Or.inr (Nat.le_trans Kp12.1 (Nat.le_of_eq g14.symm))) all0)
  obtain ⟨T28, h28, X28, e28, E28, A28, D28, U28, st28⟩ := newO X26 hx hZ hown (hw _ (List.mem_of_getElem? (i := 36) rfl)) (hw _ (List.mem_of_getElem? (i := 37) rfl)) (hw _ (List.mem_of_getElem? (i := 38) rfl)) rfl (g := (mkF m 143 #[.val (.int p1), .val (.int p2), .val (.int p3), .val (.int p4), .val (.long q5), .second, .val (.int p6), .val (.int (1 : Int32)), .val (.int (own_t0 q5)), .val (.int (own_t1 q5 (8 : Int32))), .val (.int (own_t1 q5 (16 : Int32))), .val (.int (2 : Int32)), .val (.ref b2), .val (.ref b14), .unset, .unset, .unset] [])) rfl (hb hby at_143) (by decide) (by decide)
  obtain ⟨b28, g28⟩ : ∃ z, z = T26.heap.size := ⟨_, rfl⟩
  rw [← g28] at A28 D28 U28 st28
  have Kp29 : Keep h0 h28 [] := Kp27.ext E28
  have Eh30 : Exa Z h28 b14 "java/lang/String" := (Eq26.ext E28)
  have Fh31 : Fld Z h28 b14 "java/lang/String" "value" "[B" (.ref t26) := (Vq26.ext E28)
  have Fh32 : Fld Z h28 b14 "java/lang/String" "coder" "B" (.int (0 : Int32)) := (Cq26.ext E28)
  have Vh33 : Arv Z h28 t26 kb26 .byte (2 : Int32) ((([(own_n0 q5), (own_n1 q5 (8 : Int32))] : List Int32).map (fun c => c.toInt8.toInt32)).map Value.int) (.int (0 : Int32)) := (Bq26.ext E28)
  have Fh34 : Fld Z h28 b28 "com/example/leftmost/leftmost/grammar/Symbol" "name" "Ljava/lang/String;" .null := (D28 (Or.inr (hw _ (List.mem_of_getElem? (i := 61) rfl))) (ty := (.object "java/lang/String")) (by decide))
  have gh35 : n0 ≤ b28 := Nat.le_trans (Nat.le_trans Z0 Kp27.1) (Nat.le_of_eq g28.symm)
  have Fh36 : Fld Z h28 b28 "com/example/leftmost/leftmost/grammar/Symbol" "isVariable" "Z" (.int (0 : Int32)) := (D28 (Or.inr (hw _ (List.mem_of_getElem? (i := 63) rfl))) (ty := .boolean) (by decide))
  have Old37 : Old Z n0 T26.heap := Old25.keep Kq26 (allS gh21 all0)
  have Old38 : Old Z n0 h28 := Old37.ext E28
  obtain ⟨_, _, ⟨T39, L39, k39, n39⟩, -, X39, hSq39, hgr39, ⟨Lc39, hQ39, l39, y39, z39⟩, st39⟩ := X28.specialBackS hx (y := (⟨"com/example/leftmost/leftmost/grammar/Symbol", "<init>", "(Ljava/lang/String;Z)V"⟩ : MethodName)) rfl hown (mvT hZ (hw _ (List.mem_of_getElem? (i := 39) rfl))) (mvT hZ (hw _ (List.mem_of_getElem? (i := 40) rfl))) (mvT hZ (hw _ (List.mem_of_getElem? (i := 41) rfl))) (by decide) (backOfS (W := 1) (own_rm_sym2 l Z a0 hw [] G1 k_EMPTY gl b28 b14 (1 : Int32) (own_n0 q5) (own_n1 q5 (8 : Int32)) t26 (kb26) (.null) ((.int (0 : Int32))) h28 n0 (Nat.le_trans Z0 Kp29.1) Old38 Eh30 Fh31 Fh32 Vh33 hph19 A28 Fh34 gh35 Fh36) hZ (hw _ (List.mem_of_getElem? (i := 41) rfl)) (hw _ (List.mem_of_getElem? (i := 38) rfl)) (by decide) (by decide)) (g := (mkF m 160 #[.val (.int p1), .val (.int p2), .val (.int p3), .val (.int p4), .val (.long q5), .second, .val (.int p6), .val (.int (1 : Int32)), .val (.int (own_t0 q5)), .val (.int (own_t1 q5 (8 : Int32))), .val (.int (own_t1 q5 (16 : Int32))), .val (.int (2 : Int32)), .val (.ref b2), .val (.ref b14), .unset, .unset, .unset] [(.int (1 : Int32)), (.ref b14), (.ref b28), (.ref b28)])) rfl (by rw [hml]; rfl) (Steps.refl _) (a := b28) (argsL := [(.ref b14), (.int (1 : Int32))]) (rest := [(.ref b28)]) (lenOf own_pd16 rfl) rfl (by show 2 * 0 + _ ≤ _; exact Nat.le_of_eq rfl) (hb hby at_160) (fun _ _ => ⟨rfl, e28, (by decide : 4 + 2 ≤ _), (by decide : 10 + 20 ≤ _)⟩)
  dsimp only [Pt.U, Pt.locs, Pt.cells, Pt.slots] at X39 l39 y39 z39 st39 hQ39 hSq39 hgr39
  subst y39 z39
  obtain ⟨Xw39, hS39, hZ39, hown39⟩ := rebS (vm0 := s.vm) ((State.WarmedH.refl s).since 0) (by rw [e28]; exact (Nat.zero_le _)) X39 hSq39 hgr39 hZ hown
  obtain ⟨rfl, Nq39, Kq39, f39_0, f39_1, f39_2⟩ := hQ39
  have N39 : Fr n0 L39 := by rw [l39]; exact Fr.app N26 Nq39
  have Kp40 : Keep h0 T39.heap [] := Kp29.trans Kq39 (allS (Or.inr (Nat.le_trans Kp27.1 (Nat.le_of_eq g28.symm))) all0)
  obtain ⟨_, _, ⟨T41, L41, k41, n41⟩, -, X41, ⟨Lc41, hQ41, l41, y41, z41⟩, st41⟩ := Jvm.LawKit.callS Xw39 hx (y := (⟨"java/util/Optional", "of", "(Ljava/lang/Object;)Ljava/util/Optional;"⟩ : MethodName)) hown39 (mvT hZ39 (hw _ (List.mem_of_getElem? (i := 64) rfl))) (mvT hZ39 (hw _ (List.mem_of_getElem? (i := 65) rfl))) (mvT hZ39 (hw _ (List.mem_of_getElem? (i := 66) rfl))) (mvT hZ39 (hw _ (List.mem_of_getElem? (i := 67) rfl))) (by decide) (backOf (W := 0) (own_rm_of l Z a0 hw [] G1 k_EMPTY gl b28 T39.heap n0 (Nat.le_trans Z0 Kp40.1) ) hZ39 (hw _ (List.mem_of_getElem? (i := 67) rfl)) (hw _ (List.mem_of_getElem? (i := 66) rfl)) (by decide) (by decide)) (g := (mkF m 163 #[.val (.int p1), .val (.int p2), .val (.int p3), .val (.int p4), .val (.long q5), .second, .val (.int p6), .val (.int (1 : Int32)), .val (.int (own_t0 q5)), .val (.int (own_t1 q5 (8 : Int32))), .val (.int (own_t1 q5 (16 : Int32))), .val (.int (2 : Int32)), .val (.ref b2), .val (.ref b14), .unset, .unset, .unset] [(.ref b28)])) rfl (by rw [hml]; rfl) (argsL := [(.ref b28)]) (rest := []) (lenOf own_pd17 rfl) rfl (by show 2 * 0 + _ ≤ _; exact Nat.le_of_eq rfl) (hb hby at_163) (fun _ _ => ⟨rfl, rfl, (by decide : 6 + 1 ≤ _), (by decide : 30 + 1 ≤ _)⟩)
  dsimp only [Pt.U, Pt.locs, Pt.cells, Pt.slots] at X41 l41 y41 z41 st41 hQ41
  subst y41 z41
  obtain ⟨b1_41, rfl, Nq41, Kq41, f41_0, f41_1, f41_2⟩ := hQ41
  have N41 : Fr n0 L41 := by rw [l41]; exact Fr.app N39 Nq41
  have Kp42 : Keep h0 T41.heap [] := Kp40.trans Kq41 all0
  obtain ⟨T43, h43, X43, e43, E43, A43, D43, U43, st43⟩ := newO X41 hx hZ39 hown39 (hw _ (List.mem_of_getElem? (i := 80) rfl)) (hw _ (List.mem_of_getElem? (i := 81) rfl)) (hw _ (List.mem_of_getElem? (i := 82) rfl)) rfl (g := (mkF m 168 #[.val (.int p1), .val (.int p2), .val (.int p3), .val (.int p4), .val (.long q5), .second, .val (.int p6), .val (.int (1 : Int32)), .val (.int (own_t0 q5)), .val (.int (own_t1 q5 (8 : Int32))), .val (.int (own_t1 q5 (16 : Int32))), .val (.int (2 : Int32)), .val (.ref b2), .val (.ref b14), .val (.ref b1_41), .unset, .unset] [])) rfl (hb hby at_168) (by decide) (by decide)
  obtain ⟨b43, g43⟩ : ∃ z, z = T41.heap.size := ⟨_, rfl⟩
  rw [← g43] at A43 D43 U43 st43
  have Kp44 : Keep h0 h43 [] := Kp42.ext E43
  have Fh45 : Fld Z h43 b43 "com/example/leftmost/leftmost/tree/ParseTree$Node" "index" "I" (.int (0 : Int32)) := (D43 (Or.inr (hw _ (List.mem_of_getElem? (i := 88) rfl))) (ty := .int) (by decide))
  have gh46 : n0 ≤ b43 := Nat.le_trans (Nat.le_trans Z0 Kp42.1) (Nat.le_of_eq g43.symm)
  have Fh47 : Fld Z h43 b43 "com/example/leftmost/leftmost/tree/ParseTree$Node" "parent" "I" (.int (0 : Int32)) := (D43 (Or.inr (hw _ (List.mem_of_getElem? (i := 90) rfl))) (ty := .int) (by decide))
  have Fh48 : Fld Z h43 b43 "com/example/leftmost/leftmost/tree/ParseTree$Node" "depth" "I" (.int (0 : Int32)) := (D43 (Or.inr (hw _ (List.mem_of_getElem? (i := 92) rfl))) (ty := .int) (by decide))
  have Fh49 : Fld Z h43 b43 "com/example/leftmost/leftmost/tree/ParseTree$Node" "symbol" "Ljava/util/Optional;" .null := (D43 (Or.inr (hw _ (List.mem_of_getElem? (i := 94) rfl))) (ty := (.object "java/util/Optional")) (by decide))
  obtain ⟨_, _, ⟨T50, L50, k50, n50⟩, -, X50, ⟨Lc50, hQ50, l50, y50, z50⟩, st50⟩ := X43.specialBack hx (y := (⟨"com/example/leftmost/leftmost/tree/ParseTree$Node", "<init>", "(IIILjava/util/Optional;)V"⟩ : MethodName)) rfl hown39 (mvT hZ39 (hw _ (List.mem_of_getElem? (i := 83) rfl))) (mvT hZ39 (hw _ (List.mem_of_getElem? (i := 84) rfl))) (mvT hZ39 (hw _ (List.mem_of_getElem? (i := 85) rfl))) (by decide) (backOf (W := 1) (own_rm_node l Z a0 hw [] G1 k_EMPTY gl b43 p1 p2 p3 b1_41 ((.int (0 : Int32))) ((.int (0 : Int32))) ((.int (0 : Int32))) (.null) h43 n0 (Nat.le_trans Z0 Kp44.1) A43 Fh45 gh46 Fh47 Fh48 Fh49) hZ39 (hw _ (List.mem_of_getElem? (i := 85) rfl)) (hw _ (List.mem_of_getElem? (i := 82) rfl)) (by decide) (by decide)) (g := (mkF m 177 #[.val (.int p1), .val (.int p2), .val (.int p3), .val (.int p4), .val (.long q5), .second, .val (.int p6), .val (.int (1 : Int32)), .val (.int (own_t0 q5)), .val (.int (own_t1 q5 (8 : Int32))), .val (.int (own_t1 q5 (16 : Int32))), .val (.int (2 : Int32)), .val (.ref b2), .val (.ref b14), .val (.ref b1_41), .unset, .unset] [(.ref b1_41), (.int p3), (.int p2), (.int p1), (.ref b43), (.ref b43)])) rfl (by rw [hml]; rfl) (Steps.refl _) (a := b43) (argsL := [(.int p1), (.int p2), (.int p3), (.ref b1_41)]) (rest := [(.ref b43)]) (lenOf own_pd14 rfl) rfl (by show 2 * 0 + _ ≤ _; exact Nat.le_of_eq rfl) (hb hby at_177) (fun _ _ => ⟨rfl, e43, (by decide : 8 + 0 ≤ _), (by decide : 35 + 0 ≤ _)⟩)
  dsimp only [Pt.U, Pt.locs, Pt.cells, Pt.slots] at X50 l50 y50 z50 st50 hQ50
  subst y50 z50
  obtain ⟨rfl, Nq50, Kq50, f50_0, f50_1, f50_2, f50_3, f50_4⟩ := hQ50
  have N50 : Fr n0 L50 := by rw [l50]; exact Fr.app N41 Nq50
  have Kp51 : Keep h0 T50.heap [] := Kp44.trans Kq50 (allS (Or.inr (Nat.le_trans Kp42.1 (Nat.le_of_eq g43.symm))) all0)
  have Eh52 : Exa Z T50.heap b1_41 "java/util/Optional" := ((f41_1.ext E43).keep Kq50)
  have Fh53 : Fld Z T50.heap b1_41 "java/util/Optional" "value" "Ljava/lang/Object;" (.ref b28) := ((f41_2.ext E43).keep Kq50 (ninS (Nat.ne_of_lt (Nat.lt_of_lt_of_le f41_1.lt (Nat.le_of_eq g43.symm))) nin0))
  have Eh54 : Exa Z T50.heap b28 "com/example/leftmost/leftmost/grammar/Symbol" := (((f39_0.keep Kq41).ext E43).keep Kq50)
  have Fh55 : Fld Z T50.heap b28 "com/example/leftmost/leftmost/grammar/Symbol" "isVariable" "Z" (.int (1 : Int32)) := (((f39_2.keep Kq41 nin0).ext E43).keep Kq50 (ninS (Nat.ne_of_lt (Nat.lt_of_lt_of_le (f39_0.keep Kq41).lt (Nat.le_of_eq g43.symm))) nin0))
  obtain ⟨cq56, kq56, q56a, q56b, q56c⟩ := isOf hZ39 rfl f50_0
  obtain ⟨_, _, ⟨T56, L56, k56, n56⟩, -, X56, ⟨Lc56, hQ56, l56, y56, z56⟩, st56⟩ := X50.virtualBack hx (y := (⟨"com/example/leftmost/leftmost/tree/ParseTree$Node", "isLeaf", "()Z"⟩ : MethodName)) (z := (⟨"com/example/leftmost/leftmost/tree/ParseTree$Node", "isLeaf", "()Z"⟩ : MethodName)) hown39 (mvT hZ39 (hw _ (List.mem_of_getElem? (i := 95) rfl))) (mvT hZ39 (hw _ (List.mem_of_getElem? (i := 96) rfl))) (notFace_of_selects (args := #[]) (mvT hZ39 (hw _ (List.mem_of_getElem? (i := 98) rfl)))) (mvT hZ39 (hw _ (List.mem_of_getElem? (i := 98) rfl))) (mvT hZ39 (hw _ (List.mem_of_getElem? (i := 97) rfl))) (by decide) (backOf (W := 0) (own_rm_leaf1 l Z a0 hw [] G1 k_EMPTY gl b43 b1_41 b28 T50.heap n0 (Nat.le_trans Z0 Kp51.1) f50_4 Eh52 Fh53 Eh54 Fh55) hZ39 (hw _ (List.mem_of_getElem? (i := 99) rfl)) (hw _ (List.mem_of_getElem? (i := 82) rfl)) (by decide) (by decide)) q56a q56c (g := (mkF m 197 #[.val (.int p1), .val (.int p2), .val (.int p3), .val (.int p4), .val (.long q5), .second, .val (.int p6), .val (.int (1 : Int32)), .val (.int (own_t0 q5)), .val (.int (own_t1 q5 (8 : Int32))), .val (.int (own_t1 q5 (16 : Int32))), .val (.int (2 : Int32)), .val (.ref b2), .val (.ref b14), .val (.ref b1_41), .val (.ref b43), .val (.int (0 : Int32))] [(.ref b43)])) rfl (by rw [hml]; rfl) (Steps.refl _) (argsL := []) (rest := []) (lenOf own_pd7 rfl) rfl (by show 2 * 0 + _ ≤ _; exact Nat.le_of_eq rfl) (hb hby at_197) (fun _ _ => ⟨rfl, rfl, (by decide : 8 + 0 ≤ _), (by decide : 35 + 0 ≤ _)⟩)
  dsimp only [Pt.U, Pt.locs, Pt.cells, Pt.slots] at X56 l56 y56 z56 st56 hQ56
  subst y56 z56
  obtain ⟨rfl, Nq56, e56⟩ := hQ56
  have N56 : Fr n0 L56 := by rw [l56]; exact Fr.app N50 Nq56
  obtain ⟨fs, hr, hrun, hended, hREW⟩ := X56.leaveW hS39 (by rw [e56]; exact (Nat.le_trans (Nat.le_refl _) (Nat.le_trans (Nat.le_trans Kq41.1 E43.1) Kq50.1))) (v := some (.int (1 : Int32))) (fun h => by rw [Bd.returns] at h; cases h)
  refine ⟨_, _, pre0 _ ?_, hrun, hended, _, _, rfl, ?_, hREW.1, hREW.2.1, hREW.2.2.1, hREW.2.2.2.mono (by decide) (by decide)⟩
  · show Steps p.tables e below (s₁.setTop (mkF m 0 #[.val (.int p1), .val (.int p2), .val (.int p3), .val (.int p4), .val (.long q5), .second, .val (.int p6), .unset, .unset, .unset, .unset, .unset, .unset, .unset, .unset, .unset, .unset] [])) _
    refine XS.iloadN X0.here hx rfl (hb hby at_0) rfl ?_
    show Steps p.tables e below (s₁.setTop (mkF m 1 #[.val (.int p1), .val (.int p2), .val (.int p3), .val (.int p4), .val (.long q5), .second, .val (.int p6), .unset, .unset, .unset, .unset, .unset, .unset, .unset, .unset, .unset, .unset] [(.int p4)])) _
    refine X0.ldcInt hx hown (mvT hZ (hw _ (List.mem_of_getElem? (i := 0) rfl))) (g := (mkF m 1 #[.val (.int p1), .val (.int p2), .val (.int p3), .val (.int p4), .val (.long q5), .second, .val (.int p6), .unset, .unset, .unset, .unset, .unset, .unset, .unset, .unset, .unset, .unset] [(.int p4)])) rfl (hb hby at_1) _ ?_
    show Steps p.tables e below (s₁.setTop (mkF m 3 #[.val (.int p1), .val (.int p2), .val (.int p3), .val (.int p4), .val (.long q5), .second, .val (.int p6), .unset, .unset, .unset, .unset, .unset, .unset, .unset, .unset, .unset, .unset] [(.int (2147483647 : Int32)), (.int p4)])) _
    refine XS.iand X0.here hx rfl (hb hby at_3) rfl ?_
    show Steps p.tables e below (s₁.setTop (mkF m 4 #[.val (.int p1), .val (.int p2), .val (.int p3), .val (.int p4), .val (.long q5), .second, .val (.int p6), .unset, .unset, .unset, .unset, .unset, .unset, .unset, .unset, .unset, .unset] [(.int (p4 &&& (2147483647 : Int32)))])) _
    refine XS.iconst X0.here hx rfl (hb hby at_4) ?_
    show Steps p.tables e below (s₁.setTop (mkF m 5 #[.val (.int p1), .val (.int p2), .val (.int p3), .val (.int p4), .val (.long q5), .second, .val (.int p6), .unset, .unset, .unset, .unset, .unset, .unset, .unset, .unset, .unset, .unset] [(.int (3 : Int32)), (.int (p4 &&& (2147483647 : Int32)))])) _
    refine iremM X0 hx rfl (hb hby at_5) rfl (by decide) ?_
    show Steps p.tables e below (s₁.setTop (mkF m 6 #[.val (.int p1), .val (.int p2), .val (.int p3), .val (.int p4), .val (.long q5), .second, .val (.int p6), .unset, .unset, .unset, .unset, .unset, .unset, .unset, .unset, .unset, .unset] [(.int (own_kd p4))])) _
    rw [hk]
    show Steps p.tables e below (s₁.setTop (mkF m 6 #[.val (.int p1), .val (.int p2), .val (.int p3), .val (.int p4), .val (.long q5), .second, .val (.int p6), .unset, .unset, .unset, .unset, .unset, .unset, .unset, .unset, .unset, .unset] [(.int (1 : Int32))])) _
    refine XS.istore X0.here hx rfl (hb hby at_6) rfl (l' := #[.val (.int p1), .val (.int p2), .val (.int p3), .val (.int p4), .val (.long q5), .second, .val (.int p6), .val (.int (1 : Int32)), .unset, .unset, .unset, .unset, .unset, .unset, .unset, .unset, .unset]) rfl ?_
    show Steps p.tables e below (s₁.setTop (mkF m 8 #[.val (.int p1), .val (.int p2), .val (.int p3), .val (.int p4), .val (.long q5), .second, .val (.int p6), .val (.int (1 : Int32)), .unset, .unset, .unset, .unset, .unset, .unset, .unset, .unset, .unset] [])) _
    refine XS.lload X0.here hx rfl (hb hby at_8) rfl ?_
    show Steps p.tables e below (s₁.setTop (mkF m 10 #[.val (.int p1), .val (.int p2), .val (.int p3), .val (.int p4), .val (.long q5), .second, .val (.int p6), .val (.int (1 : Int32)), .unset, .unset, .unset, .unset, .unset, .unset, .unset, .unset, .unset] [(.long q5)])) _
    refine X0.ldc2Long hx hown (mvT hZ (hw _ (List.mem_of_getElem? (i := 1) rfl))) (g := (mkF m 10 #[.val (.int p1), .val (.int p2), .val (.int p3), .val (.int p4), .val (.long q5), .second, .val (.int p6), .val (.int (1 : Int32)), .unset, .unset, .unset, .unset, .unset, .unset, .unset, .unset, .unset] [(.long q5)])) rfl (hb hby at_10) _ ?_
    show Steps p.tables e below (s₁.setTop (mkF m 13 #[.val (.int p1), .val (.int p2), .val (.int p3), .val (.int p4), .val (.long q5), .second, .val (.int p6), .val (.int (1 : Int32)), .unset, .unset, .unset, .unset, .unset, .unset, .unset, .unset, .unset] [(.long (255 : Int64)), (.long q5)])) _
    refine XS.land X0.here hx rfl (hb hby at_13) rfl ?_
    show Steps p.tables e below (s₁.setTop (mkF m 14 #[.val (.int p1), .val (.int p2), .val (.int p3), .val (.int p4), .val (.long q5), .second, .val (.int p6), .val (.int (1 : Int32)), .unset, .unset, .unset, .unset, .unset, .unset, .unset, .unset, .unset] [(.long (q5 &&& (255 : Int64)))])) _
    refine XS.l2i X0.here hx rfl (hb hby at_14) rfl ?_
    show Steps p.tables e below (s₁.setTop (mkF m 15 #[.val (.int p1), .val (.int p2), .val (.int p3), .val (.int p4), .val (.long q5), .second, .val (.int p6), .val (.int (1 : Int32)), .unset, .unset, .unset, .unset, .unset, .unset, .unset, .unset, .unset] [(.int ((q5 &&& (255 : Int64)).toInt32))])) _
    refine XS.i2c X0.here hx rfl (hb hby at_15) rfl ?_
    show Steps p.tables e below (s₁.setTop (mkF m 16 #[.val (.int p1), .val (.int p2), .val (.int p3), .val (.int p4), .val (.long q5), .second, .val (.int p6), .val (.int (1 : Int32)), .unset, .unset, .unset, .unset, .unset, .unset, .unset, .unset, .unset] [(.int (own_t0 q5))])) _
    refine XS.istore X0.here hx rfl (hb hby at_16) rfl (l' := #[.val (.int p1), .val (.int p2), .val (.int p3), .val (.int p4), .val (.long q5), .second, .val (.int p6), .val (.int (1 : Int32)), .val (.int (own_t0 q5)), .unset, .unset, .unset, .unset, .unset, .unset, .unset, .unset]) rfl ?_
    show Steps p.tables e below (s₁.setTop (mkF m 18 #[.val (.int p1), .val (.int p2), .val (.int p3), .val (.int p4), .val (.long q5), .second, .val (.int p6), .val (.int (1 : Int32)), .val (.int (own_t0 q5)), .unset, .unset, .unset, .unset, .unset, .unset, .unset, .unset] [])) _
    refine XS.lload X0.here hx rfl (hb hby at_18) rfl ?_
    show Steps p.tables e below (s₁.setTop (mkF m 20 #[.val (.int p1), .val (.int p2), .val (.int p3), .val (.int p4), .val (.long q5), .second, .val (.int p6), .val (.int (1 : Int32)), .val (.int (own_t0 q5)), .unset, .unset, .unset, .unset, .unset, .unset, .unset, .unset] [(.long q5)])) _
    refine XS.bipush X0.here hx rfl (hb hby at_20) ?_
    show Steps p.tables e below (s₁.setTop (mkF m 22 #[.val (.int p1), .val (.int p2), .val (.int p3), .val (.int p4), .val (.long q5), .second, .val (.int p6), .val (.int (1 : Int32)), .val (.int (own_t0 q5)), .unset, .unset, .unset, .unset, .unset, .unset, .unset, .unset] [(.int (8 : Int32)), (.long q5)])) _
    refine XS.lushr X0.here hx rfl (hb hby at_22) rfl ?_
    show Steps p.tables e below (s₁.setTop (mkF m 23 #[.val (.int p1), .val (.int p2), .val (.int p3), .val (.int p4), .val (.long q5), .second, .val (.int p6), .val (.int (1 : Int32)), .val (.int (own_t0 q5)), .unset, .unset, .unset, .unset, .unset, .unset, .unset, .unset] [(.long ((q5.toUInt64 >>> ((8 : Int32) &&& 0x3f).toInt64.toUInt64).toInt64))])) _
    refine X0.ldc2Long hx hown (mvT hZ (hw _ (List.mem_of_getElem? (i := 1) rfl))) (g := (mkF m 23 #[.val (.int p1), .val (.int p2), .val (.int p3), .val (.int p4), .val (.long q5), .second, .val (.int p6), .val (.int (1 : Int32)), .val (.int (own_t0 q5)), .unset, .unset, .unset, .unset, .unset, .unset, .unset, .unset] [(.long ((q5.toUInt64 >>> ((8 : Int32) &&& 0x3f).toInt64.toUInt64).toInt64))])) rfl (hb hby at_23) _ ?_
    show Steps p.tables e below (s₁.setTop (mkF m 26 #[.val (.int p1), .val (.int p2), .val (.int p3), .val (.int p4), .val (.long q5), .second, .val (.int p6), .val (.int (1 : Int32)), .val (.int (own_t0 q5)), .unset, .unset, .unset, .unset, .unset, .unset, .unset, .unset] [(.long (255 : Int64)), (.long ((q5.toUInt64 >>> ((8 : Int32) &&& 0x3f).toInt64.toUInt64).toInt64))])) _
    refine XS.land X0.here hx rfl (hb hby at_26) rfl ?_
    show Steps p.tables e below (s₁.setTop (mkF m 27 #[.val (.int p1), .val (.int p2), .val (.int p3), .val (.int p4), .val (.long q5), .second, .val (.int p6), .val (.int (1 : Int32)), .val (.int (own_t0 q5)), .unset, .unset, .unset, .unset, .unset, .unset, .unset, .unset] [(.long (((q5.toUInt64 >>> ((8 : Int32) &&& 0x3f).toInt64.toUInt64).toInt64) &&& (255 : Int64)))])) _
    refine XS.l2i X0.here hx rfl (hb hby at_27) rfl ?_
    show Steps p.tables e below (s₁.setTop (mkF m 28 #[.val (.int p1), .val (.int p2), .val (.int p3), .val (.int p4), .val (.long q5), .second, .val (.int p6), .val (.int (1 : Int32)), .val (.int (own_t0 q5)), .unset, .unset, .unset, .unset, .unset, .unset, .unset, .unset] [(.int ((((q5.toUInt64 >>> ((8 : Int32) &&& 0x3f).toInt64.toUInt64).toInt64) &&& (255 : Int64)).toInt32))])) _
    refine XS.i2c X0.here hx rfl (hb hby at_28) rfl ?_
    show Steps p.tables e below (s₁.setTop (mkF m 29 #[.val (.int p1), .val (.int p2), .val (.int p3), .val (.int p4), .val (.long q5), .second, .val (.int p6), .val (.int (1 : Int32)), .val (.int (own_t0 q5)), .unset, .unset, .unset, .unset, .unset, .unset, .unset, .unset] [(.int (own_t1 q5 (8 : Int32)))])) _
    refine XS.istore X0.here hx rfl (hb hby at_29) rfl (l' := #[.val (.int p1), .val (.int p2), .val (.int p3), .val (.int p4), .val (.long q5), .second, .val (.int p6), .val (.int (1 : Int32)), .val (.int (own_t0 q5)), .val (.int (own_t1 q5 (8 : Int32))), .unset, .unset, .unset, .unset, .unset, .unset, .unset]) rfl ?_
    show Steps p.tables e below (s₁.setTop (mkF m 31 #[.val (.int p1), .val (.int p2), .val (.int p3), .val (.int p4), .val (.long q5), .second, .val (.int p6), .val (.int (1 : Int32)), .val (.int (own_t0 q5)), .val (.int (own_t1 q5 (8 : Int32))), .unset, .unset, .unset, .unset, .unset, .unset, .unset] [])) _
    refine XS.lload X0.here hx rfl (hb hby at_31) rfl ?_
    show Steps p.tables e below (s₁.setTop (mkF m 33 #[.val (.int p1), .val (.int p2), .val (.int p3), .val (.int p4), .val (.long q5), .second, .val (.int p6), .val (.int (1 : Int32)), .val (.int (own_t0 q5)), .val (.int (own_t1 q5 (8 : Int32))), .unset, .unset, .unset, .unset, .unset, .unset, .unset] [(.long q5)])) _
    refine XS.bipush X0.here hx rfl (hb hby at_33) ?_
    show Steps p.tables e below (s₁.setTop (mkF m 35 #[.val (.int p1), .val (.int p2), .val (.int p3), .val (.int p4), .val (.long q5), .second, .val (.int p6), .val (.int (1 : Int32)), .val (.int (own_t0 q5)), .val (.int (own_t1 q5 (8 : Int32))), .unset, .unset, .unset, .unset, .unset, .unset, .unset] [(.int (16 : Int32)), (.long q5)])) _
    refine XS.lushr X0.here hx rfl (hb hby at_35) rfl ?_
    show Steps p.tables e below (s₁.setTop (mkF m 36 #[.val (.int p1), .val (.int p2), .val (.int p3), .val (.int p4), .val (.long q5), .second, .val (.int p6), .val (.int (1 : Int32)), .val (.int (own_t0 q5)), .val (.int (own_t1 q5 (8 : Int32))), .unset, .unset, .unset, .unset, .unset, .unset, .unset] [(.long ((q5.toUInt64 >>> ((16 : Int32) &&& 0x3f).toInt64.toUInt64).toInt64))])) _
    refine X0.ldc2Long hx hown (mvT hZ (hw _ (List.mem_of_getElem? (i := 1) rfl))) (g := (mkF m 36 #[.val (.int p1), .val (.int p2), .val (.int p3), .val (.int p4), .val (.long q5), .second, .val (.int p6), .val (.int (1 : Int32)), .val (.int (own_t0 q5)), .val (.int (own_t1 q5 (8 : Int32))), .unset, .unset, .unset, .unset, .unset, .unset, .unset] [(.long ((q5.toUInt64 >>> ((16 : Int32) &&& 0x3f).toInt64.toUInt64).toInt64))])) rfl (hb hby at_36) _ ?_
    show Steps p.tables e below (s₁.setTop (mkF m 39 #[.val (.int p1), .val (.int p2), .val (.int p3), .val (.int p4), .val (.long q5), .second, .val (.int p6), .val (.int (1 : Int32)), .val (.int (own_t0 q5)), .val (.int (own_t1 q5 (8 : Int32))), .unset, .unset, .unset, .unset, .unset, .unset, .unset] [(.long (255 : Int64)), (.long ((q5.toUInt64 >>> ((16 : Int32) &&& 0x3f).toInt64.toUInt64).toInt64))])) _
    refine XS.land X0.here hx rfl (hb hby at_39) rfl ?_
    show Steps p.tables e below (s₁.setTop (mkF m 40 #[.val (.int p1), .val (.int p2), .val (.int p3), .val (.int p4), .val (.long q5), .second, .val (.int p6), .val (.int (1 : Int32)), .val (.int (own_t0 q5)), .val (.int (own_t1 q5 (8 : Int32))), .unset, .unset, .unset, .unset, .unset, .unset, .unset] [(.long (((q5.toUInt64 >>> ((16 : Int32) &&& 0x3f).toInt64.toUInt64).toInt64) &&& (255 : Int64)))])) _
    refine XS.l2i X0.here hx rfl (hb hby at_40) rfl ?_
    show Steps p.tables e below (s₁.setTop (mkF m 41 #[.val (.int p1), .val (.int p2), .val (.int p3), .val (.int p4), .val (.long q5), .second, .val (.int p6), .val (.int (1 : Int32)), .val (.int (own_t0 q5)), .val (.int (own_t1 q5 (8 : Int32))), .unset, .unset, .unset, .unset, .unset, .unset, .unset] [(.int ((((q5.toUInt64 >>> ((16 : Int32) &&& 0x3f).toInt64.toUInt64).toInt64) &&& (255 : Int64)).toInt32))])) _
    refine XS.i2c X0.here hx rfl (hb hby at_41) rfl ?_
    show Steps p.tables e below (s₁.setTop (mkF m 42 #[.val (.int p1), .val (.int p2), .val (.int p3), .val (.int p4), .val (.long q5), .second, .val (.int p6), .val (.int (1 : Int32)), .val (.int (own_t0 q5)), .val (.int (own_t1 q5 (8 : Int32))), .unset, .unset, .unset, .unset, .unset, .unset, .unset] [(.int (own_t1 q5 (16 : Int32)))])) _
    refine XS.istore X0.here hx rfl (hb hby at_42) rfl (l' := #[.val (.int p1), .val (.int p2), .val (.int p3), .val (.int p4), .val (.long q5), .second, .val (.int p6), .val (.int (1 : Int32)), .val (.int (own_t0 q5)), .val (.int (own_t1 q5 (8 : Int32))), .val (.int (own_t1 q5 (16 : Int32))), .unset, .unset, .unset, .unset, .unset, .unset]) rfl ?_
    show Steps p.tables e below (s₁.setTop (mkF m 44 #[.val (.int p1), .val (.int p2), .val (.int p3), .val (.int p4), .val (.long q5), .second, .val (.int p6), .val (.int (1 : Int32)), .val (.int (own_t0 q5)), .val (.int (own_t1 q5 (8 : Int32))), .val (.int (own_t1 q5 (16 : Int32))), .unset, .unset, .unset, .unset, .unset, .unset] [])) _
    refine XS.iconst X0.here hx rfl (hb hby at_44) ?_
    show Steps p.tables e below (s₁.setTop (mkF m 45 #[.val (.int p1), .val (.int p2), .val (.int p3), .val (.int p4), .val (.long q5), .second, .val (.int p6), .val (.int (1 : Int32)), .val (.int (own_t0 q5)), .val (.int (own_t1 q5 (8 : Int32))), .val (.int (own_t1 q5 (16 : Int32))), .unset, .unset, .unset, .unset, .unset, .unset] [(.int (1 : Int32))])) _
    refine XS.iconst X0.here hx rfl (hb hby at_45) ?_
    show Steps p.tables e below (s₁.setTop (mkF m 46 #[.val (.int p1), .val (.int p2), .val (.int p3), .val (.int p4), .val (.long q5), .second, .val (.int p6), .val (.int (1 : Int32)), .val (.int (own_t0 q5)), .val (.int (own_t1 q5 (8 : Int32))), .val (.int (own_t1 q5 (16 : Int32))), .unset, .unset, .unset, .unset, .unset, .unset] [(.int (2 : Int32)), (.int (1 : Int32))])) _
    refine XS.iload X0.here hx rfl (hb hby at_46) rfl ?_
    show Steps p.tables e below (s₁.setTop (mkF m 48 #[.val (.int p1), .val (.int p2), .val (.int p3), .val (.int p4), .val (.long q5), .second, .val (.int p6), .val (.int (1 : Int32)), .val (.int (own_t0 q5)), .val (.int (own_t1 q5 (8 : Int32))), .val (.int (own_t1 q5 (16 : Int32))), .unset, .unset, .unset, .unset, .unset, .unset] [(.int p6), (.int (2 : Int32)), (.int (1 : Int32))])) _
    refine XS.iconst X0.here hx rfl (hb hby at_48) ?_
    show Steps p.tables e below (s₁.setTop (mkF m 49 #[.val (.int p1), .val (.int p2), .val (.int p3), .val (.int p4), .val (.long q5), .second, .val (.int p6), .val (.int (1 : Int32)), .val (.int (own_t0 q5)), .val (.int (own_t1 q5 (8 : Int32))), .val (.int (own_t1 q5 (16 : Int32))), .unset, .unset, .unset, .unset, .unset, .unset] [(.int (3 : Int32)), (.int p6), (.int (2 : Int32)), (.int (1 : Int32))])) _
    refine XS.iand X0.here hx rfl (hb hby at_49) rfl ?_
    show Steps p.tables e below (s₁.setTop (mkF m 50 #[.val (.int p1), .val (.int p2), .val (.int p3), .val (.int p4), .val (.long q5), .second, .val (.int p6), .val (.int (1 : Int32)), .val (.int (own_t0 q5)), .val (.int (own_t1 q5 (8 : Int32))), .val (.int (own_t1 q5 (16 : Int32))), .unset, .unset, .unset, .unset, .unset, .unset] [(.int (own_a3 p6)), (.int (2 : Int32)), (.int (1 : Int32))])) _
    rw [hn]
    show Steps p.tables e below (s₁.setTop (mkF m 50 #[.val (.int p1), .val (.int p2), .val (.int p3), .val (.int p4), .val (.long q5), .second, .val (.int p6), .val (.int (1 : Int32)), .val (.int (own_t0 q5)), .val (.int (own_t1 q5 (8 : Int32))), .val (.int (own_t1 q5 (16 : Int32))), .unset, .unset, .unset, .unset, .unset, .unset] [(.int (1 : Int32)), (.int (2 : Int32)), (.int (1 : Int32))])) _
    refine st1 _ ?_
    show Steps p.tables e below (T1.setTop (mkF m 53 #[.val (.int p1), .val (.int p2), .val (.int p3), .val (.int p4), .val (.long q5), .second, .val (.int p6), .val (.int (1 : Int32)), .val (.int (own_t0 q5)), .val (.int (own_t1 q5 (8 : Int32))), .val (.int (own_t1 q5 (16 : Int32))), .unset, .unset, .unset, .unset, .unset, .unset] [(.int (1 : Int32)), (.int (1 : Int32))])) _
    refine XS.iadd X1.here hx rfl (hb hby at_53) rfl ?_
    show Steps p.tables e below (T1.setTop (mkF m 54 #[.val (.int p1), .val (.int p2), .val (.int p3), .val (.int p4), .val (.long q5), .second, .val (.int p6), .val (.int (1 : Int32)), .val (.int (own_t0 q5)), .val (.int (own_t1 q5 (8 : Int32))), .val (.int (own_t1 q5 (16 : Int32))), .unset, .unset, .unset, .unset, .unset, .unset] [(.int (2 : Int32))])) _
    refine XS.istore X1.here hx rfl (hb hby at_54) rfl (l' := #[.val (.int p1), .val (.int p2), .val (.int p3), .val (.int p4), .val (.long q5), .second, .val (.int p6), .val (.int (1 : Int32)), .val (.int (own_t0 q5)), .val (.int (own_t1 q5 (8 : Int32))), .val (.int (own_t1 q5 (16 : Int32))), .val (.int (2 : Int32)), .unset, .unset, .unset, .unset, .unset]) rfl ?_
    show Steps p.tables e below (T1.setTop (mkF m 56 #[.val (.int p1), .val (.int p2), .val (.int p3), .val (.int p4), .val (.long q5), .second, .val (.int p6), .val (.int (1 : Int32)), .val (.int (own_t0 q5)), .val (.int (own_t1 q5 (8 : Int32))), .val (.int (own_t1 q5 (16 : Int32))), .val (.int (2 : Int32)), .unset, .unset, .unset, .unset, .unset] [])) _
    refine XS.iload X1.here hx rfl (hb hby at_56) rfl ?_
    show Steps p.tables e below (T1.setTop (mkF m 58 #[.val (.int p1), .val (.int p2), .val (.int p3), .val (.int p4), .val (.long q5), .second, .val (.int p6), .val (.int (1 : Int32)), .val (.int (own_t0 q5)), .val (.int (own_t1 q5 (8 : Int32))), .val (.int (own_t1 q5 (16 : Int32))), .val (.int (2 : Int32)), .unset, .unset, .unset, .unset, .unset] [(.int (2 : Int32))])) _
    refine XS.iconst X1.here hx rfl (hb hby at_58) ?_
    show Steps p.tables e below (T1.setTop (mkF m 59 #[.val (.int p1), .val (.int p2), .val (.int p3), .val (.int p4), .val (.long q5), .second, .val (.int p6), .val (.int (1 : Int32)), .val (.int (own_t0 q5)), .val (.int (own_t1 q5 (8 : Int32))), .val (.int (own_t1 q5 (16 : Int32))), .val (.int (2 : Int32)), .unset, .unset, .unset, .unset, .unset] [(.int (1 : Int32)), (.int (2 : Int32))])) _
    refine XS.icmpYes X1.here hx rfl (pc0 := 59) (pc' := 75) rfl (hb hby at_59) rfl (feq (by decide : ¬ ((2 : Int32) = (1 : Int32)))).2 (by decide) (by decide) ?_
    show Steps p.tables e below (T1.setTop (mkF m 75 #[.val (.int p1), .val (.int p2), .val (.int p3), .val (.int p4), .val (.long q5), .second, .val (.int p6), .val (.int (1 : Int32)), .val (.int (own_t0 q5)), .val (.int (own_t1 q5 (8 : Int32))), .val (.int (own_t1 q5 (16 : Int32))), .val (.int (2 : Int32)), .unset, .unset, .unset, .unset, .unset] [])) _
    refine XS.iload X1.here hx rfl (hb hby at_75) rfl ?_
    show Steps p.tables e below (T1.setTop (mkF m 77 #[.val (.int p1), .val (.int p2), .val (.int p3), .val (.int p4), .val (.long q5), .second, .val (.int p6), .val (.int (1 : Int32)), .val (.int (own_t0 q5)), .val (.int (own_t1 q5 (8 : Int32))), .val (.int (own_t1 q5 (16 : Int32))), .val (.int (2 : Int32)), .unset, .unset, .unset, .unset, .unset] [(.int (2 : Int32))])) _
    refine XS.iconst X1.here hx rfl (hb hby at_77) ?_
    show Steps p.tables e below (T1.setTop (mkF m 78 #[.val (.int p1), .val (.int p2), .val (.int p3), .val (.int p4), .val (.long q5), .second, .val (.int p6), .val (.int (1 : Int32)), .val (.int (own_t0 q5)), .val (.int (own_t1 q5 (8 : Int32))), .val (.int (own_t1 q5 (16 : Int32))), .val (.int (2 : Int32)), .unset, .unset, .unset, .unset, .unset] [(.int (2 : Int32)), (.int (2 : Int32))])) _
    refine XS.icmpNo X1.here hx rfl (hb hby at_78) rfl (teq (rfl : (2 : Int32) = (2 : Int32))).2 ?_
    show Steps p.tables e below (T1.setTop (mkF m 81 #[.val (.int p1), .val (.int p2), .val (.int p3), .val (.int p4), .val (.long q5), .second, .val (.int p6), .val (.int (1 : Int32)), .val (.int (own_t0 q5)), .val (.int (own_t1 q5 (8 : Int32))), .val (.int (own_t1 q5 (16 : Int32))), .val (.int (2 : Int32)), .unset, .unset, .unset, .unset, .unset] [])) _
    refine XS.iconst X1.here hx rfl (hb hby at_81) ?_
    show Steps p.tables e below (T1.setTop (mkF m 82 #[.val (.int p1), .val (.int p2), .val (.int p3), .val (.int p4), .val (.long q5), .second, .val (.int p6), .val (.int (1 : Int32)), .val (.int (own_t0 q5)), .val (.int (own_t1 q5 (8 : Int32))), .val (.int (own_t1 q5 (16 : Int32))), .val (.int (2 : Int32)), .unset, .unset, .unset, .unset, .unset] [(.int (2 : Int32))])) _
    refine st2 _ ?_
    show Steps p.tables e below (T2.setTop (mkF m 84 #[.val (.int p1), .val (.int p2), .val (.int p3), .val (.int p4), .val (.long q5), .second, .val (.int p6), .val (.int (1 : Int32)), .val (.int (own_t0 q5)), .val (.int (own_t1 q5 (8 : Int32))), .val (.int (own_t1 q5 (16 : Int32))), .val (.int (2 : Int32)), .unset, .unset, .unset, .unset, .unset] [(.ref b2)])) _
    refine XS.dup X2.here hx rfl (hb hby at_84) rfl rfl ?_
    show Steps p.tables e below (T2.setTop (mkF m 85 #[.val (.int p1), .val (.int p2), .val (.int p3), .val (.int p4), .val (.long q5), .second, .val (.int p6), .val (.int (1 : Int32)), .val (.int (own_t0 q5)), .val (.int (own_t1 q5 (8 : Int32))), .val (.int (own_t1 q5 (16 : Int32))), .val (.int (2 : Int32)), .unset, .unset, .unset, .unset, .unset] [(.ref b2), (.ref b2)])) _
    refine XS.iconst X2.here hx rfl (hb hby at_85) ?_
    show Steps p.tables e below (T2.setTop (mkF m 86 #[.val (.int p1), .val (.int p2), .val (.int p3), .val (.int p4), .val (.long q5), .second, .val (.int p6), .val (.int (1 : Int32)), .val (.int (own_t0 q5)), .val (.int (own_t1 q5 (8 : Int32))), .val (.int (own_t1 q5 (16 : Int32))), .val (.int (2 : Int32)), .unset, .unset, .unset, .unset, .unset] [(.int (0 : Int32)), (.ref b2), (.ref b2)])) _
    refine XS.iload X2.here hx rfl (hb hby at_86) rfl ?_
    show Steps p.tables e below (T2.setTop (mkF m 88 #[.val (.int p1), .val (.int p2), .val (.int p3), .val (.int p4), .val (.long q5), .second, .val (.int p6), .val (.int (1 : Int32)), .val (.int (own_t0 q5)), .val (.int (own_t1 q5 (8 : Int32))), .val (.int (own_t1 q5 (16 : Int32))), .val (.int (2 : Int32)), .unset, .unset, .unset, .unset, .unset] [(.int (own_t0 q5)), (.int (0 : Int32)), (.ref b2), (.ref b2)])) _
    refine st6 _ ?_
    show Steps p.tables e below (T6.setTop (mkF m 89 #[.val (.int p1), .val (.int p2), .val (.int p3), .val (.int p4), .val (.long q5), .second, .val (.int p6), .val (.int (1 : Int32)), .val (.int (own_t0 q5)), .val (.int (own_t1 q5 (8 : Int32))), .val (.int (own_t1 q5 (16 : Int32))), .val (.int (2 : Int32)), .unset, .unset, .unset, .unset, .unset] [(.ref b2)])) _
    refine XS.dup X6.here hx rfl (hb hby at_89) rfl rfl ?_
    show Steps p.tables e below (T6.setTop (mkF m 90 #[.val (.int p1), .val (.int p2), .val (.int p3), .val (.int p4), .val (.long q5), .second, .val (.int p6), .val (.int (1 : Int32)), .val (.int (own_t0 q5)), .val (.int (own_t1 q5 (8 : Int32))), .val (.int (own_t1 q5 (16 : Int32))), .val (.int (2 : Int32)), .unset, .unset, .unset, .unset, .unset] [(.ref b2), (.ref b2)])) _
    refine XS.iconst X6.here hx rfl (hb hby at_90) ?_
    show Steps p.tables e below (T6.setTop (mkF m 91 #[.val (.int p1), .val (.int p2), .val (.int p3), .val (.int p4), .val (.long q5), .second, .val (.int p6), .val (.int (1 : Int32)), .val (.int (own_t0 q5)), .val (.int (own_t1 q5 (8 : Int32))), .val (.int (own_t1 q5 (16 : Int32))), .val (.int (2 : Int32)), .unset, .unset, .unset, .unset, .unset] [(.int (1 : Int32)), (.ref b2), (.ref b2)])) _
    refine XS.iload X6.here hx rfl (hb hby at_91) rfl ?_
    show Steps p.tables e below (T6.setTop (mkF m 93 #[.val (.int p1), .val (.int p2), .val (.int p3), .val (.int p4), .val (.long q5), .second, .val (.int p6), .val (.int (1 : Int32)), .val (.int (own_t0 q5)), .val (.int (own_t1 q5 (8 : Int32))), .val (.int (own_t1 q5 (16 : Int32))), .val (.int (2 : Int32)), .unset, .unset, .unset, .unset, .unset] [(.int (own_t1 q5 (8 : Int32))), (.int (1 : Int32)), (.ref b2), (.ref b2)])) _
    refine st11 _ ?_
    show Steps p.tables e below (T11.setTop (mkF m 94 #[.val (.int p1), .val (.int p2), .val (.int p3), .val (.int p4), .val (.long q5), .second, .val (.int p6), .val (.int (1 : Int32)), .val (.int (own_t0 q5)), .val (.int (own_t1 q5 (8 : Int32))), .val (.int (own_t1 q5 (16 : Int32))), .val (.int (2 : Int32)), .unset, .unset, .unset, .unset, .unset] [(.ref b2)])) _
    refine XS.astore X11.here hx rfl (hb hby at_94) rfl rfl (l' := #[.val (.int p1), .val (.int p2), .val (.int p3), .val (.int p4), .val (.long q5), .second, .val (.int p6), .val (.int (1 : Int32)), .val (.int (own_t0 q5)), .val (.int (own_t1 q5 (8 : Int32))), .val (.int (own_t1 q5 (16 : Int32))), .val (.int (2 : Int32)), .val (.ref b2), .unset, .unset, .unset, .unset]) rfl ?_
    show Steps p.tables e below (T11.setTop (mkF m 96 #[.val (.int p1), .val (.int p2), .val (.int p3), .val (.int p4), .val (.long q5), .second, .val (.int p6), .val (.int (1 : Int32)), .val (.int (own_t0 q5)), .val (.int (own_t1 q5 (8 : Int32))), .val (.int (own_t1 q5 (16 : Int32))), .val (.int (2 : Int32)), .val (.ref b2), .unset, .unset, .unset, .unset] [])) _
    refine XS.goto X11.here hx rfl (pc0 := 96) (pc' := 119) rfl (hb hby at_96) (by decide) (by decide) ?_
    show Steps p.tables e below (T11.setTop (mkF m 119 #[.val (.int p1), .val (.int p2), .val (.int p3), .val (.int p4), .val (.long q5), .second, .val (.int p6), .val (.int (1 : Int32)), .val (.int (own_t0 q5)), .val (.int (own_t1 q5 (8 : Int32))), .val (.int (own_t1 q5 (16 : Int32))), .val (.int (2 : Int32)), .val (.ref b2), .unset, .unset, .unset, .unset] [])) _
    refine st14 _ ?_
    show Steps p.tables e below (T14.setTop (mkF m 122 #[.val (.int p1), .val (.int p2), .val (.int p3), .val (.int p4), .val (.long q5), .second, .val (.int p6), .val (.int (1 : Int32)), .val (.int (own_t0 q5)), .val (.int (own_t1 q5 (8 : Int32))), .val (.int (own_t1 q5 (16 : Int32))), .val (.int (2 : Int32)), .val (.ref b2), .unset, .unset, .unset, .unset] [(.ref b14)])) _
    refine XS.dup X14.here hx rfl (hb hby at_122) rfl rfl ?_
    show Steps p.tables e below (T14.setTop (mkF m 123 #[.val (.int p1), .val (.int p2), .val (.int p3), .val (.int p4), .val (.long q5), .second, .val (.int p6), .val (.int (1 : Int32)), .val (.int (own_t0 q5)), .val (.int (own_t1 q5 (8 : Int32))), .val (.int (own_t1 q5 (16 : Int32))), .val (.int (2 : Int32)), .val (.ref b2), .unset, .unset, .unset, .unset] [(.ref b14), (.ref b14)])) _
    refine XS.aload X14.here hx rfl (hb hby at_123) rfl rfl ?_
    show Steps p.tables e below (T14.setTop (mkF m 125 #[.val (.int p1), .val (.int p2), .val (.int p3), .val (.int p4), .val (.long q5), .second, .val (.int p6), .val (.int (1 : Int32)), .val (.int (own_t0 q5)), .val (.int (own_t1 q5 (8 : Int32))), .val (.int (own_t1 q5 (16 : Int32))), .val (.int (2 : Int32)), .val (.ref b2), .unset, .unset, .unset, .unset] [(.ref b2), (.ref b14), (.ref b14)])) _
    refine st26.trans ?_
    show Steps p.tables e below (T26.setTop (mkF m 128 #[.val (.int p1), .val (.int p2), .val (.int p3), .val (.int p4), .val (.long q5), .second, .val (.int p6), .val (.int (1 : Int32)), .val (.int (own_t0 q5)), .val (.int (own_t1 q5 (8 : Int32))), .val (.int (own_t1 q5 (16 : Int32))), .val (.int (2 : Int32)), .val (.ref b2), .unset, .unset, .unset, .unset] [(.ref b14)])) _
    refine XS.astore X26.here hx rfl (hb hby at_128) rfl rfl (l' := #[.val (.int p1), .val (.int p2), .val (.int p3), .val (.int p4), .val (.long q5), .second, .val (.int p6), .val (.int (1 : Int32)), .val (.int (own_t0 q5)), .val (.int (own_t1 q5 (8 : Int32))), .val (.int (own_t1 q5 (16 : Int32))), .val (.int (2 : Int32)), .val (.ref b2), .val (.ref b14), .unset, .unset, .unset]) rfl ?_
    show Steps p.tables e below (T26.setTop (mkF m 130 #[.val (.int p1), .val (.int p2), .val (.int p3), .val (.int p4), .val (.long q5), .second, .val (.int p6), .val (.int (1 : Int32)), .val (.int (own_t0 q5)), .val (.int (own_t1 q5 (8 : Int32))), .val (.int (own_t1 q5 (16 : Int32))), .val (.int (2 : Int32)), .val (.ref b2), .val (.ref b14), .unset, .unset, .unset] [])) _
    refine XS.iload X26.here hx rfl (hb hby at_130) rfl ?_
    show Steps p.tables e below (T26.setTop (mkF m 132 #[.val (.int p1), .val (.int p2), .val (.int p3), .val (.int p4), .val (.long q5), .second, .val (.int p6), .val (.int (1 : Int32)), .val (.int (own_t0 q5)), .val (.int (own_t1 q5 (8 : Int32))), .val (.int (own_t1 q5 (16 : Int32))), .val (.int (2 : Int32)), .val (.ref b2), .val (.ref b14), .unset, .unset, .unset] [(.int (1 : Int32))])) _
    refine XS.ifYes X26.here hx rfl (pc0 := 132) (pc' := 143) rfl (hb hby at_132) rfl ((if0 _ _).trans (feq (by decide : ¬ ((1 : Int32) = (0 : Int32)))).2) (by decide) (by decide) ?_
    show Steps p.tables e below (T26.setTop (mkF m 143 #[.val (.int p1), .val (.int p2), .val (.int p3), .val (.int p4), .val (.long q5), .second, .val (.int p6), .val (.int (1 : Int32)), .val (.int (own_t0 q5)), .val (.int (own_t1 q5 (8 : Int32))), .val (.int (own_t1 q5 (16 : Int32))), .val (.int (2 : Int32)), .val (.ref b2), .val (.ref b14), .unset, .unset, .unset] [])) _
    refine st28 _ ?_
    show Steps p.tables e below (T28.setTop (mkF m 146 #[.val (.int p1), .val (.int p2), .val (.int p3), .val (.int p4), .val (.long q5), .second, .val (.int p6), .val (.int (1 : Int32)), .val (.int (own_t0 q5)), .val (.int (own_t1 q5 (8 : Int32))), .val (.int (own_t1 q5 (16 : Int32))), .val (.int (2 : Int32)), .val (.ref b2), .val (.ref b14), .unset, .unset, .unset] [(.ref b28)])) _
    refine XS.dup X28.here hx rfl (hb hby at_146) rfl rfl ?_
    show Steps p.tables e below (T28.setTop (mkF m 147 #[.val (.int p1), .val (.int p2), .val (.int p3), .val (.int p4), .val (.long q5), .second, .val (.int p6), .val (.int (1 : Int32)), .val (.int (own_t0 q5)), .val (.int (own_t1 q5 (8 : Int32))), .val (.int (own_t1 q5 (16 : Int32))), .val (.int (2 : Int32)), .val (.ref b2), .val (.ref b14), .unset, .unset, .unset] [(.ref b28), (.ref b28)])) _
    refine XS.aload X28.here hx rfl (hb hby at_147) rfl rfl ?_
    show Steps p.tables e below (T28.setTop (mkF m 149 #[.val (.int p1), .val (.int p2), .val (.int p3), .val (.int p4), .val (.long q5), .second, .val (.int p6), .val (.int (1 : Int32)), .val (.int (own_t0 q5)), .val (.int (own_t1 q5 (8 : Int32))), .val (.int (own_t1 q5 (16 : Int32))), .val (.int (2 : Int32)), .val (.ref b2), .val (.ref b14), .unset, .unset, .unset] [(.ref b14), (.ref b28), (.ref b28)])) _
    refine XS.iload X28.here hx rfl (hb hby at_149) rfl ?_
    show Steps p.tables e below (T28.setTop (mkF m 151 #[.val (.int p1), .val (.int p2), .val (.int p3), .val (.int p4), .val (.long q5), .second, .val (.int p6), .val (.int (1 : Int32)), .val (.int (own_t0 q5)), .val (.int (own_t1 q5 (8 : Int32))), .val (.int (own_t1 q5 (16 : Int32))), .val (.int (2 : Int32)), .val (.ref b2), .val (.ref b14), .unset, .unset, .unset] [(.int (1 : Int32)), (.ref b14), (.ref b28), (.ref b28)])) _
    refine XS.iconst X28.here hx rfl (hb hby at_151) ?_
    show Steps p.tables e below (T28.setTop (mkF m 152 #[.val (.int p1), .val (.int p2), .val (.int p3), .val (.int p4), .val (.long q5), .second, .val (.int p6), .val (.int (1 : Int32)), .val (.int (own_t0 q5)), .val (.int (own_t1 q5 (8 : Int32))), .val (.int (own_t1 q5 (16 : Int32))), .val (.int (2 : Int32)), .val (.ref b2), .val (.ref b14), .unset, .unset, .unset] [(.int (1 : Int32)), (.int (1 : Int32)), (.ref b14), (.ref b28), (.ref b28)])) _
    refine XS.icmpNo X28.here hx rfl (hb hby at_152) rfl (teq (rfl : (1 : Int32) = (1 : Int32))).2 ?_
    show Steps p.tables e below (T28.setTop (mkF m 155 #[.val (.int p1), .val (.int p2), .val (.int p3), .val (.int p4), .val (.long q5), .second, .val (.int p6), .val (.int (1 : Int32)), .val (.int (own_t0 q5)), .val (.int (own_t1 q5 (8 : Int32))), .val (.int (own_t1 q5 (16 : Int32))), .val (.int (2 : Int32)), .val (.ref b2), .val (.ref b14), .unset, .unset, .unset] [(.ref b14), (.ref b28), (.ref b28)])) _
    refine XS.iconst X28.here hx rfl (hb hby at_155) ?_
    show Steps p.tables e below (T28.setTop (mkF m 156 #[.val (.int p1), .val (.int p2), .val (.int p3), .val (.int p4), .val (.long q5), .second, .val (.int p6), .val (.int (1 : Int32)), .val (.int (own_t0 q5)), .val (.int (own_t1 q5 (8 : Int32))), .val (.int (own_t1 q5 (16 : Int32))), .val (.int (2 : Int32)), .val (.ref b2), .val (.ref b14), .unset, .unset, .unset] [(.int (1 : Int32)), (.ref b14), (.ref b28), (.ref b28)])) _
    refine XS.goto X28.here hx rfl (pc0 := 156) (pc' := 160) rfl (hb hby at_156) (by decide) (by decide) ?_
    show Steps p.tables e below (T28.setTop (mkF m 160 #[.val (.int p1), .val (.int p2), .val (.int p3), .val (.int p4), .val (.long q5), .second, .val (.int p6), .val (.int (1 : Int32)), .val (.int (own_t0 q5)), .val (.int (own_t1 q5 (8 : Int32))), .val (.int (own_t1 q5 (16 : Int32))), .val (.int (2 : Int32)), .val (.ref b2), .val (.ref b14), .unset, .unset, .unset] [(.int (1 : Int32)), (.ref b14), (.ref b28), (.ref b28)])) _
    refine st39.trans ?_
    show Steps p.tables e below (T39.setTop (mkF m 163 #[.val (.int p1), .val (.int p2), .val (.int p3), .val (.int p4), .val (.long q5), .second, .val (.int p6), .val (.int (1 : Int32)), .val (.int (own_t0 q5)), .val (.int (own_t1 q5 (8 : Int32))), .val (.int (own_t1 q5 (16 : Int32))), .val (.int (2 : Int32)), .val (.ref b2), .val (.ref b14), .unset, .unset, .unset] [(.ref b28)])) _
    refine st41 _ ?_
    show Steps p.tables e below (T41.setTop (mkF m 166 #[.val (.int p1), .val (.int p2), .val (.int p3), .val (.int p4), .val (.long q5), .second, .val (.int p6), .val (.int (1 : Int32)), .val (.int (own_t0 q5)), .val (.int (own_t1 q5 (8 : Int32))), .val (.int (own_t1 q5 (16 : Int32))), .val (.int (2 : Int32)), .val (.ref b2), .val (.ref b14), .unset, .unset, .unset] [(.ref b1_41)])) _
    refine XS.astore X41.here hx rfl (hb hby at_166) rfl rfl (l' := #[.val (.int p1), .val (.int p2), .val (.int p3), .val (.int p4), .val (.long q5), .second, .val (.int p6), .val (.int (1 : Int32)), .val (.int (own_t0 q5)), .val (.int (own_t1 q5 (8 : Int32))), .val (.int (own_t1 q5 (16 : Int32))), .val (.int (2 : Int32)), .val (.ref b2), .val (.ref b14), .val (.ref b1_41), .unset, .unset]) rfl ?_
    show Steps p.tables e below (T41.setTop (mkF m 168 #[.val (.int p1), .val (.int p2), .val (.int p3), .val (.int p4), .val (.long q5), .second, .val (.int p6), .val (.int (1 : Int32)), .val (.int (own_t0 q5)), .val (.int (own_t1 q5 (8 : Int32))), .val (.int (own_t1 q5 (16 : Int32))), .val (.int (2 : Int32)), .val (.ref b2), .val (.ref b14), .val (.ref b1_41), .unset, .unset] [])) _
    refine st43 _ ?_
    show Steps p.tables e below (T43.setTop (mkF m 171 #[.val (.int p1), .val (.int p2), .val (.int p3), .val (.int p4), .val (.long q5), .second, .val (.int p6), .val (.int (1 : Int32)), .val (.int (own_t0 q5)), .val (.int (own_t1 q5 (8 : Int32))), .val (.int (own_t1 q5 (16 : Int32))), .val (.int (2 : Int32)), .val (.ref b2), .val (.ref b14), .val (.ref b1_41), .unset, .unset] [(.ref b43)])) _
    refine XS.dup X43.here hx rfl (hb hby at_171) rfl rfl ?_
    show Steps p.tables e below (T43.setTop (mkF m 172 #[.val (.int p1), .val (.int p2), .val (.int p3), .val (.int p4), .val (.long q5), .second, .val (.int p6), .val (.int (1 : Int32)), .val (.int (own_t0 q5)), .val (.int (own_t1 q5 (8 : Int32))), .val (.int (own_t1 q5 (16 : Int32))), .val (.int (2 : Int32)), .val (.ref b2), .val (.ref b14), .val (.ref b1_41), .unset, .unset] [(.ref b43), (.ref b43)])) _
    refine XS.iloadN X43.here hx rfl (hb hby at_172) rfl ?_
    show Steps p.tables e below (T43.setTop (mkF m 173 #[.val (.int p1), .val (.int p2), .val (.int p3), .val (.int p4), .val (.long q5), .second, .val (.int p6), .val (.int (1 : Int32)), .val (.int (own_t0 q5)), .val (.int (own_t1 q5 (8 : Int32))), .val (.int (own_t1 q5 (16 : Int32))), .val (.int (2 : Int32)), .val (.ref b2), .val (.ref b14), .val (.ref b1_41), .unset, .unset] [(.int p1), (.ref b43), (.ref b43)])) _
    refine XS.iloadN X43.here hx rfl (hb hby at_173) rfl ?_
    show Steps p.tables e below (T43.setTop (mkF m 174 #[.val (.int p1), .val (.int p2), .val (.int p3), .val (.int p4), .val (.long q5), .second, .val (.int p6), .val (.int (1 : Int32)), .val (.int (own_t0 q5)), .val (.int (own_t1 q5 (8 : Int32))), .val (.int (own_t1 q5 (16 : Int32))), .val (.int (2 : Int32)), .val (.ref b2), .val (.ref b14), .val (.ref b1_41), .unset, .unset] [(.int p2), (.int p1), (.ref b43), (.ref b43)])) _
    refine XS.iloadN X43.here hx rfl (hb hby at_174) rfl ?_
    show Steps p.tables e below (T43.setTop (mkF m 175 #[.val (.int p1), .val (.int p2), .val (.int p3), .val (.int p4), .val (.long q5), .second, .val (.int p6), .val (.int (1 : Int32)), .val (.int (own_t0 q5)), .val (.int (own_t1 q5 (8 : Int32))), .val (.int (own_t1 q5 (16 : Int32))), .val (.int (2 : Int32)), .val (.ref b2), .val (.ref b14), .val (.ref b1_41), .unset, .unset] [(.int p3), (.int p2), (.int p1), (.ref b43), (.ref b43)])) _
    refine XS.aload X43.here hx rfl (hb hby at_175) rfl rfl ?_
    show Steps p.tables e below (T43.setTop (mkF m 177 #[.val (.int p1), .val (.int p2), .val (.int p3), .val (.int p4), .val (.long q5), .second, .val (.int p6), .val (.int (1 : Int32)), .val (.int (own_t0 q5)), .val (.int (own_t1 q5 (8 : Int32))), .val (.int (own_t1 q5 (16 : Int32))), .val (.int (2 : Int32)), .val (.ref b2), .val (.ref b14), .val (.ref b1_41), .unset, .unset] [(.ref b1_41), (.int p3), (.int p2), (.int p1), (.ref b43), (.ref b43)])) _
    refine st50.trans ?_
    show Steps p.tables e below (T50.setTop (mkF m 180 #[.val (.int p1), .val (.int p2), .val (.int p3), .val (.int p4), .val (.long q5), .second, .val (.int p6), .val (.int (1 : Int32)), .val (.int (own_t0 q5)), .val (.int (own_t1 q5 (8 : Int32))), .val (.int (own_t1 q5 (16 : Int32))), .val (.int (2 : Int32)), .val (.ref b2), .val (.ref b14), .val (.ref b1_41), .unset, .unset] [(.ref b43)])) _
    refine XS.astore X50.here hx rfl (hb hby at_180) rfl rfl (l' := #[.val (.int p1), .val (.int p2), .val (.int p3), .val (.int p4), .val (.long q5), .second, .val (.int p6), .val (.int (1 : Int32)), .val (.int (own_t0 q5)), .val (.int (own_t1 q5 (8 : Int32))), .val (.int (own_t1 q5 (16 : Int32))), .val (.int (2 : Int32)), .val (.ref b2), .val (.ref b14), .val (.ref b1_41), .val (.ref b43), .unset]) rfl ?_
    show Steps p.tables e below (T50.setTop (mkF m 182 #[.val (.int p1), .val (.int p2), .val (.int p3), .val (.int p4), .val (.long q5), .second, .val (.int p6), .val (.int (1 : Int32)), .val (.int (own_t0 q5)), .val (.int (own_t1 q5 (8 : Int32))), .val (.int (own_t1 q5 (16 : Int32))), .val (.int (2 : Int32)), .val (.ref b2), .val (.ref b14), .val (.ref b1_41), .val (.ref b43), .unset] [])) _
    refine XS.iload X50.here hx rfl (hb hby at_182) rfl ?_
    show Steps p.tables e below (T50.setTop (mkF m 184 #[.val (.int p1), .val (.int p2), .val (.int p3), .val (.int p4), .val (.long q5), .second, .val (.int p6), .val (.int (1 : Int32)), .val (.int (own_t0 q5)), .val (.int (own_t1 q5 (8 : Int32))), .val (.int (own_t1 q5 (16 : Int32))), .val (.int (2 : Int32)), .val (.ref b2), .val (.ref b14), .val (.ref b1_41), .val (.ref b43), .unset] [(.int (1 : Int32))])) _
    refine XS.iconst X50.here hx rfl (hb hby at_184) ?_
    show Steps p.tables e below (T50.setTop (mkF m 185 #[.val (.int p1), .val (.int p2), .val (.int p3), .val (.int p4), .val (.long q5), .second, .val (.int p6), .val (.int (1 : Int32)), .val (.int (own_t0 q5)), .val (.int (own_t1 q5 (8 : Int32))), .val (.int (own_t1 q5 (16 : Int32))), .val (.int (2 : Int32)), .val (.ref b2), .val (.ref b14), .val (.ref b1_41), .val (.ref b43), .unset] [(.int (1 : Int32)), (.int (1 : Int32))])) _
    refine XS.icmpYes X50.here hx rfl (pc0 := 185) (pc' := 192) rfl (hb hby at_185) rfl (teq (rfl : (1 : Int32) = (1 : Int32))).1 (by decide) (by decide) ?_
    show Steps p.tables e below (T50.setTop (mkF m 192 #[.val (.int p1), .val (.int p2), .val (.int p3), .val (.int p4), .val (.long q5), .second, .val (.int p6), .val (.int (1 : Int32)), .val (.int (own_t0 q5)), .val (.int (own_t1 q5 (8 : Int32))), .val (.int (own_t1 q5 (16 : Int32))), .val (.int (2 : Int32)), .val (.ref b2), .val (.ref b14), .val (.ref b1_41), .val (.ref b43), .unset] [])) _
    refine XS.iconst X50.here hx rfl (hb hby at_192) ?_
    show Steps p.tables e below (T50.setTop (mkF m 193 #[.val (.int p1), .val (.int p2), .val (.int p3), .val (.int p4), .val (.long q5), .second, .val (.int p6), .val (.int (1 : Int32)), .val (.int (own_t0 q5)), .val (.int (own_t1 q5 (8 : Int32))), .val (.int (own_t1 q5 (16 : Int32))), .val (.int (2 : Int32)), .val (.ref b2), .val (.ref b14), .val (.ref b1_41), .val (.ref b43), .unset] [(.int (0 : Int32))])) _
    refine XS.istore X50.here hx rfl (hb hby at_193) rfl (l' := #[.val (.int p1), .val (.int p2), .val (.int p3), .val (.int p4), .val (.long q5), .second, .val (.int p6), .val (.int (1 : Int32)), .val (.int (own_t0 q5)), .val (.int (own_t1 q5 (8 : Int32))), .val (.int (own_t1 q5 (16 : Int32))), .val (.int (2 : Int32)), .val (.ref b2), .val (.ref b14), .val (.ref b1_41), .val (.ref b43), .val (.int (0 : Int32))]) rfl ?_
    show Steps p.tables e below (T50.setTop (mkF m 195 #[.val (.int p1), .val (.int p2), .val (.int p3), .val (.int p4), .val (.long q5), .second, .val (.int p6), .val (.int (1 : Int32)), .val (.int (own_t0 q5)), .val (.int (own_t1 q5 (8 : Int32))), .val (.int (own_t1 q5 (16 : Int32))), .val (.int (2 : Int32)), .val (.ref b2), .val (.ref b14), .val (.ref b1_41), .val (.ref b43), .val (.int (0 : Int32))] [])) _
    refine XS.aload X50.here hx rfl (hb hby at_195) rfl rfl ?_
    show Steps p.tables e below (T50.setTop (mkF m 197 #[.val (.int p1), .val (.int p2), .val (.int p3), .val (.int p4), .val (.long q5), .second, .val (.int p6), .val (.int (1 : Int32)), .val (.int (own_t0 q5)), .val (.int (own_t1 q5 (8 : Int32))), .val (.int (own_t1 q5 (16 : Int32))), .val (.int (2 : Int32)), .val (.ref b2), .val (.ref b14), .val (.ref b1_41), .val (.ref b43), .val (.int (0 : Int32))] [(.ref b43)])) _
    refine st56.trans ?_
    show Steps p.tables e below (T56.setTop (mkF m 200 #[.val (.int p1), .val (.int p2), .val (.int p3), .val (.int p4), .val (.long q5), .second, .val (.int p6), .val (.int (1 : Int32)), .val (.int (own_t0 q5)), .val (.int (own_t1 q5 (8 : Int32))), .val (.int (own_t1 q5 (16 : Int32))), .val (.int (2 : Int32)), .val (.ref b2), .val (.ref b14), .val (.ref b1_41), .val (.ref b43), .val (.int (0 : Int32))] [(.int (0 : Int32))])) _
    refine XS.iload X56.here hx rfl (hb hby at_200) rfl ?_
    show Steps p.tables e below (T56.setTop (mkF m 202 #[.val (.int p1), .val (.int p2), .val (.int p3), .val (.int p4), .val (.long q5), .second, .val (.int p6), .val (.int (1 : Int32)), .val (.int (own_t0 q5)), .val (.int (own_t1 q5 (8 : Int32))), .val (.int (own_t1 q5 (16 : Int32))), .val (.int (2 : Int32)), .val (.ref b2), .val (.ref b14), .val (.ref b1_41), .val (.ref b43), .val (.int (0 : Int32))] [(.int (0 : Int32)), (.int (0 : Int32))])) _
    refine XS.icmpNo X56.here hx rfl (hb hby at_202) rfl (teq (rfl : (0 : Int32) = (0 : Int32))).2 ?_
    show Steps p.tables e below (T56.setTop (mkF m 205 #[.val (.int p1), .val (.int p2), .val (.int p3), .val (.int p4), .val (.long q5), .second, .val (.int p6), .val (.int (1 : Int32)), .val (.int (own_t0 q5)), .val (.int (own_t1 q5 (8 : Int32))), .val (.int (own_t1 q5 (16 : Int32))), .val (.int (2 : Int32)), .val (.ref b2), .val (.ref b14), .val (.ref b1_41), .val (.ref b43), .val (.int (0 : Int32))] [])) _
    refine XS.iconst X56.here hx rfl (hb hby at_205) ?_
    show Steps p.tables e below (T56.setTop (mkF m 206 #[.val (.int p1), .val (.int p2), .val (.int p3), .val (.int p4), .val (.long q5), .second, .val (.int p6), .val (.int (1 : Int32)), .val (.int (own_t0 q5)), .val (.int (own_t1 q5 (8 : Int32))), .val (.int (own_t1 q5 (16 : Int32))), .val (.int (2 : Int32)), .val (.ref b2), .val (.ref b14), .val (.ref b1_41), .val (.ref b43), .val (.int (0 : Int32))] [(.int (1 : Int32))])) _
    refine XS.goto X56.here hx rfl (pc0 := 206) (pc' := 210) rfl (hb hby at_206) (by decide) (by decide) ?_
    show Steps p.tables e below (T56.setTop (mkF m 210 #[.val (.int p1), .val (.int p2), .val (.int p3), .val (.int p4), .val (.long q5), .second, .val (.int p6), .val (.int (1 : Int32)), .val (.int (own_t0 q5)), .val (.int (own_t1 q5 (8 : Int32))), .val (.int (own_t1 q5 (16 : Int32))), .val (.int (2 : Int32)), .val (.ref b2), .val (.ref b14), .val (.ref b1_41), .val (.ref b43), .val (.int (0 : Int32))] [(.int (1 : Int32))])) _
    exact retN X56 hx (t := .boolean) Bd.returns (by simp) (hb hby at_210) hr
  · show own_Qlaw h0 n0 _ T56.heap _
    exact ⟨rfl, N56⟩
theorem own_eflaw22 (m : MethodId) (p1 : Int32) (p2 : Int32) (p3 : Int32) (p4 : Int32) (q5 : Int64) (p6 : Int32) : entryFrame m #[(.int p1), (.int p2), (.int p3), (.int p4), (.long q5), (.int p6)] maxLocals = mkF m 0 #[.val (.int p1), .val (.int p2), .val (.int p3), .val (.int p4), .val (.long q5), .second, .val (.int p6), .unset, .unset, .unset, .unset, .unset, .unset, .unset, .unset, .unset, .unset] [] := by first | (simp [entryFrame, mkF, argsToLocals, Value.category, maxLocals]; done) | rfl
set_option maxRecDepth 65536 in
set_option maxHeartbeats 40000000 in
theorem own_law22 (l : Launch) (Z : State) (a0 : Array Value) (hw : ∀ d ∈ tables_1, d.before a0 Z = true) (ws : List Jvm.Cond) (G1 : Int32) (k_EMPTY : Addr) (gl : own_Glob Z G1 k_EMPTY) (p1 : Int32) (p2 : Int32) (p3 : Int32) (p4 : Int32) (q5 : Int64) (p6 : Int32) (h0 : Heap) (n0 : Nat) (Z0 : n0 ≤ h0.size) (X00 : Old Z n0 h0) (hk : own_kd p4 = 2) (hn : own_a3 p6 = 1) :
    MetFree l x (head1 (Jvm.Cond.code x code maxLocals ret :: ws) room_1) (fun a U => a = #[(.int p1), (.int p2), (.int p3), (.int p4), (.long q5), (.int p6)] ∧ Z.Warmed39 U.vm ∧ U.heap = h0) (fun _ _ _ _ _ => True) (fun _ U o U' => ∃ v L, o = .returned v ∧ own_Qlaw h0 n0 v U'.heap L ∧ ReturnedEndW U o U' L room_1.cells room_1.slots) := by
  refine MetFree.of_bodySF (plainFor_of_name own_pn15) hisR ?_
  intro p e s m args below meth c s₁ Bd hml0 hP hK
  obtain ⟨rfl, hZ, hh⟩ := hP
  obtain ⟨O_CS, P_CS, O_EMPTY, E_EMPTY, F_EMPTY⟩ := id gl
  have hx := Bd.exec
  have hby := Bd.bytes
  have hml : c.maxLocals = 17 := hml0
  have hown : s.vm.findClass "com/example/leftmost/leftmost/tree/NodeIsLeafPinLaw" = some m.cls := findClass_of_methodNamed Bd.named
  have hnm := (name_of_methodNamed Bd.named Bd.method).1
  have X0 : Stand p l e room_1 s m #[(.int p1), (.int p2), (.int p3), (.int p4), (.long q5), (.int p6)] below meth c s₁ [] 0 0 := Stand.of_body Bd
  have e0 : s₁.heap = h0 := by rw [← hh, Bd.state]; rfl
  have N0 := Fr.nil n0
  have pre0 : ∀ t, Steps p.tables e below (s₁.setTop (mkF m 0 #[.val (.int p1), .val (.int p2), .val (.int p3), .val (.int p4), .val (.long q5), .second, .val (.int p6), .unset, .unset, .unset, .unset, .unset, .unset, .unset, .unset, .unset, .unset] [])) t → Steps p.tables e below (s₁.setTop (entryFrame m #[(.int p1), (.int p2), (.int p3), (.int p4), (.long q5), (.int p6)] maxLocals)) t := fun t k => castTop (own_eflaw22 m p1 p2 p3 p4 q5 p6) k
  obtain ⟨_, _, ⟨T1, L1, k1, n1⟩, -, X1, ⟨Lc1, hQ1, l1, y1, z1⟩, st1⟩ := Jvm.LawKit.callS X0 hx (y := (⟨"java/lang/Math", "min", "(II)I"⟩ : MethodName)) hown (mvT hZ (hw _ (List.mem_of_getElem? (i := 2) rfl))) (mvT hZ (hw _ (List.mem_of_getElem? (i := 3) rfl))) (mvT hZ (hw _ (List.mem_of_getElem? (i := 4) rfl))) (mvT hZ (hw _ (List.mem_of_getElem? (i := 5) rfl))) (by decide) (backOf (W := 1) (own_rm_minR l Z a0 hw [] G1 k_EMPTY gl (2 : Int32) (1 : Int32) h0 n0 Z0 (by decide : (1 : Int32) < (2 : Int32))) hZ (hw _ (List.mem_of_getElem? (i := 5) rfl)) (hw _ (List.mem_of_getElem? (i := 4) rfl)) (by decide) (by decide)) (g := (mkF m 50 #[.val (.int p1), .val (.int p2), .val (.int p3), .val (.int p4), .val (.long q5), .second, .val (.int p6), .val (.int (2 : Int32)), .val (.int (own_t0 q5)), .val (.int (own_t1 q5 (8 : Int32))), .val (.int (own_t1 q5 (16 : Int32))), .unset, .unset, .unset, .unset, .unset, .unset] [(.int (1 : Int32)), (.int (2 : Int32)), (.int (1 : Int32))])) rfl (by rw [hml]; rfl) (argsL := [(.int (2 : Int32)), (.int (1 : Int32))]) (rest := [(.int (1 : Int32))]) (lenOf own_pd11 rfl) rfl (by show 2 * 0 + _ ≤ _; exact Nat.le_of_eq rfl) (hb hby at_50) (fun _ _ => ⟨rfl, e0, (by decide : 0 + 0 ≤ _), (by decide : 0 + 0 ≤ _)⟩)
  dsimp only [Pt.U, Pt.locs, Pt.cells, Pt.slots] at X1 l1 y1 z1 st1 hQ1
  subst y1 z1
  obtain ⟨rfl, Nq1, e1⟩ := hQ1
  have N1 : Fr n0 L1 := by rw [l1]; exact Fr.app N0 Nq1
  obtain ⟨T2, h2, k2, X2, e2, E2, A2, st2⟩ := newP X1 hx hZ (hw _ (List.mem_of_getElem? (i := 6) rfl)) e1 (g := (mkF m 82 #[.val (.int p1), .val (.int p2), .val (.int p3), .val (.int p4), .val (.long q5), .second, .val (.int p6), .val (.int (2 : Int32)), .val (.int (own_t0 q5)), .val (.int (own_t1 q5 (8 : Int32))), .val (.int (own_t1 q5 (16 : Int32))), .val (.int (2 : Int32)), .unset, .unset, .unset, .unset, .unset] [(.int (2 : Int32))])) rfl (hb hby at_82) rfl (by decide) (cap := 2) (by decide) (by decide) (by decide) (by decide)
  obtain ⟨b2, g2⟩ : ∃ z, z = h0.size := ⟨_, rfl⟩
  rw [← g2] at A2 st2
  have Kp3 : Keep h0 h2 [] := (Keep.refl h0 []).ext E2
  have Vh4 : Arv Z h2 b2 k2 .char (2 : Int32) [(.int (0 : Int32)), (.int (0 : Int32))] (.int (0 : Int32)) := (Arv.new A2 (by decide)).pad (pad_rep [] (.int (0 : Int32)) 2)
  obtain ⟨cl5, Ar5, qc5, Sz5, Ng5, Hs5, Gs5⟩ := id Vh4
  have hin5 : ¬ ((0 : Int32) < 0 ∨ cl5.slots.size ≤ ((0 : Int32)).toNatClampNeg) := inb_of Sz5 ⟨(by decide), (by decide)⟩
  obtain ⟨T6, h6, X6, e6, W6, st6⟩ := stC X2 hx hZ e2 Ar5 (j := (0 : Int32)) hin5 (g := (mkF m 88 #[.val (.int p1), .val (.int p2), .val (.int p3), .val (.int p4), .val (.long q5), .second, .val (.int p6), .val (.int (2 : Int32)), .val (.int (own_t0 q5)), .val (.int (own_t1 q5 (8 : Int32))), .val (.int (own_t1 q5 (16 : Int32))), .val (.int (2 : Int32)), .unset, .unset, .unset, .unset, .unset] [(.int (own_t0 q5)), (.int (0 : Int32)), (.ref b2), (.ref b2)])) rfl rfl (hb hby at_88)
  have Kp7 : Keep h0 h6 [] := Kp3.wr W6 (Or.inr (Nat.le_trans (Keep.refl h0 []).1 (Nat.le_of_eq g2.symm)))
  have gh8 : n0 ≤ b2 := Nat.le_trans Z0 (Nat.le_of_eq g2.symm)
  obtain ⟨Lp6, X6, N6⟩ := own_pack X6 (Fr.snoc X6 N1 gh8)
  have Vh9 : Arv Z h6 b2 k2 .char (2 : Int32) [(.int (own_n0 q5)), (.int (0 : Int32))] (.int (0 : Int32)) := (Arv.set Ar5 qc5 Sz5 Ng5 Hs5 Gs5 (fits_nar_char _) W6 0 rfl (Nat.le_of_ble_eq_true rfl))
  obtain ⟨cl10, Ar10, qc10, Sz10, Ng10, Hs10, Gs10⟩ := id Vh9
  have hin10 : ¬ ((1 : Int32) < 0 ∨ cl10.slots.size ≤ ((1 : Int32)).toNatClampNeg) := inb_of Sz10 ⟨(by decide), (by decide)⟩
  obtain ⟨T11, h11, X11, e11, W11, st11⟩ := stC X6 hx hZ e6 Ar10 (j := (1 : Int32)) hin10 (g := (mkF m 93 #[.val (.int p1), .val (.int p2), .val (.int p3), .val (.int p4), .val (.long q5), .second, .val (.int p6), .val (.int (2 : Int32)), .val (.int (own_t0 q5)), .val (.int (own_t1 q5 (8 : Int32))), .val (.int (own_t1 q5 (16 : Int32))), .val (.int (2 : Int32)), .unset, .unset, .unset, .unset, .unset] [(.int (own_t1 q5 (8 : Int32))), (.int (1 : Int32)), (.ref b2), (.ref b2)])) rfl rfl (hb hby at_93)
  have Kp12 : Keep h0 h11 [] := Kp7.wr W11 (Or.inr (Nat.le_trans (Keep.refl h0 []).1 (Nat.le_of_eq g2.symm)))
  obtain ⟨Lp11, X11, N11⟩ := own_pack X11 (Fr.snoc X11 N6 gh8)
  have Vh13 : Arv Z h11 b2 k2 .char (2 : Int32) [(.int (own_n0 q5)), (.int (own_n1 q5 (8 : Int32)))] (.int (0 : Int32)) := (Arv.set Ar10 qc10 Sz10 Ng10 Hs10 Gs10 (fits_nar_char _) W11 1 rfl (Nat.le_of_ble_eq_true rfl))
  obtain ⟨T14, h14, X14, e14, E14, A14, D14, U14, st14⟩ := newO X11 hx hZ hown (hw _ (List.mem_of_getElem? (i := 7) rfl)) (hw _ (List.mem_of_getElem? (i := 8) rfl)) (hw _ (List.mem_of_getElem? (i := 9) rfl)) e11 (g := (mkF m 119 #[.val (.int p1), .val (.int p2), .val (.int p3), .val (.int p4), .val (.long q5), .second, .val (.int p6), .val (.int (2 : Int32)), .val (.int (own_t0 q5)), .val (.int (own_t1 q5 (8 : Int32))), .val (.int (own_t1 q5 (16 : Int32))), .val (.int (2 : Int32)), .val (.ref b2), .unset, .unset, .unset, .unset] [])) rfl (hb hby at_119) (by decide) (by decide)
  obtain ⟨b14, g14⟩ : ∃ z, z = h11.size := ⟨_, rfl⟩
  rw [← g14] at A14 D14 U14 st14
  have Kp15 : Keep h0 h14 [] := Kp12.ext E14
  have Fh16 : Fld Z h14 b14 "java/lang/String" "value" "[B" .null := (D14 (Or.inr (hw _ (List.mem_of_getElem? (i := 35) rfl))) (ty := (.array .byte)) (by decide))
  have Fh17 : Fld Z h14 b14 "java/lang/String" "coder" "B" (.int (0 : Int32)) := (D14 (Or.inr (hw _ (List.mem_of_getElem? (i := 33) rfl))) (ty := .byte) (by decide))
  have Vh18 : Arv Z h14 b2 k2 .char (2 : Int32) [(.int (own_n0 q5)), (.int (own_n1 q5 (8 : Int32)))] (.int (0 : Int32)) := (Vh13.ext E14)
  have hph19 : ∀ c ∈ ([(own_n0 q5), (own_n1 q5 (8 : Int32))] : List Int32), ¬ c < 0 ∧ ¬ (255 : Int32) < c := (own_cS (own_rng_n0 q5) (own_cS (own_rng_n1 q5 (8 : Int32)) own_c0))
  have hws_words : ∀ d ∈ StrChars.Road.words, d.before a0 Z = true := fun d hd => hw d (own_hws_words d hd)
  have Zh20 : n0 ≤ h14.size := (Nat.le_trans Z0 Kp15.1)
  have gh21 : n0 ≤ b14 := Nat.le_trans (Nat.le_trans Z0 Kp12.1) (Nat.le_of_eq g14.symm)
  have Old22 : Old Z n0 h2 := X00.ext E2
  have Old23 : Old Z n0 h6 := Old22.wr W6 gh8
  have Old24 : Old Z n0 h11 := Old23.wr W11 gh8
  have Old25 : Old Z n0 h14 := Old24.ext E14
  obtain ⟨_, _, ⟨T26, L26, k26, n26⟩, -, X26, ⟨Lc26, hQ26, l26, y26, z26⟩, st26⟩ := X14.specialBack hx (y := (⟨"java/lang/String", "<init>", "([C)V"⟩ : MethodName)) rfl hown (mvT hZ (hw _ (List.mem_of_getElem? (i := 10) rfl))) (mvT hZ (hw _ (List.mem_of_getElem? (i := 11) rfl))) (mvT hZ (hw _ (List.mem_of_getElem? (i := 12) rfl))) (by decide) (StrChars.Road.backV (W := 1) hZ hws_words (kI := 4) (hw _ (List.mem_of_getElem? (i := 8) rfl)) (cs := ([(own_n0 q5), (own_n1 q5 (8 : Int32))] : List Int32)) (bs := ([(own_n0 q5), (own_n1 q5 (8 : Int32))] : List Int32).map (fun c => c.toInt8.toInt32)) (n := 2) gh21 Zh20 A14 Fh16 Fh17 Vh18 (O_CS.ext Old25.2) P_CS rfl rfl (by decide) (by decide) hph19 rfl (by decide) (by decide)) (g := (mkF m 125 #[.val (.int p1), .val (.int p2), .val (.int p3), .val (.int p4), .val (.long q5), .second, .val (.int p6), .val (.int (2 : Int32)), .val (.int (own_t0 q5)), .val (.int (own_t1 q5 (8 : Int32))), .val (.int (own_t1 q5 (16 : Int32))), .val (.int (2 : Int32)), .val (.ref b2), .unset, .unset, .unset, .unset] [(.ref b2), (.ref b14), (.ref b14)])) rfl (by rw [hml]; rfl) (Steps.refl _) (a := b14) (argsL := [(.ref b2)]) (rest := [(.ref b14)]) (lenOf own_pd12 rfl) rfl (by show 2 * 0 + _ ≤ _; exact Nat.le_of_eq rfl) (hb hby at_125) (fun _ _ => ⟨rfl, e14, (by decide : 2 + 1 ≤ _), (by decide : 6 + 2 ≤ _)⟩)
  dsimp only [Pt.U, Pt.locs, Pt.cells, Pt.slots] at X26 l26 y26 z26 st26 hQ26
  subst y26 z26
  obtain ⟨rfl, Nq26, Kq26, Eq26, Cq26, t26, kb26, gt26, szt26, nt26, Vq26, Bq26⟩ := hQ26
  have N26 : Fr n0 L26 := by rw [l26]; exact Fr.app N11 Nq26
  have Kp27 : Keep h0 T26.heap [] := Kp15.trans Kq26 (allS (Or.inr (Nat.le_trans Kp12.1 (Nat.le_of_eq g14.symm))) all0)
  obtain ⟨T28, h28, X28, e28, E28, A28, D28, U28, st28⟩ := newO X26 hx hZ hown (hw _ (List.mem_of_getElem? (i := 36) rfl)) (hw _ (List.mem_of_getElem? (i := 37) rfl)) (hw _ (List.mem_of_getElem? (i := 38) rfl)) rfl (g := (mkF m 143 #[.val (.int p1), .val (.int p2), .val (.int p3), .val (.int p4), .val (.long q5), .second, .val (.int p6), .val (.int (2 : Int32)), .val (.int (own_t0 q5)), .val (.int (own_t1 q5 (8 : Int32))), .val (.int (own_t1 q5 (16 : Int32))), .val (.int (2 : Int32)), .val (.ref b2), .val (.ref b14), .unset, .unset, .unset] [])) rfl (hb hby at_143) (by decide) (by decide)
  obtain ⟨b28, g28⟩ : ∃ z, z = T26.heap.size := ⟨_, rfl⟩
  rw [← g28] at A28 D28 U28 st28
  have Kp29 : Keep h0 h28 [] := Kp27.ext E28
  have Eh30 : Exa Z h28 b14 "java/lang/String" := (Eq26.ext E28)
  have Fh31 : Fld Z h28 b14 "java/lang/String" "value" "[B" (.ref t26) := (Vq26.ext E28)
  have Fh32 : Fld Z h28 b14 "java/lang/String" "coder" "B" (.int (0 : Int32)) := (Cq26.ext E28)
  have Vh33 : Arv Z h28 t26 kb26 .byte (2 : Int32) ((([(own_n0 q5), (own_n1 q5 (8 : Int32))] : List Int32).map (fun c => c.toInt8.toInt32)).map Value.int) (.int (0 : Int32)) := (Bq26.ext E28)
  have Fh34 : Fld Z h28 b28 "com/example/leftmost/leftmost/grammar/Symbol" "name" "Ljava/lang/String;" .null := (D28 (Or.inr (hw _ (List.mem_of_getElem? (i := 61) rfl))) (ty := (.object "java/lang/String")) (by decide))
  have gh35 : n0 ≤ b28 := Nat.le_trans (Nat.le_trans Z0 Kp27.1) (Nat.le_of_eq g28.symm)
  have Fh36 : Fld Z h28 b28 "com/example/leftmost/leftmost/grammar/Symbol" "isVariable" "Z" (.int (0 : Int32)) := (D28 (Or.inr (hw _ (List.mem_of_getElem? (i := 63) rfl))) (ty := .boolean) (by decide))
  have Old37 : Old Z n0 T26.heap := Old25.keep Kq26 (allS gh21 all0)
  have Old38 : Old Z n0 h28 := Old37.ext E28
  obtain ⟨_, _, ⟨T39, L39, k39, n39⟩, -, X39, hSq39, hgr39, ⟨Lc39, hQ39, l39, y39, z39⟩, st39⟩ := X28.specialBackS hx (y := (⟨"com/example/leftmost/leftmost/grammar/Symbol", "<init>", "(Ljava/lang/String;Z)V"⟩ : MethodName)) rfl hown (mvT hZ (hw _ (List.mem_of_getElem? (i := 39) rfl))) (mvT hZ (hw _ (List.mem_of_getElem? (i := 40) rfl))) (mvT hZ (hw _ (List.mem_of_getElem? (i := 41) rfl))) (by decide) (backOfS (W := 1) (own_rm_sym2 l Z a0 hw [] G1 k_EMPTY gl b28 b14 (0 : Int32) (own_n0 q5) (own_n1 q5 (8 : Int32)) t26 (kb26) (.null) ((.int (0 : Int32))) h28 n0 (Nat.le_trans Z0 Kp29.1) Old38 Eh30 Fh31 Fh32 Vh33 hph19 A28 Fh34 gh35 Fh36) hZ (hw _ (List.mem_of_getElem? (i := 41) rfl)) (hw _ (List.mem_of_getElem? (i := 38) rfl)) (by decide) (by decide)) (g := (mkF m 160 #[.val (.int p1), .val (.int p2), .val (.int p3), .val (.int p4), .val (.long q5), .second, .val (.int p6), .val (.int (2 : Int32)), .val (.int (own_t0 q5)), .val (.int (own_t1 q5 (8 : Int32))), .val (.int (own_t1 q5 (16 : Int32))), .val (.int (2 : Int32)), .val (.ref b2), .val (.ref b14), .unset, .unset, .unset] [(.int (0 : Int32)), (.ref b14), (.ref b28), (.ref b28)])) rfl (by rw [hml]; rfl) (Steps.refl _) (a := b28) (argsL := [(.ref b14), (.int (0 : Int32))]) (rest := [(.ref b28)]) (lenOf own_pd16 rfl) rfl (by show 2 * 0 + _ ≤ _; exact Nat.le_of_eq rfl) (hb hby at_160) (fun _ _ => ⟨rfl, e28, (by decide : 4 + 2 ≤ _), (by decide : 10 + 20 ≤ _)⟩)
  dsimp only [Pt.U, Pt.locs, Pt.cells, Pt.slots] at X39 l39 y39 z39 st39 hQ39 hSq39 hgr39
  subst y39 z39
  obtain ⟨Xw39, hS39, hZ39, hown39⟩ := rebS (vm0 := s.vm) ((State.WarmedH.refl s).since 0) (by rw [e28]; exact (Nat.zero_le _)) X39 hSq39 hgr39 hZ hown
  obtain ⟨rfl, Nq39, Kq39, f39_0, f39_1, f39_2⟩ := hQ39
  have N39 : Fr n0 L39 := by rw [l39]; exact Fr.app N26 Nq39
  have Kp40 : Keep h0 T39.heap [] := Kp29.trans Kq39 (allS (Or.inr (Nat.le_trans Kp27.1 (Nat.le_of_eq g28.symm))) all0)
  obtain ⟨_, _, ⟨T41, L41, k41, n41⟩, -, X41, ⟨Lc41, hQ41, l41, y41, z41⟩, st41⟩ := Jvm.LawKit.callS Xw39 hx (y := (⟨"java/util/Optional", "of", "(Ljava/lang/Object;)Ljava/util/Optional;"⟩ : MethodName)) hown39 (mvT hZ39 (hw _ (List.mem_of_getElem? (i := 64) rfl))) (mvT hZ39 (hw _ (List.mem_of_getElem? (i := 65) rfl))) (mvT hZ39 (hw _ (List.mem_of_getElem? (i := 66) rfl))) (mvT hZ39 (hw _ (List.mem_of_getElem? (i := 67) rfl))) (by decide) (backOf (W := 0) (own_rm_of l Z a0 hw [] G1 k_EMPTY gl b28 T39.heap n0 (Nat.le_trans Z0 Kp40.1) ) hZ39 (hw _ (List.mem_of_getElem? (i := 67) rfl)) (hw _ (List.mem_of_getElem? (i := 66) rfl)) (by decide) (by decide)) (g := (mkF m 163 #[.val (.int p1), .val (.int p2), .val (.int p3), .val (.int p4), .val (.long q5), .second, .val (.int p6), .val (.int (2 : Int32)), .val (.int (own_t0 q5)), .val (.int (own_t1 q5 (8 : Int32))), .val (.int (own_t1 q5 (16 : Int32))), .val (.int (2 : Int32)), .val (.ref b2), .val (.ref b14), .unset, .unset, .unset] [(.ref b28)])) rfl (by rw [hml]; rfl) (argsL := [(.ref b28)]) (rest := []) (lenOf own_pd17 rfl) rfl (by show 2 * 0 + _ ≤ _; exact Nat.le_of_eq rfl) (hb hby at_163) (fun _ _ => ⟨rfl, rfl, (by decide : 6 + 1 ≤ _), (by decide : 30 + 1 ≤ _)⟩)
  dsimp only [Pt.U, Pt.locs, Pt.cells, Pt.slots] at X41 l41 y41 z41 st41 hQ41
  subst y41 z41
  obtain ⟨b1_41, rfl, Nq41, Kq41, f41_0, f41_1, f41_2⟩ := hQ41
  have N41 : Fr n0 L41 := by rw [l41]; exact Fr.app N39 Nq41
  have Kp42 : Keep h0 T41.heap [] := Kp40.trans Kq41 all0
  obtain ⟨T43, h43, X43, e43, E43, A43, D43, U43, st43⟩ := newO X41 hx hZ39 hown39 (hw _ (List.mem_of_getElem? (i := 80) rfl)) (hw _ (List.mem_of_getElem? (i := 81) rfl)) (hw _ (List.mem_of_getElem? (i := 82) rfl)) rfl (g := (mkF m 168 #[.val (.int p1), .val (.int p2), .val (.int p3), .val (.int p4), .val (.long q5), .second, .val (.int p6), .val (.int (2 : Int32)), .val (.int (own_t0 q5)), .val (.int (own_t1 q5 (8 : Int32))), .val (.int (own_t1 q5 (16 : Int32))), .val (.int (2 : Int32)), .val (.ref b2), .val (.ref b14), .val (.ref b1_41), .unset, .unset] [])) rfl (hb hby at_168) (by decide) (by decide)
  obtain ⟨b43, g43⟩ : ∃ z, z = T41.heap.size := ⟨_, rfl⟩
  rw [← g43] at A43 D43 U43 st43
  have Kp44 : Keep h0 h43 [] := Kp42.ext E43
  have Fh45 : Fld Z h43 b43 "com/example/leftmost/leftmost/tree/ParseTree$Node" "index" "I" (.int (0 : Int32)) := (D43 (Or.inr (hw _ (List.mem_of_getElem? (i := 88) rfl))) (ty := .int) (by decide))
  have gh46 : n0 ≤ b43 := Nat.le_trans (Nat.le_trans Z0 Kp42.1) (Nat.le_of_eq g43.symm)
  have Fh47 : Fld Z h43 b43 "com/example/leftmost/leftmost/tree/ParseTree$Node" "parent" "I" (.int (0 : Int32)) := (D43 (Or.inr (hw _ (List.mem_of_getElem? (i := 90) rfl))) (ty := .int) (by decide))
  have Fh48 : Fld Z h43 b43 "com/example/leftmost/leftmost/tree/ParseTree$Node" "depth" "I" (.int (0 : Int32)) := (D43 (Or.inr (hw _ (List.mem_of_getElem? (i := 92) rfl))) (ty := .int) (by decide))
  have Fh49 : Fld Z h43 b43 "com/example/leftmost/leftmost/tree/ParseTree$Node" "symbol" "Ljava/util/Optional;" .null := (D43 (Or.inr (hw _ (List.mem_of_getElem? (i := 94) rfl))) (ty := (.object "java/util/Optional")) (by decide))
  obtain ⟨_, _, ⟨T50, L50, k50, n50⟩, -, X50, ⟨Lc50, hQ50, l50, y50, z50⟩, st50⟩ := X43.specialBack hx (y := (⟨"com/example/leftmost/leftmost/tree/ParseTree$Node", "<init>", "(IIILjava/util/Optional;)V"⟩ : MethodName)) rfl hown39 (mvT hZ39 (hw _ (List.mem_of_getElem? (i := 83) rfl))) (mvT hZ39 (hw _ (List.mem_of_getElem? (i := 84) rfl))) (mvT hZ39 (hw _ (List.mem_of_getElem? (i := 85) rfl))) (by decide) (backOf (W := 1) (own_rm_node l Z a0 hw [] G1 k_EMPTY gl b43 p1 p2 p3 b1_41 ((.int (0 : Int32))) ((.int (0 : Int32))) ((.int (0 : Int32))) (.null) h43 n0 (Nat.le_trans Z0 Kp44.1) A43 Fh45 gh46 Fh47 Fh48 Fh49) hZ39 (hw _ (List.mem_of_getElem? (i := 85) rfl)) (hw _ (List.mem_of_getElem? (i := 82) rfl)) (by decide) (by decide)) (g := (mkF m 177 #[.val (.int p1), .val (.int p2), .val (.int p3), .val (.int p4), .val (.long q5), .second, .val (.int p6), .val (.int (2 : Int32)), .val (.int (own_t0 q5)), .val (.int (own_t1 q5 (8 : Int32))), .val (.int (own_t1 q5 (16 : Int32))), .val (.int (2 : Int32)), .val (.ref b2), .val (.ref b14), .val (.ref b1_41), .unset, .unset] [(.ref b1_41), (.int p3), (.int p2), (.int p1), (.ref b43), (.ref b43)])) rfl (by rw [hml]; rfl) (Steps.refl _) (a := b43) (argsL := [(.int p1), (.int p2), (.int p3), (.ref b1_41)]) (rest := [(.ref b43)]) (lenOf own_pd14 rfl) rfl (by show 2 * 0 + _ ≤ _; exact Nat.le_of_eq rfl) (hb hby at_177) (fun _ _ => ⟨rfl, e43, (by decide : 8 + 0 ≤ _), (by decide : 35 + 0 ≤ _)⟩)
  dsimp only [Pt.U, Pt.locs, Pt.cells, Pt.slots] at X50 l50 y50 z50 st50 hQ50
  subst y50 z50
  obtain ⟨rfl, Nq50, Kq50, f50_0, f50_1, f50_2, f50_3, f50_4⟩ := hQ50
  have N50 : Fr n0 L50 := by rw [l50]; exact Fr.app N41 Nq50
  have Kp51 : Keep h0 T50.heap [] := Kp44.trans Kq50 (allS (Or.inr (Nat.le_trans Kp42.1 (Nat.le_of_eq g43.symm))) all0)
  have Eh52 : Exa Z T50.heap b1_41 "java/util/Optional" := ((f41_1.ext E43).keep Kq50)
  have Fh53 : Fld Z T50.heap b1_41 "java/util/Optional" "value" "Ljava/lang/Object;" (.ref b28) := ((f41_2.ext E43).keep Kq50 (ninS (Nat.ne_of_lt (Nat.lt_of_lt_of_le f41_1.lt (Nat.le_of_eq g43.symm))) nin0))
  have Eh54 : Exa Z T50.heap b28 "com/example/leftmost/leftmost/grammar/Symbol" := (((f39_0.keep Kq41).ext E43).keep Kq50)
  have Fh55 : Fld Z T50.heap b28 "com/example/leftmost/leftmost/grammar/Symbol" "isVariable" "Z" (.int (0 : Int32)) := (((f39_2.keep Kq41 nin0).ext E43).keep Kq50 (ninS (Nat.ne_of_lt (Nat.lt_of_lt_of_le (f39_0.keep Kq41).lt (Nat.le_of_eq g43.symm))) nin0))
  obtain ⟨cq56, kq56, q56a, q56b, q56c⟩ := isOf hZ39 rfl f50_0
  obtain ⟨_, _, ⟨T56, L56, k56, n56⟩, -, X56, ⟨Lc56, hQ56, l56, y56, z56⟩, st56⟩ := X50.virtualBack hx (y := (⟨"com/example/leftmost/leftmost/tree/ParseTree$Node", "isLeaf", "()Z"⟩ : MethodName)) (z := (⟨"com/example/leftmost/leftmost/tree/ParseTree$Node", "isLeaf", "()Z"⟩ : MethodName)) hown39 (mvT hZ39 (hw _ (List.mem_of_getElem? (i := 95) rfl))) (mvT hZ39 (hw _ (List.mem_of_getElem? (i := 96) rfl))) (notFace_of_selects (args := #[]) (mvT hZ39 (hw _ (List.mem_of_getElem? (i := 98) rfl)))) (mvT hZ39 (hw _ (List.mem_of_getElem? (i := 98) rfl))) (mvT hZ39 (hw _ (List.mem_of_getElem? (i := 97) rfl))) (by decide) (backOf (W := 0) (own_rm_leaf0 l Z a0 hw [] G1 k_EMPTY gl b43 b1_41 b28 T50.heap n0 (Nat.le_trans Z0 Kp51.1) f50_4 Eh52 Fh53 Eh54 Fh55) hZ39 (hw _ (List.mem_of_getElem? (i := 99) rfl)) (hw _ (List.mem_of_getElem? (i := 82) rfl)) (by decide) (by decide)) q56a q56c (g := (mkF m 197 #[.val (.int p1), .val (.int p2), .val (.int p3), .val (.int p4), .val (.long q5), .second, .val (.int p6), .val (.int (2 : Int32)), .val (.int (own_t0 q5)), .val (.int (own_t1 q5 (8 : Int32))), .val (.int (own_t1 q5 (16 : Int32))), .val (.int (2 : Int32)), .val (.ref b2), .val (.ref b14), .val (.ref b1_41), .val (.ref b43), .val (.int (1 : Int32))] [(.ref b43)])) rfl (by rw [hml]; rfl) (Steps.refl _) (argsL := []) (rest := []) (lenOf own_pd7 rfl) rfl (by show 2 * 0 + _ ≤ _; exact Nat.le_of_eq rfl) (hb hby at_197) (fun _ _ => ⟨rfl, rfl, (by decide : 8 + 0 ≤ _), (by decide : 35 + 0 ≤ _)⟩)
  dsimp only [Pt.U, Pt.locs, Pt.cells, Pt.slots] at X56 l56 y56 z56 st56 hQ56
  subst y56 z56
  obtain ⟨rfl, Nq56, e56⟩ := hQ56
  have N56 : Fr n0 L56 := by rw [l56]; exact Fr.app N50 Nq56
  obtain ⟨fs, hr, hrun, hended, hREW⟩ := X56.leaveW hS39 (by rw [e56]; exact (Nat.le_trans (Nat.le_refl _) (Nat.le_trans (Nat.le_trans Kq41.1 E43.1) Kq50.1))) (v := some (.int (1 : Int32))) (fun h => by rw [Bd.returns] at h; cases h)
  refine ⟨_, _, pre0 _ ?_, hrun, hended, _, _, rfl, ?_, hREW.1, hREW.2.1, hREW.2.2.1, hREW.2.2.2.mono (by decide) (by decide)⟩
  · show Steps p.tables e below (s₁.setTop (mkF m 0 #[.val (.int p1), .val (.int p2), .val (.int p3), .val (.int p4), .val (.long q5), .second, .val (.int p6), .unset, .unset, .unset, .unset, .unset, .unset, .unset, .unset, .unset, .unset] [])) _
    refine XS.iloadN X0.here hx rfl (hb hby at_0) rfl ?_
    show Steps p.tables e below (s₁.setTop (mkF m 1 #[.val (.int p1), .val (.int p2), .val (.int p3), .val (.int p4), .val (.long q5), .second, .val (.int p6), .unset, .unset, .unset, .unset, .unset, .unset, .unset, .unset, .unset, .unset] [(.int p4)])) _
    refine X0.ldcInt hx hown (mvT hZ (hw _ (List.mem_of_getElem? (i := 0) rfl))) (g := (mkF m 1 #[.val (.int p1), .val (.int p2), .val (.int p3), .val (.int p4), .val (.long q5), .second, .val (.int p6), .unset, .unset, .unset, .unset, .unset, .unset, .unset, .unset, .unset, .unset] [(.int p4)])) rfl (hb hby at_1) _ ?_
    show Steps p.tables e below (s₁.setTop (mkF m 3 #[.val (.int p1), .val (.int p2), .val (.int p3), .val (.int p4), .val (.long q5), .second, .val (.int p6), .unset, .unset, .unset, .unset, .unset, .unset, .unset, .unset, .unset, .unset] [(.int (2147483647 : Int32)), (.int p4)])) _
    refine XS.iand X0.here hx rfl (hb hby at_3) rfl ?_
    show Steps p.tables e below (s₁.setTop (mkF m 4 #[.val (.int p1), .val (.int p2), .val (.int p3), .val (.int p4), .val (.long q5), .second, .val (.int p6), .unset, .unset, .unset, .unset, .unset, .unset, .unset, .unset, .unset, .unset] [(.int (p4 &&& (2147483647 : Int32)))])) _
    refine XS.iconst X0.here hx rfl (hb hby at_4) ?_
    show Steps p.tables e below (s₁.setTop (mkF m 5 #[.val (.int p1), .val (.int p2), .val (.int p3), .val (.int p4), .val (.long q5), .second, .val (.int p6), .unset, .unset, .unset, .unset, .unset, .unset, .unset, .unset, .unset, .unset] [(.int (3 : Int32)), (.int (p4 &&& (2147483647 : Int32)))])) _
    refine iremM X0 hx rfl (hb hby at_5) rfl (by decide) ?_
    show Steps p.tables e below (s₁.setTop (mkF m 6 #[.val (.int p1), .val (.int p2), .val (.int p3), .val (.int p4), .val (.long q5), .second, .val (.int p6), .unset, .unset, .unset, .unset, .unset, .unset, .unset, .unset, .unset, .unset] [(.int (own_kd p4))])) _
    rw [hk]
    show Steps p.tables e below (s₁.setTop (mkF m 6 #[.val (.int p1), .val (.int p2), .val (.int p3), .val (.int p4), .val (.long q5), .second, .val (.int p6), .unset, .unset, .unset, .unset, .unset, .unset, .unset, .unset, .unset, .unset] [(.int (2 : Int32))])) _
    refine XS.istore X0.here hx rfl (hb hby at_6) rfl (l' := #[.val (.int p1), .val (.int p2), .val (.int p3), .val (.int p4), .val (.long q5), .second, .val (.int p6), .val (.int (2 : Int32)), .unset, .unset, .unset, .unset, .unset, .unset, .unset, .unset, .unset]) rfl ?_
    show Steps p.tables e below (s₁.setTop (mkF m 8 #[.val (.int p1), .val (.int p2), .val (.int p3), .val (.int p4), .val (.long q5), .second, .val (.int p6), .val (.int (2 : Int32)), .unset, .unset, .unset, .unset, .unset, .unset, .unset, .unset, .unset] [])) _
    refine XS.lload X0.here hx rfl (hb hby at_8) rfl ?_
    show Steps p.tables e below (s₁.setTop (mkF m 10 #[.val (.int p1), .val (.int p2), .val (.int p3), .val (.int p4), .val (.long q5), .second, .val (.int p6), .val (.int (2 : Int32)), .unset, .unset, .unset, .unset, .unset, .unset, .unset, .unset, .unset] [(.long q5)])) _
    refine X0.ldc2Long hx hown (mvT hZ (hw _ (List.mem_of_getElem? (i := 1) rfl))) (g := (mkF m 10 #[.val (.int p1), .val (.int p2), .val (.int p3), .val (.int p4), .val (.long q5), .second, .val (.int p6), .val (.int (2 : Int32)), .unset, .unset, .unset, .unset, .unset, .unset, .unset, .unset, .unset] [(.long q5)])) rfl (hb hby at_10) _ ?_
    show Steps p.tables e below (s₁.setTop (mkF m 13 #[.val (.int p1), .val (.int p2), .val (.int p3), .val (.int p4), .val (.long q5), .second, .val (.int p6), .val (.int (2 : Int32)), .unset, .unset, .unset, .unset, .unset, .unset, .unset, .unset, .unset] [(.long (255 : Int64)), (.long q5)])) _
    refine XS.land X0.here hx rfl (hb hby at_13) rfl ?_
    show Steps p.tables e below (s₁.setTop (mkF m 14 #[.val (.int p1), .val (.int p2), .val (.int p3), .val (.int p4), .val (.long q5), .second, .val (.int p6), .val (.int (2 : Int32)), .unset, .unset, .unset, .unset, .unset, .unset, .unset, .unset, .unset] [(.long (q5 &&& (255 : Int64)))])) _
    refine XS.l2i X0.here hx rfl (hb hby at_14) rfl ?_
    show Steps p.tables e below (s₁.setTop (mkF m 15 #[.val (.int p1), .val (.int p2), .val (.int p3), .val (.int p4), .val (.long q5), .second, .val (.int p6), .val (.int (2 : Int32)), .unset, .unset, .unset, .unset, .unset, .unset, .unset, .unset, .unset] [(.int ((q5 &&& (255 : Int64)).toInt32))])) _
    refine XS.i2c X0.here hx rfl (hb hby at_15) rfl ?_
    show Steps p.tables e below (s₁.setTop (mkF m 16 #[.val (.int p1), .val (.int p2), .val (.int p3), .val (.int p4), .val (.long q5), .second, .val (.int p6), .val (.int (2 : Int32)), .unset, .unset, .unset, .unset, .unset, .unset, .unset, .unset, .unset] [(.int (own_t0 q5))])) _
    refine XS.istore X0.here hx rfl (hb hby at_16) rfl (l' := #[.val (.int p1), .val (.int p2), .val (.int p3), .val (.int p4), .val (.long q5), .second, .val (.int p6), .val (.int (2 : Int32)), .val (.int (own_t0 q5)), .unset, .unset, .unset, .unset, .unset, .unset, .unset, .unset]) rfl ?_
    show Steps p.tables e below (s₁.setTop (mkF m 18 #[.val (.int p1), .val (.int p2), .val (.int p3), .val (.int p4), .val (.long q5), .second, .val (.int p6), .val (.int (2 : Int32)), .val (.int (own_t0 q5)), .unset, .unset, .unset, .unset, .unset, .unset, .unset, .unset] [])) _
    refine XS.lload X0.here hx rfl (hb hby at_18) rfl ?_
    show Steps p.tables e below (s₁.setTop (mkF m 20 #[.val (.int p1), .val (.int p2), .val (.int p3), .val (.int p4), .val (.long q5), .second, .val (.int p6), .val (.int (2 : Int32)), .val (.int (own_t0 q5)), .unset, .unset, .unset, .unset, .unset, .unset, .unset, .unset] [(.long q5)])) _
    refine XS.bipush X0.here hx rfl (hb hby at_20) ?_
    show Steps p.tables e below (s₁.setTop (mkF m 22 #[.val (.int p1), .val (.int p2), .val (.int p3), .val (.int p4), .val (.long q5), .second, .val (.int p6), .val (.int (2 : Int32)), .val (.int (own_t0 q5)), .unset, .unset, .unset, .unset, .unset, .unset, .unset, .unset] [(.int (8 : Int32)), (.long q5)])) _
    refine XS.lushr X0.here hx rfl (hb hby at_22) rfl ?_
    show Steps p.tables e below (s₁.setTop (mkF m 23 #[.val (.int p1), .val (.int p2), .val (.int p3), .val (.int p4), .val (.long q5), .second, .val (.int p6), .val (.int (2 : Int32)), .val (.int (own_t0 q5)), .unset, .unset, .unset, .unset, .unset, .unset, .unset, .unset] [(.long ((q5.toUInt64 >>> ((8 : Int32) &&& 0x3f).toInt64.toUInt64).toInt64))])) _
    refine X0.ldc2Long hx hown (mvT hZ (hw _ (List.mem_of_getElem? (i := 1) rfl))) (g := (mkF m 23 #[.val (.int p1), .val (.int p2), .val (.int p3), .val (.int p4), .val (.long q5), .second, .val (.int p6), .val (.int (2 : Int32)), .val (.int (own_t0 q5)), .unset, .unset, .unset, .unset, .unset, .unset, .unset, .unset] [(.long ((q5.toUInt64 >>> ((8 : Int32) &&& 0x3f).toInt64.toUInt64).toInt64))])) rfl (hb hby at_23) _ ?_
    show Steps p.tables e below (s₁.setTop (mkF m 26 #[.val (.int p1), .val (.int p2), .val (.int p3), .val (.int p4), .val (.long q5), .second, .val (.int p6), .val (.int (2 : Int32)), .val (.int (own_t0 q5)), .unset, .unset, .unset, .unset, .unset, .unset, .unset, .unset] [(.long (255 : Int64)), (.long ((q5.toUInt64 >>> ((8 : Int32) &&& 0x3f).toInt64.toUInt64).toInt64))])) _
    refine XS.land X0.here hx rfl (hb hby at_26) rfl ?_
    show Steps p.tables e below (s₁.setTop (mkF m 27 #[.val (.int p1), .val (.int p2), .val (.int p3), .val (.int p4), .val (.long q5), .second, .val (.int p6), .val (.int (2 : Int32)), .val (.int (own_t0 q5)), .unset, .unset, .unset, .unset, .unset, .unset, .unset, .unset] [(.long (((q5.toUInt64 >>> ((8 : Int32) &&& 0x3f).toInt64.toUInt64).toInt64) &&& (255 : Int64)))])) _
    refine XS.l2i X0.here hx rfl (hb hby at_27) rfl ?_
    show Steps p.tables e below (s₁.setTop (mkF m 28 #[.val (.int p1), .val (.int p2), .val (.int p3), .val (.int p4), .val (.long q5), .second, .val (.int p6), .val (.int (2 : Int32)), .val (.int (own_t0 q5)), .unset, .unset, .unset, .unset, .unset, .unset, .unset, .unset] [(.int ((((q5.toUInt64 >>> ((8 : Int32) &&& 0x3f).toInt64.toUInt64).toInt64) &&& (255 : Int64)).toInt32))])) _
    refine XS.i2c X0.here hx rfl (hb hby at_28) rfl ?_
    show Steps p.tables e below (s₁.setTop (mkF m 29 #[.val (.int p1), .val (.int p2), .val (.int p3), .val (.int p4), .val (.long q5), .second, .val (.int p6), .val (.int (2 : Int32)), .val (.int (own_t0 q5)), .unset, .unset, .unset, .unset, .unset, .unset, .unset, .unset] [(.int (own_t1 q5 (8 : Int32)))])) _
    refine XS.istore X0.here hx rfl (hb hby at_29) rfl (l' := #[.val (.int p1), .val (.int p2), .val (.int p3), .val (.int p4), .val (.long q5), .second, .val (.int p6), .val (.int (2 : Int32)), .val (.int (own_t0 q5)), .val (.int (own_t1 q5 (8 : Int32))), .unset, .unset, .unset, .unset, .unset, .unset, .unset]) rfl ?_
    show Steps p.tables e below (s₁.setTop (mkF m 31 #[.val (.int p1), .val (.int p2), .val (.int p3), .val (.int p4), .val (.long q5), .second, .val (.int p6), .val (.int (2 : Int32)), .val (.int (own_t0 q5)), .val (.int (own_t1 q5 (8 : Int32))), .unset, .unset, .unset, .unset, .unset, .unset, .unset] [])) _
    refine XS.lload X0.here hx rfl (hb hby at_31) rfl ?_
    show Steps p.tables e below (s₁.setTop (mkF m 33 #[.val (.int p1), .val (.int p2), .val (.int p3), .val (.int p4), .val (.long q5), .second, .val (.int p6), .val (.int (2 : Int32)), .val (.int (own_t0 q5)), .val (.int (own_t1 q5 (8 : Int32))), .unset, .unset, .unset, .unset, .unset, .unset, .unset] [(.long q5)])) _
    refine XS.bipush X0.here hx rfl (hb hby at_33) ?_
    show Steps p.tables e below (s₁.setTop (mkF m 35 #[.val (.int p1), .val (.int p2), .val (.int p3), .val (.int p4), .val (.long q5), .second, .val (.int p6), .val (.int (2 : Int32)), .val (.int (own_t0 q5)), .val (.int (own_t1 q5 (8 : Int32))), .unset, .unset, .unset, .unset, .unset, .unset, .unset] [(.int (16 : Int32)), (.long q5)])) _
    refine XS.lushr X0.here hx rfl (hb hby at_35) rfl ?_
    show Steps p.tables e below (s₁.setTop (mkF m 36 #[.val (.int p1), .val (.int p2), .val (.int p3), .val (.int p4), .val (.long q5), .second, .val (.int p6), .val (.int (2 : Int32)), .val (.int (own_t0 q5)), .val (.int (own_t1 q5 (8 : Int32))), .unset, .unset, .unset, .unset, .unset, .unset, .unset] [(.long ((q5.toUInt64 >>> ((16 : Int32) &&& 0x3f).toInt64.toUInt64).toInt64))])) _
    refine X0.ldc2Long hx hown (mvT hZ (hw _ (List.mem_of_getElem? (i := 1) rfl))) (g := (mkF m 36 #[.val (.int p1), .val (.int p2), .val (.int p3), .val (.int p4), .val (.long q5), .second, .val (.int p6), .val (.int (2 : Int32)), .val (.int (own_t0 q5)), .val (.int (own_t1 q5 (8 : Int32))), .unset, .unset, .unset, .unset, .unset, .unset, .unset] [(.long ((q5.toUInt64 >>> ((16 : Int32) &&& 0x3f).toInt64.toUInt64).toInt64))])) rfl (hb hby at_36) _ ?_
    show Steps p.tables e below (s₁.setTop (mkF m 39 #[.val (.int p1), .val (.int p2), .val (.int p3), .val (.int p4), .val (.long q5), .second, .val (.int p6), .val (.int (2 : Int32)), .val (.int (own_t0 q5)), .val (.int (own_t1 q5 (8 : Int32))), .unset, .unset, .unset, .unset, .unset, .unset, .unset] [(.long (255 : Int64)), (.long ((q5.toUInt64 >>> ((16 : Int32) &&& 0x3f).toInt64.toUInt64).toInt64))])) _
    refine XS.land X0.here hx rfl (hb hby at_39) rfl ?_
    show Steps p.tables e below (s₁.setTop (mkF m 40 #[.val (.int p1), .val (.int p2), .val (.int p3), .val (.int p4), .val (.long q5), .second, .val (.int p6), .val (.int (2 : Int32)), .val (.int (own_t0 q5)), .val (.int (own_t1 q5 (8 : Int32))), .unset, .unset, .unset, .unset, .unset, .unset, .unset] [(.long (((q5.toUInt64 >>> ((16 : Int32) &&& 0x3f).toInt64.toUInt64).toInt64) &&& (255 : Int64)))])) _
    refine XS.l2i X0.here hx rfl (hb hby at_40) rfl ?_
    show Steps p.tables e below (s₁.setTop (mkF m 41 #[.val (.int p1), .val (.int p2), .val (.int p3), .val (.int p4), .val (.long q5), .second, .val (.int p6), .val (.int (2 : Int32)), .val (.int (own_t0 q5)), .val (.int (own_t1 q5 (8 : Int32))), .unset, .unset, .unset, .unset, .unset, .unset, .unset] [(.int ((((q5.toUInt64 >>> ((16 : Int32) &&& 0x3f).toInt64.toUInt64).toInt64) &&& (255 : Int64)).toInt32))])) _
    refine XS.i2c X0.here hx rfl (hb hby at_41) rfl ?_
    show Steps p.tables e below (s₁.setTop (mkF m 42 #[.val (.int p1), .val (.int p2), .val (.int p3), .val (.int p4), .val (.long q5), .second, .val (.int p6), .val (.int (2 : Int32)), .val (.int (own_t0 q5)), .val (.int (own_t1 q5 (8 : Int32))), .unset, .unset, .unset, .unset, .unset, .unset, .unset] [(.int (own_t1 q5 (16 : Int32)))])) _
    refine XS.istore X0.here hx rfl (hb hby at_42) rfl (l' := #[.val (.int p1), .val (.int p2), .val (.int p3), .val (.int p4), .val (.long q5), .second, .val (.int p6), .val (.int (2 : Int32)), .val (.int (own_t0 q5)), .val (.int (own_t1 q5 (8 : Int32))), .val (.int (own_t1 q5 (16 : Int32))), .unset, .unset, .unset, .unset, .unset, .unset]) rfl ?_
    show Steps p.tables e below (s₁.setTop (mkF m 44 #[.val (.int p1), .val (.int p2), .val (.int p3), .val (.int p4), .val (.long q5), .second, .val (.int p6), .val (.int (2 : Int32)), .val (.int (own_t0 q5)), .val (.int (own_t1 q5 (8 : Int32))), .val (.int (own_t1 q5 (16 : Int32))), .unset, .unset, .unset, .unset, .unset, .unset] [])) _
    refine XS.iconst X0.here hx rfl (hb hby at_44) ?_
    show Steps p.tables e below (s₁.setTop (mkF m 45 #[.val (.int p1), .val (.int p2), .val (.int p3), .val (.int p4), .val (.long q5), .second, .val (.int p6), .val (.int (2 : Int32)), .val (.int (own_t0 q5)), .val (.int (own_t1 q5 (8 : Int32))), .val (.int (own_t1 q5 (16 : Int32))), .unset, .unset, .unset, .unset, .unset, .unset] [(.int (1 : Int32))])) _
    refine XS.iconst X0.here hx rfl (hb hby at_45) ?_
    show Steps p.tables e below (s₁.setTop (mkF m 46 #[.val (.int p1), .val (.int p2), .val (.int p3), .val (.int p4), .val (.long q5), .second, .val (.int p6), .val (.int (2 : Int32)), .val (.int (own_t0 q5)), .val (.int (own_t1 q5 (8 : Int32))), .val (.int (own_t1 q5 (16 : Int32))), .unset, .unset, .unset, .unset, .unset, .unset] [(.int (2 : Int32)), (.int (1 : Int32))])) _
    refine XS.iload X0.here hx rfl (hb hby at_46) rfl ?_
    show Steps p.tables e below (s₁.setTop (mkF m 48 #[.val (.int p1), .val (.int p2), .val (.int p3), .val (.int p4), .val (.long q5), .second, .val (.int p6), .val (.int (2 : Int32)), .val (.int (own_t0 q5)), .val (.int (own_t1 q5 (8 : Int32))), .val (.int (own_t1 q5 (16 : Int32))), .unset, .unset, .unset, .unset, .unset, .unset] [(.int p6), (.int (2 : Int32)), (.int (1 : Int32))])) _
    refine XS.iconst X0.here hx rfl (hb hby at_48) ?_
    show Steps p.tables e below (s₁.setTop (mkF m 49 #[.val (.int p1), .val (.int p2), .val (.int p3), .val (.int p4), .val (.long q5), .second, .val (.int p6), .val (.int (2 : Int32)), .val (.int (own_t0 q5)), .val (.int (own_t1 q5 (8 : Int32))), .val (.int (own_t1 q5 (16 : Int32))), .unset, .unset, .unset, .unset, .unset, .unset] [(.int (3 : Int32)), (.int p6), (.int (2 : Int32)), (.int (1 : Int32))])) _
    refine XS.iand X0.here hx rfl (hb hby at_49) rfl ?_
    show Steps p.tables e below (s₁.setTop (mkF m 50 #[.val (.int p1), .val (.int p2), .val (.int p3), .val (.int p4), .val (.long q5), .second, .val (.int p6), .val (.int (2 : Int32)), .val (.int (own_t0 q5)), .val (.int (own_t1 q5 (8 : Int32))), .val (.int (own_t1 q5 (16 : Int32))), .unset, .unset, .unset, .unset, .unset, .unset] [(.int (own_a3 p6)), (.int (2 : Int32)), (.int (1 : Int32))])) _
    rw [hn]
    show Steps p.tables e below (s₁.setTop (mkF m 50 #[.val (.int p1), .val (.int p2), .val (.int p3), .val (.int p4), .val (.long q5), .second, .val (.int p6), .val (.int (2 : Int32)), .val (.int (own_t0 q5)), .val (.int (own_t1 q5 (8 : Int32))), .val (.int (own_t1 q5 (16 : Int32))), .unset, .unset, .unset, .unset, .unset, .unset] [(.int (1 : Int32)), (.int (2 : Int32)), (.int (1 : Int32))])) _
    refine st1 _ ?_
    show Steps p.tables e below (T1.setTop (mkF m 53 #[.val (.int p1), .val (.int p2), .val (.int p3), .val (.int p4), .val (.long q5), .second, .val (.int p6), .val (.int (2 : Int32)), .val (.int (own_t0 q5)), .val (.int (own_t1 q5 (8 : Int32))), .val (.int (own_t1 q5 (16 : Int32))), .unset, .unset, .unset, .unset, .unset, .unset] [(.int (1 : Int32)), (.int (1 : Int32))])) _
    refine XS.iadd X1.here hx rfl (hb hby at_53) rfl ?_
    show Steps p.tables e below (T1.setTop (mkF m 54 #[.val (.int p1), .val (.int p2), .val (.int p3), .val (.int p4), .val (.long q5), .second, .val (.int p6), .val (.int (2 : Int32)), .val (.int (own_t0 q5)), .val (.int (own_t1 q5 (8 : Int32))), .val (.int (own_t1 q5 (16 : Int32))), .unset, .unset, .unset, .unset, .unset, .unset] [(.int (2 : Int32))])) _
    refine XS.istore X1.here hx rfl (hb hby at_54) rfl (l' := #[.val (.int p1), .val (.int p2), .val (.int p3), .val (.int p4), .val (.long q5), .second, .val (.int p6), .val (.int (2 : Int32)), .val (.int (own_t0 q5)), .val (.int (own_t1 q5 (8 : Int32))), .val (.int (own_t1 q5 (16 : Int32))), .val (.int (2 : Int32)), .unset, .unset, .unset, .unset, .unset]) rfl ?_
    show Steps p.tables e below (T1.setTop (mkF m 56 #[.val (.int p1), .val (.int p2), .val (.int p3), .val (.int p4), .val (.long q5), .second, .val (.int p6), .val (.int (2 : Int32)), .val (.int (own_t0 q5)), .val (.int (own_t1 q5 (8 : Int32))), .val (.int (own_t1 q5 (16 : Int32))), .val (.int (2 : Int32)), .unset, .unset, .unset, .unset, .unset] [])) _
    refine XS.iload X1.here hx rfl (hb hby at_56) rfl ?_
    show Steps p.tables e below (T1.setTop (mkF m 58 #[.val (.int p1), .val (.int p2), .val (.int p3), .val (.int p4), .val (.long q5), .second, .val (.int p6), .val (.int (2 : Int32)), .val (.int (own_t0 q5)), .val (.int (own_t1 q5 (8 : Int32))), .val (.int (own_t1 q5 (16 : Int32))), .val (.int (2 : Int32)), .unset, .unset, .unset, .unset, .unset] [(.int (2 : Int32))])) _
    refine XS.iconst X1.here hx rfl (hb hby at_58) ?_
    show Steps p.tables e below (T1.setTop (mkF m 59 #[.val (.int p1), .val (.int p2), .val (.int p3), .val (.int p4), .val (.long q5), .second, .val (.int p6), .val (.int (2 : Int32)), .val (.int (own_t0 q5)), .val (.int (own_t1 q5 (8 : Int32))), .val (.int (own_t1 q5 (16 : Int32))), .val (.int (2 : Int32)), .unset, .unset, .unset, .unset, .unset] [(.int (1 : Int32)), (.int (2 : Int32))])) _
    refine XS.icmpYes X1.here hx rfl (pc0 := 59) (pc' := 75) rfl (hb hby at_59) rfl (feq (by decide : ¬ ((2 : Int32) = (1 : Int32)))).2 (by decide) (by decide) ?_
    show Steps p.tables e below (T1.setTop (mkF m 75 #[.val (.int p1), .val (.int p2), .val (.int p3), .val (.int p4), .val (.long q5), .second, .val (.int p6), .val (.int (2 : Int32)), .val (.int (own_t0 q5)), .val (.int (own_t1 q5 (8 : Int32))), .val (.int (own_t1 q5 (16 : Int32))), .val (.int (2 : Int32)), .unset, .unset, .unset, .unset, .unset] [])) _
    refine XS.iload X1.here hx rfl (hb hby at_75) rfl ?_
    show Steps p.tables e below (T1.setTop (mkF m 77 #[.val (.int p1), .val (.int p2), .val (.int p3), .val (.int p4), .val (.long q5), .second, .val (.int p6), .val (.int (2 : Int32)), .val (.int (own_t0 q5)), .val (.int (own_t1 q5 (8 : Int32))), .val (.int (own_t1 q5 (16 : Int32))), .val (.int (2 : Int32)), .unset, .unset, .unset, .unset, .unset] [(.int (2 : Int32))])) _
    refine XS.iconst X1.here hx rfl (hb hby at_77) ?_
    show Steps p.tables e below (T1.setTop (mkF m 78 #[.val (.int p1), .val (.int p2), .val (.int p3), .val (.int p4), .val (.long q5), .second, .val (.int p6), .val (.int (2 : Int32)), .val (.int (own_t0 q5)), .val (.int (own_t1 q5 (8 : Int32))), .val (.int (own_t1 q5 (16 : Int32))), .val (.int (2 : Int32)), .unset, .unset, .unset, .unset, .unset] [(.int (2 : Int32)), (.int (2 : Int32))])) _
    refine XS.icmpNo X1.here hx rfl (hb hby at_78) rfl (teq (rfl : (2 : Int32) = (2 : Int32))).2 ?_
    show Steps p.tables e below (T1.setTop (mkF m 81 #[.val (.int p1), .val (.int p2), .val (.int p3), .val (.int p4), .val (.long q5), .second, .val (.int p6), .val (.int (2 : Int32)), .val (.int (own_t0 q5)), .val (.int (own_t1 q5 (8 : Int32))), .val (.int (own_t1 q5 (16 : Int32))), .val (.int (2 : Int32)), .unset, .unset, .unset, .unset, .unset] [])) _
    refine XS.iconst X1.here hx rfl (hb hby at_81) ?_
    show Steps p.tables e below (T1.setTop (mkF m 82 #[.val (.int p1), .val (.int p2), .val (.int p3), .val (.int p4), .val (.long q5), .second, .val (.int p6), .val (.int (2 : Int32)), .val (.int (own_t0 q5)), .val (.int (own_t1 q5 (8 : Int32))), .val (.int (own_t1 q5 (16 : Int32))), .val (.int (2 : Int32)), .unset, .unset, .unset, .unset, .unset] [(.int (2 : Int32))])) _
    refine st2 _ ?_
    show Steps p.tables e below (T2.setTop (mkF m 84 #[.val (.int p1), .val (.int p2), .val (.int p3), .val (.int p4), .val (.long q5), .second, .val (.int p6), .val (.int (2 : Int32)), .val (.int (own_t0 q5)), .val (.int (own_t1 q5 (8 : Int32))), .val (.int (own_t1 q5 (16 : Int32))), .val (.int (2 : Int32)), .unset, .unset, .unset, .unset, .unset] [(.ref b2)])) _
    refine XS.dup X2.here hx rfl (hb hby at_84) rfl rfl ?_
    show Steps p.tables e below (T2.setTop (mkF m 85 #[.val (.int p1), .val (.int p2), .val (.int p3), .val (.int p4), .val (.long q5), .second, .val (.int p6), .val (.int (2 : Int32)), .val (.int (own_t0 q5)), .val (.int (own_t1 q5 (8 : Int32))), .val (.int (own_t1 q5 (16 : Int32))), .val (.int (2 : Int32)), .unset, .unset, .unset, .unset, .unset] [(.ref b2), (.ref b2)])) _
    refine XS.iconst X2.here hx rfl (hb hby at_85) ?_
    show Steps p.tables e below (T2.setTop (mkF m 86 #[.val (.int p1), .val (.int p2), .val (.int p3), .val (.int p4), .val (.long q5), .second, .val (.int p6), .val (.int (2 : Int32)), .val (.int (own_t0 q5)), .val (.int (own_t1 q5 (8 : Int32))), .val (.int (own_t1 q5 (16 : Int32))), .val (.int (2 : Int32)), .unset, .unset, .unset, .unset, .unset] [(.int (0 : Int32)), (.ref b2), (.ref b2)])) _
    refine XS.iload X2.here hx rfl (hb hby at_86) rfl ?_
    show Steps p.tables e below (T2.setTop (mkF m 88 #[.val (.int p1), .val (.int p2), .val (.int p3), .val (.int p4), .val (.long q5), .second, .val (.int p6), .val (.int (2 : Int32)), .val (.int (own_t0 q5)), .val (.int (own_t1 q5 (8 : Int32))), .val (.int (own_t1 q5 (16 : Int32))), .val (.int (2 : Int32)), .unset, .unset, .unset, .unset, .unset] [(.int (own_t0 q5)), (.int (0 : Int32)), (.ref b2), (.ref b2)])) _
    refine st6 _ ?_
    show Steps p.tables e below (T6.setTop (mkF m 89 #[.val (.int p1), .val (.int p2), .val (.int p3), .val (.int p4), .val (.long q5), .second, .val (.int p6), .val (.int (2 : Int32)), .val (.int (own_t0 q5)), .val (.int (own_t1 q5 (8 : Int32))), .val (.int (own_t1 q5 (16 : Int32))), .val (.int (2 : Int32)), .unset, .unset, .unset, .unset, .unset] [(.ref b2)])) _
    refine XS.dup X6.here hx rfl (hb hby at_89) rfl rfl ?_
    show Steps p.tables e below (T6.setTop (mkF m 90 #[.val (.int p1), .val (.int p2), .val (.int p3), .val (.int p4), .val (.long q5), .second, .val (.int p6), .val (.int (2 : Int32)), .val (.int (own_t0 q5)), .val (.int (own_t1 q5 (8 : Int32))), .val (.int (own_t1 q5 (16 : Int32))), .val (.int (2 : Int32)), .unset, .unset, .unset, .unset, .unset] [(.ref b2), (.ref b2)])) _
    refine XS.iconst X6.here hx rfl (hb hby at_90) ?_
    show Steps p.tables e below (T6.setTop (mkF m 91 #[.val (.int p1), .val (.int p2), .val (.int p3), .val (.int p4), .val (.long q5), .second, .val (.int p6), .val (.int (2 : Int32)), .val (.int (own_t0 q5)), .val (.int (own_t1 q5 (8 : Int32))), .val (.int (own_t1 q5 (16 : Int32))), .val (.int (2 : Int32)), .unset, .unset, .unset, .unset, .unset] [(.int (1 : Int32)), (.ref b2), (.ref b2)])) _
    refine XS.iload X6.here hx rfl (hb hby at_91) rfl ?_
    show Steps p.tables e below (T6.setTop (mkF m 93 #[.val (.int p1), .val (.int p2), .val (.int p3), .val (.int p4), .val (.long q5), .second, .val (.int p6), .val (.int (2 : Int32)), .val (.int (own_t0 q5)), .val (.int (own_t1 q5 (8 : Int32))), .val (.int (own_t1 q5 (16 : Int32))), .val (.int (2 : Int32)), .unset, .unset, .unset, .unset, .unset] [(.int (own_t1 q5 (8 : Int32))), (.int (1 : Int32)), (.ref b2), (.ref b2)])) _
    refine st11 _ ?_
    show Steps p.tables e below (T11.setTop (mkF m 94 #[.val (.int p1), .val (.int p2), .val (.int p3), .val (.int p4), .val (.long q5), .second, .val (.int p6), .val (.int (2 : Int32)), .val (.int (own_t0 q5)), .val (.int (own_t1 q5 (8 : Int32))), .val (.int (own_t1 q5 (16 : Int32))), .val (.int (2 : Int32)), .unset, .unset, .unset, .unset, .unset] [(.ref b2)])) _
    refine XS.astore X11.here hx rfl (hb hby at_94) rfl rfl (l' := #[.val (.int p1), .val (.int p2), .val (.int p3), .val (.int p4), .val (.long q5), .second, .val (.int p6), .val (.int (2 : Int32)), .val (.int (own_t0 q5)), .val (.int (own_t1 q5 (8 : Int32))), .val (.int (own_t1 q5 (16 : Int32))), .val (.int (2 : Int32)), .val (.ref b2), .unset, .unset, .unset, .unset]) rfl ?_
    show Steps p.tables e below (T11.setTop (mkF m 96 #[.val (.int p1), .val (.int p2), .val (.int p3), .val (.int p4), .val (.long q5), .second, .val (.int p6), .val (.int (2 : Int32)), .val (.int (own_t0 q5)), .val (.int (own_t1 q5 (8 : Int32))), .val (.int (own_t1 q5 (16 : Int32))), .val (.int (2 : Int32)), .val (.ref b2), .unset, .unset, .unset, .unset] [])) _
    refine XS.goto X11.here hx rfl (pc0 := 96) (pc' := 119) rfl (hb hby at_96) (by decide) (by decide) ?_
    show Steps p.tables e below (T11.setTop (mkF m 119 #[.val (.int p1), .val (.int p2), .val (.int p3), .val (.int p4), .val (.long q5), .second, .val (.int p6), .val (.int (2 : Int32)), .val (.int (own_t0 q5)), .val (.int (own_t1 q5 (8 : Int32))), .val (.int (own_t1 q5 (16 : Int32))), .val (.int (2 : Int32)), .val (.ref b2), .unset, .unset, .unset, .unset] [])) _
    refine st14 _ ?_
    show Steps p.tables e below (T14.setTop (mkF m 122 #[.val (.int p1), .val (.int p2), .val (.int p3), .val (.int p4), .val (.long q5), .second, .val (.int p6), .val (.int (2 : Int32)), .val (.int (own_t0 q5)), .val (.int (own_t1 q5 (8 : Int32))), .val (.int (own_t1 q5 (16 : Int32))), .val (.int (2 : Int32)), .val (.ref b2), .unset, .unset, .unset, .unset] [(.ref b14)])) _
    refine XS.dup X14.here hx rfl (hb hby at_122) rfl rfl ?_
    show Steps p.tables e below (T14.setTop (mkF m 123 #[.val (.int p1), .val (.int p2), .val (.int p3), .val (.int p4), .val (.long q5), .second, .val (.int p6), .val (.int (2 : Int32)), .val (.int (own_t0 q5)), .val (.int (own_t1 q5 (8 : Int32))), .val (.int (own_t1 q5 (16 : Int32))), .val (.int (2 : Int32)), .val (.ref b2), .unset, .unset, .unset, .unset] [(.ref b14), (.ref b14)])) _
    refine XS.aload X14.here hx rfl (hb hby at_123) rfl rfl ?_
    show Steps p.tables e below (T14.setTop (mkF m 125 #[.val (.int p1), .val (.int p2), .val (.int p3), .val (.int p4), .val (.long q5), .second, .val (.int p6), .val (.int (2 : Int32)), .val (.int (own_t0 q5)), .val (.int (own_t1 q5 (8 : Int32))), .val (.int (own_t1 q5 (16 : Int32))), .val (.int (2 : Int32)), .val (.ref b2), .unset, .unset, .unset, .unset] [(.ref b2), (.ref b14), (.ref b14)])) _
    refine st26.trans ?_
    show Steps p.tables e below (T26.setTop (mkF m 128 #[.val (.int p1), .val (.int p2), .val (.int p3), .val (.int p4), .val (.long q5), .second, .val (.int p6), .val (.int (2 : Int32)), .val (.int (own_t0 q5)), .val (.int (own_t1 q5 (8 : Int32))), .val (.int (own_t1 q5 (16 : Int32))), .val (.int (2 : Int32)), .val (.ref b2), .unset, .unset, .unset, .unset] [(.ref b14)])) _
    refine XS.astore X26.here hx rfl (hb hby at_128) rfl rfl (l' := #[.val (.int p1), .val (.int p2), .val (.int p3), .val (.int p4), .val (.long q5), .second, .val (.int p6), .val (.int (2 : Int32)), .val (.int (own_t0 q5)), .val (.int (own_t1 q5 (8 : Int32))), .val (.int (own_t1 q5 (16 : Int32))), .val (.int (2 : Int32)), .val (.ref b2), .val (.ref b14), .unset, .unset, .unset]) rfl ?_
    show Steps p.tables e below (T26.setTop (mkF m 130 #[.val (.int p1), .val (.int p2), .val (.int p3), .val (.int p4), .val (.long q5), .second, .val (.int p6), .val (.int (2 : Int32)), .val (.int (own_t0 q5)), .val (.int (own_t1 q5 (8 : Int32))), .val (.int (own_t1 q5 (16 : Int32))), .val (.int (2 : Int32)), .val (.ref b2), .val (.ref b14), .unset, .unset, .unset] [])) _
    refine XS.iload X26.here hx rfl (hb hby at_130) rfl ?_
    show Steps p.tables e below (T26.setTop (mkF m 132 #[.val (.int p1), .val (.int p2), .val (.int p3), .val (.int p4), .val (.long q5), .second, .val (.int p6), .val (.int (2 : Int32)), .val (.int (own_t0 q5)), .val (.int (own_t1 q5 (8 : Int32))), .val (.int (own_t1 q5 (16 : Int32))), .val (.int (2 : Int32)), .val (.ref b2), .val (.ref b14), .unset, .unset, .unset] [(.int (2 : Int32))])) _
    refine XS.ifYes X26.here hx rfl (pc0 := 132) (pc' := 143) rfl (hb hby at_132) rfl ((if0 _ _).trans (feq (by decide : ¬ ((2 : Int32) = (0 : Int32)))).2) (by decide) (by decide) ?_
    show Steps p.tables e below (T26.setTop (mkF m 143 #[.val (.int p1), .val (.int p2), .val (.int p3), .val (.int p4), .val (.long q5), .second, .val (.int p6), .val (.int (2 : Int32)), .val (.int (own_t0 q5)), .val (.int (own_t1 q5 (8 : Int32))), .val (.int (own_t1 q5 (16 : Int32))), .val (.int (2 : Int32)), .val (.ref b2), .val (.ref b14), .unset, .unset, .unset] [])) _
    refine st28 _ ?_
    show Steps p.tables e below (T28.setTop (mkF m 146 #[.val (.int p1), .val (.int p2), .val (.int p3), .val (.int p4), .val (.long q5), .second, .val (.int p6), .val (.int (2 : Int32)), .val (.int (own_t0 q5)), .val (.int (own_t1 q5 (8 : Int32))), .val (.int (own_t1 q5 (16 : Int32))), .val (.int (2 : Int32)), .val (.ref b2), .val (.ref b14), .unset, .unset, .unset] [(.ref b28)])) _
    refine XS.dup X28.here hx rfl (hb hby at_146) rfl rfl ?_
    show Steps p.tables e below (T28.setTop (mkF m 147 #[.val (.int p1), .val (.int p2), .val (.int p3), .val (.int p4), .val (.long q5), .second, .val (.int p6), .val (.int (2 : Int32)), .val (.int (own_t0 q5)), .val (.int (own_t1 q5 (8 : Int32))), .val (.int (own_t1 q5 (16 : Int32))), .val (.int (2 : Int32)), .val (.ref b2), .val (.ref b14), .unset, .unset, .unset] [(.ref b28), (.ref b28)])) _
    refine XS.aload X28.here hx rfl (hb hby at_147) rfl rfl ?_
    show Steps p.tables e below (T28.setTop (mkF m 149 #[.val (.int p1), .val (.int p2), .val (.int p3), .val (.int p4), .val (.long q5), .second, .val (.int p6), .val (.int (2 : Int32)), .val (.int (own_t0 q5)), .val (.int (own_t1 q5 (8 : Int32))), .val (.int (own_t1 q5 (16 : Int32))), .val (.int (2 : Int32)), .val (.ref b2), .val (.ref b14), .unset, .unset, .unset] [(.ref b14), (.ref b28), (.ref b28)])) _
    refine XS.iload X28.here hx rfl (hb hby at_149) rfl ?_
    show Steps p.tables e below (T28.setTop (mkF m 151 #[.val (.int p1), .val (.int p2), .val (.int p3), .val (.int p4), .val (.long q5), .second, .val (.int p6), .val (.int (2 : Int32)), .val (.int (own_t0 q5)), .val (.int (own_t1 q5 (8 : Int32))), .val (.int (own_t1 q5 (16 : Int32))), .val (.int (2 : Int32)), .val (.ref b2), .val (.ref b14), .unset, .unset, .unset] [(.int (2 : Int32)), (.ref b14), (.ref b28), (.ref b28)])) _
    refine XS.iconst X28.here hx rfl (hb hby at_151) ?_
    show Steps p.tables e below (T28.setTop (mkF m 152 #[.val (.int p1), .val (.int p2), .val (.int p3), .val (.int p4), .val (.long q5), .second, .val (.int p6), .val (.int (2 : Int32)), .val (.int (own_t0 q5)), .val (.int (own_t1 q5 (8 : Int32))), .val (.int (own_t1 q5 (16 : Int32))), .val (.int (2 : Int32)), .val (.ref b2), .val (.ref b14), .unset, .unset, .unset] [(.int (1 : Int32)), (.int (2 : Int32)), (.ref b14), (.ref b28), (.ref b28)])) _
    refine XS.icmpYes X28.here hx rfl (pc0 := 152) (pc' := 159) rfl (hb hby at_152) rfl (feq (by decide : ¬ ((2 : Int32) = (1 : Int32)))).2 (by decide) (by decide) ?_
    show Steps p.tables e below (T28.setTop (mkF m 159 #[.val (.int p1), .val (.int p2), .val (.int p3), .val (.int p4), .val (.long q5), .second, .val (.int p6), .val (.int (2 : Int32)), .val (.int (own_t0 q5)), .val (.int (own_t1 q5 (8 : Int32))), .val (.int (own_t1 q5 (16 : Int32))), .val (.int (2 : Int32)), .val (.ref b2), .val (.ref b14), .unset, .unset, .unset] [(.ref b14), (.ref b28), (.ref b28)])) _
    refine XS.iconst X28.here hx rfl (hb hby at_159) ?_
    show Steps p.tables e below (T28.setTop (mkF m 160 #[.val (.int p1), .val (.int p2), .val (.int p3), .val (.int p4), .val (.long q5), .second, .val (.int p6), .val (.int (2 : Int32)), .val (.int (own_t0 q5)), .val (.int (own_t1 q5 (8 : Int32))), .val (.int (own_t1 q5 (16 : Int32))), .val (.int (2 : Int32)), .val (.ref b2), .val (.ref b14), .unset, .unset, .unset] [(.int (0 : Int32)), (.ref b14), (.ref b28), (.ref b28)])) _
    refine st39.trans ?_
    show Steps p.tables e below (T39.setTop (mkF m 163 #[.val (.int p1), .val (.int p2), .val (.int p3), .val (.int p4), .val (.long q5), .second, .val (.int p6), .val (.int (2 : Int32)), .val (.int (own_t0 q5)), .val (.int (own_t1 q5 (8 : Int32))), .val (.int (own_t1 q5 (16 : Int32))), .val (.int (2 : Int32)), .val (.ref b2), .val (.ref b14), .unset, .unset, .unset] [(.ref b28)])) _
    refine st41 _ ?_
    show Steps p.tables e below (T41.setTop (mkF m 166 #[.val (.int p1), .val (.int p2), .val (.int p3), .val (.int p4), .val (.long q5), .second, .val (.int p6), .val (.int (2 : Int32)), .val (.int (own_t0 q5)), .val (.int (own_t1 q5 (8 : Int32))), .val (.int (own_t1 q5 (16 : Int32))), .val (.int (2 : Int32)), .val (.ref b2), .val (.ref b14), .unset, .unset, .unset] [(.ref b1_41)])) _
    refine XS.astore X41.here hx rfl (hb hby at_166) rfl rfl (l' := #[.val (.int p1), .val (.int p2), .val (.int p3), .val (.int p4), .val (.long q5), .second, .val (.int p6), .val (.int (2 : Int32)), .val (.int (own_t0 q5)), .val (.int (own_t1 q5 (8 : Int32))), .val (.int (own_t1 q5 (16 : Int32))), .val (.int (2 : Int32)), .val (.ref b2), .val (.ref b14), .val (.ref b1_41), .unset, .unset]) rfl ?_
    show Steps p.tables e below (T41.setTop (mkF m 168 #[.val (.int p1), .val (.int p2), .val (.int p3), .val (.int p4), .val (.long q5), .second, .val (.int p6), .val (.int (2 : Int32)), .val (.int (own_t0 q5)), .val (.int (own_t1 q5 (8 : Int32))), .val (.int (own_t1 q5 (16 : Int32))), .val (.int (2 : Int32)), .val (.ref b2), .val (.ref b14), .val (.ref b1_41), .unset, .unset] [])) _
    refine st43 _ ?_
    show Steps p.tables e below (T43.setTop (mkF m 171 #[.val (.int p1), .val (.int p2), .val (.int p3), .val (.int p4), .val (.long q5), .second, .val (.int p6), .val (.int (2 : Int32)), .val (.int (own_t0 q5)), .val (.int (own_t1 q5 (8 : Int32))), .val (.int (own_t1 q5 (16 : Int32))), .val (.int (2 : Int32)), .val (.ref b2), .val (.ref b14), .val (.ref b1_41), .unset, .unset] [(.ref b43)])) _
    refine XS.dup X43.here hx rfl (hb hby at_171) rfl rfl ?_
    show Steps p.tables e below (T43.setTop (mkF m 172 #[.val (.int p1), .val (.int p2), .val (.int p3), .val (.int p4), .val (.long q5), .second, .val (.int p6), .val (.int (2 : Int32)), .val (.int (own_t0 q5)), .val (.int (own_t1 q5 (8 : Int32))), .val (.int (own_t1 q5 (16 : Int32))), .val (.int (2 : Int32)), .val (.ref b2), .val (.ref b14), .val (.ref b1_41), .unset, .unset] [(.ref b43), (.ref b43)])) _
    refine XS.iloadN X43.here hx rfl (hb hby at_172) rfl ?_
    show Steps p.tables e below (T43.setTop (mkF m 173 #[.val (.int p1), .val (.int p2), .val (.int p3), .val (.int p4), .val (.long q5), .second, .val (.int p6), .val (.int (2 : Int32)), .val (.int (own_t0 q5)), .val (.int (own_t1 q5 (8 : Int32))), .val (.int (own_t1 q5 (16 : Int32))), .val (.int (2 : Int32)), .val (.ref b2), .val (.ref b14), .val (.ref b1_41), .unset, .unset] [(.int p1), (.ref b43), (.ref b43)])) _
    refine XS.iloadN X43.here hx rfl (hb hby at_173) rfl ?_
    show Steps p.tables e below (T43.setTop (mkF m 174 #[.val (.int p1), .val (.int p2), .val (.int p3), .val (.int p4), .val (.long q5), .second, .val (.int p6), .val (.int (2 : Int32)), .val (.int (own_t0 q5)), .val (.int (own_t1 q5 (8 : Int32))), .val (.int (own_t1 q5 (16 : Int32))), .val (.int (2 : Int32)), .val (.ref b2), .val (.ref b14), .val (.ref b1_41), .unset, .unset] [(.int p2), (.int p1), (.ref b43), (.ref b43)])) _
    refine XS.iloadN X43.here hx rfl (hb hby at_174) rfl ?_
    show Steps p.tables e below (T43.setTop (mkF m 175 #[.val (.int p1), .val (.int p2), .val (.int p3), .val (.int p4), .val (.long q5), .second, .val (.int p6), .val (.int (2 : Int32)), .val (.int (own_t0 q5)), .val (.int (own_t1 q5 (8 : Int32))), .val (.int (own_t1 q5 (16 : Int32))), .val (.int (2 : Int32)), .val (.ref b2), .val (.ref b14), .val (.ref b1_41), .unset, .unset] [(.int p3), (.int p2), (.int p1), (.ref b43), (.ref b43)])) _
    refine XS.aload X43.here hx rfl (hb hby at_175) rfl rfl ?_
    show Steps p.tables e below (T43.setTop (mkF m 177 #[.val (.int p1), .val (.int p2), .val (.int p3), .val (.int p4), .val (.long q5), .second, .val (.int p6), .val (.int (2 : Int32)), .val (.int (own_t0 q5)), .val (.int (own_t1 q5 (8 : Int32))), .val (.int (own_t1 q5 (16 : Int32))), .val (.int (2 : Int32)), .val (.ref b2), .val (.ref b14), .val (.ref b1_41), .unset, .unset] [(.ref b1_41), (.int p3), (.int p2), (.int p1), (.ref b43), (.ref b43)])) _
    refine st50.trans ?_
    show Steps p.tables e below (T50.setTop (mkF m 180 #[.val (.int p1), .val (.int p2), .val (.int p3), .val (.int p4), .val (.long q5), .second, .val (.int p6), .val (.int (2 : Int32)), .val (.int (own_t0 q5)), .val (.int (own_t1 q5 (8 : Int32))), .val (.int (own_t1 q5 (16 : Int32))), .val (.int (2 : Int32)), .val (.ref b2), .val (.ref b14), .val (.ref b1_41), .unset, .unset] [(.ref b43)])) _
    refine XS.astore X50.here hx rfl (hb hby at_180) rfl rfl (l' := #[.val (.int p1), .val (.int p2), .val (.int p3), .val (.int p4), .val (.long q5), .second, .val (.int p6), .val (.int (2 : Int32)), .val (.int (own_t0 q5)), .val (.int (own_t1 q5 (8 : Int32))), .val (.int (own_t1 q5 (16 : Int32))), .val (.int (2 : Int32)), .val (.ref b2), .val (.ref b14), .val (.ref b1_41), .val (.ref b43), .unset]) rfl ?_
    show Steps p.tables e below (T50.setTop (mkF m 182 #[.val (.int p1), .val (.int p2), .val (.int p3), .val (.int p4), .val (.long q5), .second, .val (.int p6), .val (.int (2 : Int32)), .val (.int (own_t0 q5)), .val (.int (own_t1 q5 (8 : Int32))), .val (.int (own_t1 q5 (16 : Int32))), .val (.int (2 : Int32)), .val (.ref b2), .val (.ref b14), .val (.ref b1_41), .val (.ref b43), .unset] [])) _
    refine XS.iload X50.here hx rfl (hb hby at_182) rfl ?_
    show Steps p.tables e below (T50.setTop (mkF m 184 #[.val (.int p1), .val (.int p2), .val (.int p3), .val (.int p4), .val (.long q5), .second, .val (.int p6), .val (.int (2 : Int32)), .val (.int (own_t0 q5)), .val (.int (own_t1 q5 (8 : Int32))), .val (.int (own_t1 q5 (16 : Int32))), .val (.int (2 : Int32)), .val (.ref b2), .val (.ref b14), .val (.ref b1_41), .val (.ref b43), .unset] [(.int (2 : Int32))])) _
    refine XS.iconst X50.here hx rfl (hb hby at_184) ?_
    show Steps p.tables e below (T50.setTop (mkF m 185 #[.val (.int p1), .val (.int p2), .val (.int p3), .val (.int p4), .val (.long q5), .second, .val (.int p6), .val (.int (2 : Int32)), .val (.int (own_t0 q5)), .val (.int (own_t1 q5 (8 : Int32))), .val (.int (own_t1 q5 (16 : Int32))), .val (.int (2 : Int32)), .val (.ref b2), .val (.ref b14), .val (.ref b1_41), .val (.ref b43), .unset] [(.int (1 : Int32)), (.int (2 : Int32))])) _
    refine XS.icmpNo X50.here hx rfl (hb hby at_185) rfl (feq (by decide : ¬ ((2 : Int32) = (1 : Int32)))).1 ?_
    show Steps p.tables e below (T50.setTop (mkF m 188 #[.val (.int p1), .val (.int p2), .val (.int p3), .val (.int p4), .val (.long q5), .second, .val (.int p6), .val (.int (2 : Int32)), .val (.int (own_t0 q5)), .val (.int (own_t1 q5 (8 : Int32))), .val (.int (own_t1 q5 (16 : Int32))), .val (.int (2 : Int32)), .val (.ref b2), .val (.ref b14), .val (.ref b1_41), .val (.ref b43), .unset] [])) _
    refine XS.iconst X50.here hx rfl (hb hby at_188) ?_
    show Steps p.tables e below (T50.setTop (mkF m 189 #[.val (.int p1), .val (.int p2), .val (.int p3), .val (.int p4), .val (.long q5), .second, .val (.int p6), .val (.int (2 : Int32)), .val (.int (own_t0 q5)), .val (.int (own_t1 q5 (8 : Int32))), .val (.int (own_t1 q5 (16 : Int32))), .val (.int (2 : Int32)), .val (.ref b2), .val (.ref b14), .val (.ref b1_41), .val (.ref b43), .unset] [(.int (1 : Int32))])) _
    refine XS.goto X50.here hx rfl (pc0 := 189) (pc' := 193) rfl (hb hby at_189) (by decide) (by decide) ?_
    show Steps p.tables e below (T50.setTop (mkF m 193 #[.val (.int p1), .val (.int p2), .val (.int p3), .val (.int p4), .val (.long q5), .second, .val (.int p6), .val (.int (2 : Int32)), .val (.int (own_t0 q5)), .val (.int (own_t1 q5 (8 : Int32))), .val (.int (own_t1 q5 (16 : Int32))), .val (.int (2 : Int32)), .val (.ref b2), .val (.ref b14), .val (.ref b1_41), .val (.ref b43), .unset] [(.int (1 : Int32))])) _
    refine XS.istore X50.here hx rfl (hb hby at_193) rfl (l' := #[.val (.int p1), .val (.int p2), .val (.int p3), .val (.int p4), .val (.long q5), .second, .val (.int p6), .val (.int (2 : Int32)), .val (.int (own_t0 q5)), .val (.int (own_t1 q5 (8 : Int32))), .val (.int (own_t1 q5 (16 : Int32))), .val (.int (2 : Int32)), .val (.ref b2), .val (.ref b14), .val (.ref b1_41), .val (.ref b43), .val (.int (1 : Int32))]) rfl ?_
    show Steps p.tables e below (T50.setTop (mkF m 195 #[.val (.int p1), .val (.int p2), .val (.int p3), .val (.int p4), .val (.long q5), .second, .val (.int p6), .val (.int (2 : Int32)), .val (.int (own_t0 q5)), .val (.int (own_t1 q5 (8 : Int32))), .val (.int (own_t1 q5 (16 : Int32))), .val (.int (2 : Int32)), .val (.ref b2), .val (.ref b14), .val (.ref b1_41), .val (.ref b43), .val (.int (1 : Int32))] [])) _
    refine XS.aload X50.here hx rfl (hb hby at_195) rfl rfl ?_
    show Steps p.tables e below (T50.setTop (mkF m 197 #[.val (.int p1), .val (.int p2), .val (.int p3), .val (.int p4), .val (.long q5), .second, .val (.int p6), .val (.int (2 : Int32)), .val (.int (own_t0 q5)), .val (.int (own_t1 q5 (8 : Int32))), .val (.int (own_t1 q5 (16 : Int32))), .val (.int (2 : Int32)), .val (.ref b2), .val (.ref b14), .val (.ref b1_41), .val (.ref b43), .val (.int (1 : Int32))] [(.ref b43)])) _
    refine st56.trans ?_
    show Steps p.tables e below (T56.setTop (mkF m 200 #[.val (.int p1), .val (.int p2), .val (.int p3), .val (.int p4), .val (.long q5), .second, .val (.int p6), .val (.int (2 : Int32)), .val (.int (own_t0 q5)), .val (.int (own_t1 q5 (8 : Int32))), .val (.int (own_t1 q5 (16 : Int32))), .val (.int (2 : Int32)), .val (.ref b2), .val (.ref b14), .val (.ref b1_41), .val (.ref b43), .val (.int (1 : Int32))] [(.int (1 : Int32))])) _
    refine XS.iload X56.here hx rfl (hb hby at_200) rfl ?_
    show Steps p.tables e below (T56.setTop (mkF m 202 #[.val (.int p1), .val (.int p2), .val (.int p3), .val (.int p4), .val (.long q5), .second, .val (.int p6), .val (.int (2 : Int32)), .val (.int (own_t0 q5)), .val (.int (own_t1 q5 (8 : Int32))), .val (.int (own_t1 q5 (16 : Int32))), .val (.int (2 : Int32)), .val (.ref b2), .val (.ref b14), .val (.ref b1_41), .val (.ref b43), .val (.int (1 : Int32))] [(.int (1 : Int32)), (.int (1 : Int32))])) _
    refine XS.icmpNo X56.here hx rfl (hb hby at_202) rfl (teq (rfl : (1 : Int32) = (1 : Int32))).2 ?_
    show Steps p.tables e below (T56.setTop (mkF m 205 #[.val (.int p1), .val (.int p2), .val (.int p3), .val (.int p4), .val (.long q5), .second, .val (.int p6), .val (.int (2 : Int32)), .val (.int (own_t0 q5)), .val (.int (own_t1 q5 (8 : Int32))), .val (.int (own_t1 q5 (16 : Int32))), .val (.int (2 : Int32)), .val (.ref b2), .val (.ref b14), .val (.ref b1_41), .val (.ref b43), .val (.int (1 : Int32))] [])) _
    refine XS.iconst X56.here hx rfl (hb hby at_205) ?_
    show Steps p.tables e below (T56.setTop (mkF m 206 #[.val (.int p1), .val (.int p2), .val (.int p3), .val (.int p4), .val (.long q5), .second, .val (.int p6), .val (.int (2 : Int32)), .val (.int (own_t0 q5)), .val (.int (own_t1 q5 (8 : Int32))), .val (.int (own_t1 q5 (16 : Int32))), .val (.int (2 : Int32)), .val (.ref b2), .val (.ref b14), .val (.ref b1_41), .val (.ref b43), .val (.int (1 : Int32))] [(.int (1 : Int32))])) _
    refine XS.goto X56.here hx rfl (pc0 := 206) (pc' := 210) rfl (hb hby at_206) (by decide) (by decide) ?_
    show Steps p.tables e below (T56.setTop (mkF m 210 #[.val (.int p1), .val (.int p2), .val (.int p3), .val (.int p4), .val (.long q5), .second, .val (.int p6), .val (.int (2 : Int32)), .val (.int (own_t0 q5)), .val (.int (own_t1 q5 (8 : Int32))), .val (.int (own_t1 q5 (16 : Int32))), .val (.int (2 : Int32)), .val (.ref b2), .val (.ref b14), .val (.ref b1_41), .val (.ref b43), .val (.int (1 : Int32))] [(.int (1 : Int32))])) _
    exact retN X56 hx (t := .boolean) Bd.returns (by simp) (hb hby at_210) hr
  · show own_Qlaw h0 n0 _ T56.heap _
    exact ⟨rfl, N56⟩
theorem own_eflaw30 (m : MethodId) (p1 : Int32) (p2 : Int32) (p3 : Int32) (p4 : Int32) (q5 : Int64) (p6 : Int32) : entryFrame m #[(.int p1), (.int p2), (.int p3), (.int p4), (.long q5), (.int p6)] maxLocals = mkF m 0 #[.val (.int p1), .val (.int p2), .val (.int p3), .val (.int p4), .val (.long q5), .second, .val (.int p6), .unset, .unset, .unset, .unset, .unset, .unset, .unset, .unset, .unset, .unset] [] := by first | (simp [entryFrame, mkF, argsToLocals, Value.category, maxLocals]; done) | rfl
set_option maxRecDepth 65536 in
set_option maxHeartbeats 40000000 in
theorem own_law30 (l : Launch) (Z : State) (a0 : Array Value) (hw : ∀ d ∈ tables_1, d.before a0 Z = true) (ws : List Jvm.Cond) (G1 : Int32) (k_EMPTY : Addr) (gl : own_Glob Z G1 k_EMPTY) (p1 : Int32) (p2 : Int32) (p3 : Int32) (p4 : Int32) (q5 : Int64) (p6 : Int32) (h0 : Heap) (n0 : Nat) (Z0 : n0 ≤ h0.size) (X00 : Old Z n0 h0) (hk : own_kd p4 = 0) (hn : ¬ ((own_a3 p6) < (2 : Int32))) :
    MetFree l x (head1 (Jvm.Cond.code x code maxLocals ret :: ws) room_1) (fun a U => a = #[(.int p1), (.int p2), (.int p3), (.int p4), (.long q5), (.int p6)] ∧ Z.Warmed39 U.vm ∧ U.heap = h0) (fun _ _ _ _ _ => True) (fun _ U o U' => ∃ v L, o = .returned v ∧ own_Qlaw h0 n0 v U'.heap L ∧ ReturnedEndW U o U' L room_1.cells room_1.slots) := by
  refine MetFree.of_bodySF (plainFor_of_name own_pn15) hisR ?_
  intro p e s m args below meth c s₁ Bd hml0 hP hK
  obtain ⟨rfl, hZ, hh⟩ := hP
  obtain ⟨O_CS, P_CS, O_EMPTY, E_EMPTY, F_EMPTY⟩ := id gl
  have hx := Bd.exec
  have hby := Bd.bytes
  have hml : c.maxLocals = 17 := hml0
  have hown : s.vm.findClass "com/example/leftmost/leftmost/tree/NodeIsLeafPinLaw" = some m.cls := findClass_of_methodNamed Bd.named
  have hnm := (name_of_methodNamed Bd.named Bd.method).1
  have X0 : Stand p l e room_1 s m #[(.int p1), (.int p2), (.int p3), (.int p4), (.long q5), (.int p6)] below meth c s₁ [] 0 0 := Stand.of_body Bd
  have e0 : s₁.heap = h0 := by rw [← hh, Bd.state]; rfl
  have N0 := Fr.nil n0
  have pre0 : ∀ t, Steps p.tables e below (s₁.setTop (mkF m 0 #[.val (.int p1), .val (.int p2), .val (.int p3), .val (.int p4), .val (.long q5), .second, .val (.int p6), .unset, .unset, .unset, .unset, .unset, .unset, .unset, .unset, .unset, .unset] [])) t → Steps p.tables e below (s₁.setTop (entryFrame m #[(.int p1), (.int p2), (.int p3), (.int p4), (.long q5), (.int p6)] maxLocals)) t := fun t k => castTop (own_eflaw30 m p1 p2 p3 p4 q5 p6) k
  obtain ⟨_, _, ⟨T1, L1, k1, n1⟩, -, X1, ⟨Lc1, hQ1, l1, y1, z1⟩, st1⟩ := Jvm.LawKit.callS X0 hx (y := (⟨"java/lang/Math", "min", "(II)I"⟩ : MethodName)) hown (mvT hZ (hw _ (List.mem_of_getElem? (i := 2) rfl))) (mvT hZ (hw _ (List.mem_of_getElem? (i := 3) rfl))) (mvT hZ (hw _ (List.mem_of_getElem? (i := 4) rfl))) (mvT hZ (hw _ (List.mem_of_getElem? (i := 5) rfl))) (by decide) (backOf (W := 1) (own_rm_minL l Z a0 hw [] G1 k_EMPTY gl (2 : Int32) (own_a3 p6) h0 n0 Z0 (hn : ¬ ((own_a3 p6) < (2 : Int32)))) hZ (hw _ (List.mem_of_getElem? (i := 5) rfl)) (hw _ (List.mem_of_getElem? (i := 4) rfl)) (by decide) (by decide)) (g := (mkF m 50 #[.val (.int p1), .val (.int p2), .val (.int p3), .val (.int p4), .val (.long q5), .second, .val (.int p6), .val (.int (0 : Int32)), .val (.int (own_t0 q5)), .val (.int (own_t1 q5 (8 : Int32))), .val (.int (own_t1 q5 (16 : Int32))), .unset, .unset, .unset, .unset, .unset, .unset] [(.int (own_a3 p6)), (.int (2 : Int32)), (.int (1 : Int32))])) rfl (by rw [hml]; rfl) (argsL := [(.int (2 : Int32)), (.int (own_a3 p6))]) (rest := [(.int (1 : Int32))]) (lenOf own_pd11 rfl) rfl (by show 2 * 0 + _ ≤ _; exact Nat.le_of_eq rfl) (hb hby at_50) (fun _ _ => ⟨rfl, e0, (by decide : 0 + 0 ≤ _), (by decide : 0 + 0 ≤ _)⟩)
  dsimp only [Pt.U, Pt.locs, Pt.cells, Pt.slots] at X1 l1 y1 z1 st1 hQ1
  subst y1 z1
  obtain ⟨rfl, Nq1, e1⟩ := hQ1
  have N1 : Fr n0 L1 := by rw [l1]; exact Fr.app N0 Nq1
  obtain ⟨T2, h2, k2, X2, e2, E2, A2, st2⟩ := newP X1 hx hZ (hw _ (List.mem_of_getElem? (i := 6) rfl)) e1 (g := (mkF m 100 #[.val (.int p1), .val (.int p2), .val (.int p3), .val (.int p4), .val (.long q5), .second, .val (.int p6), .val (.int (0 : Int32)), .val (.int (own_t0 q5)), .val (.int (own_t1 q5 (8 : Int32))), .val (.int (own_t1 q5 (16 : Int32))), .val (.int (3 : Int32)), .unset, .unset, .unset, .unset, .unset] [(.int (3 : Int32))])) rfl (hb hby at_100) rfl (by decide) (cap := 3) (by decide) (by decide) (by decide) (by decide)
  obtain ⟨b2, g2⟩ : ∃ z, z = h0.size := ⟨_, rfl⟩
  rw [← g2] at A2 st2
  have Kp3 : Keep h0 h2 [] := (Keep.refl h0 []).ext E2
  have Vh4 : Arv Z h2 b2 k2 .char (3 : Int32) [(.int (0 : Int32)), (.int (0 : Int32)), (.int (0 : Int32))] (.int (0 : Int32)) := (Arv.new A2 (by decide)).pad (pad_rep [] (.int (0 : Int32)) 3)
  obtain ⟨cl5, Ar5, qc5, Sz5, Ng5, Hs5, Gs5⟩ := id Vh4
  have hin5 : ¬ ((0 : Int32) < 0 ∨ cl5.slots.size ≤ ((0 : Int32)).toNatClampNeg) := inb_of Sz5 ⟨(by decide), (by decide)⟩
  obtain ⟨T6, h6, X6, e6, W6, st6⟩ := stC X2 hx hZ e2 Ar5 (j := (0 : Int32)) hin5 (g := (mkF m 106 #[.val (.int p1), .val (.int p2), .val (.int p3), .val (.int p4), .val (.long q5), .second, .val (.int p6), .val (.int (0 : Int32)), .val (.int (own_t0 q5)), .val (.int (own_t1 q5 (8 : Int32))), .val (.int (own_t1 q5 (16 : Int32))), .val (.int (3 : Int32)), .unset, .unset, .unset, .unset, .unset] [(.int (own_t0 q5)), (.int (0 : Int32)), (.ref b2), (.ref b2)])) rfl rfl (hb hby at_106)
  have Kp7 : Keep h0 h6 [] := Kp3.wr W6 (Or.inr (Nat.le_trans (Keep.refl h0 []).1 (Nat.le_of_eq g2.symm)))
  have gh8 : n0 ≤ b2 := Nat.le_trans Z0 (Nat.le_of_eq g2.symm)
  obtain ⟨Lp6, X6, N6⟩ := own_pack X6 (Fr.snoc X6 N1 gh8)
  have Vh9 : Arv Z h6 b2 k2 .char (3 : Int32) [(.int (own_n0 q5)), (.int (0 : Int32)), (.int (0 : Int32))] (.int (0 : Int32)) := (Arv.set Ar5 qc5 Sz5 Ng5 Hs5 Gs5 (fits_nar_char _) W6 0 rfl (Nat.le_of_ble_eq_true rfl))
  obtain ⟨cl10, Ar10, qc10, Sz10, Ng10, Hs10, Gs10⟩ := id Vh9
  have hin10 : ¬ ((1 : Int32) < 0 ∨ cl10.slots.size ≤ ((1 : Int32)).toNatClampNeg) := inb_of Sz10 ⟨(by decide), (by decide)⟩
  obtain ⟨T11, h11, X11, e11, W11, st11⟩ := stC X6 hx hZ e6 Ar10 (j := (1 : Int32)) hin10 (g := (mkF m 111 #[.val (.int p1), .val (.int p2), .val (.int p3), .val (.int p4), .val (.long q5), .second, .val (.int p6), .val (.int (0 : Int32)), .val (.int (own_t0 q5)), .val (.int (own_t1 q5 (8 : Int32))), .val (.int (own_t1 q5 (16 : Int32))), .val (.int (3 : Int32)), .unset, .unset, .unset, .unset, .unset] [(.int (own_t1 q5 (8 : Int32))), (.int (1 : Int32)), (.ref b2), (.ref b2)])) rfl rfl (hb hby at_111)
  have Kp12 : Keep h0 h11 [] := Kp7.wr W11 (Or.inr (Nat.le_trans (Keep.refl h0 []).1 (Nat.le_of_eq g2.symm)))
  obtain ⟨Lp11, X11, N11⟩ := own_pack X11 (Fr.snoc X11 N6 gh8)
  have Vh13 : Arv Z h11 b2 k2 .char (3 : Int32) [(.int (own_n0 q5)), (.int (own_n1 q5 (8 : Int32))), (.int (0 : Int32))] (.int (0 : Int32)) := (Arv.set Ar10 qc10 Sz10 Ng10 Hs10 Gs10 (fits_nar_char _) W11 1 rfl (Nat.le_of_ble_eq_true rfl))
  obtain ⟨cl14, Ar14, qc14, Sz14, Ng14, Hs14, Gs14⟩ := id Vh13
  have hin14 : ¬ ((2 : Int32) < 0 ∨ cl14.slots.size ≤ ((2 : Int32)).toNatClampNeg) := inb_of Sz14 ⟨(by decide), (by decide)⟩
  obtain ⟨T15, h15, X15, e15, W15, st15⟩ := stC X11 hx hZ e11 Ar14 (j := (2 : Int32)) hin14 (g := (mkF m 116 #[.val (.int p1), .val (.int p2), .val (.int p3), .val (.int p4), .val (.long q5), .second, .val (.int p6), .val (.int (0 : Int32)), .val (.int (own_t0 q5)), .val (.int (own_t1 q5 (8 : Int32))), .val (.int (own_t1 q5 (16 : Int32))), .val (.int (3 : Int32)), .unset, .unset, .unset, .unset, .unset] [(.int (own_t1 q5 (16 : Int32))), (.int (2 : Int32)), (.ref b2), (.ref b2)])) rfl rfl (hb hby at_116)
  have Kp16 : Keep h0 h15 [] := Kp12.wr W15 (Or.inr (Nat.le_trans (Keep.refl h0 []).1 (Nat.le_of_eq g2.symm)))
  obtain ⟨Lp15, X15, N15⟩ := own_pack X15 (Fr.snoc X15 N11 gh8)
  have Vh17 : Arv Z h15 b2 k2 .char (3 : Int32) [(.int (own_n0 q5)), (.int (own_n1 q5 (8 : Int32))), (.int (own_n1 q5 (16 : Int32)))] (.int (0 : Int32)) := (Arv.set Ar14 qc14 Sz14 Ng14 Hs14 Gs14 (fits_nar_char _) W15 2 rfl (Nat.le_of_ble_eq_true rfl))
  obtain ⟨T18, h18, X18, e18, E18, A18, D18, U18, st18⟩ := newO X15 hx hZ hown (hw _ (List.mem_of_getElem? (i := 7) rfl)) (hw _ (List.mem_of_getElem? (i := 8) rfl)) (hw _ (List.mem_of_getElem? (i := 9) rfl)) e15 (g := (mkF m 119 #[.val (.int p1), .val (.int p2), .val (.int p3), .val (.int p4), .val (.long q5), .second, .val (.int p6), .val (.int (0 : Int32)), .val (.int (own_t0 q5)), .val (.int (own_t1 q5 (8 : Int32))), .val (.int (own_t1 q5 (16 : Int32))), .val (.int (3 : Int32)), .val (.ref b2), .unset, .unset, .unset, .unset] [])) rfl (hb hby at_119) (by decide) (by decide)
  obtain ⟨b18, g18⟩ : ∃ z, z = h15.size := ⟨_, rfl⟩
  rw [← g18] at A18 D18 U18 st18
  have Kp19 : Keep h0 h18 [] := Kp16.ext E18
  have Fh20 : Fld Z h18 b18 "java/lang/String" "value" "[B" .null := (D18 (Or.inr (hw _ (List.mem_of_getElem? (i := 35) rfl))) (ty := (.array .byte)) (by decide))
  have Fh21 : Fld Z h18 b18 "java/lang/String" "coder" "B" (.int (0 : Int32)) := (D18 (Or.inr (hw _ (List.mem_of_getElem? (i := 33) rfl))) (ty := .byte) (by decide))
  have Vh22 : Arv Z h18 b2 k2 .char (3 : Int32) [(.int (own_n0 q5)), (.int (own_n1 q5 (8 : Int32))), (.int (own_n1 q5 (16 : Int32)))] (.int (0 : Int32)) := (Vh17.ext E18)
  have hph23 : ∀ c ∈ ([(own_n0 q5), (own_n1 q5 (8 : Int32)), (own_n1 q5 (16 : Int32))] : List Int32), ¬ c < 0 ∧ ¬ (255 : Int32) < c := (own_cS (own_rng_n0 q5) (own_cS (own_rng_n1 q5 (8 : Int32)) (own_cS (own_rng_n1 q5 (16 : Int32)) own_c0)))
  have hws_words : ∀ d ∈ StrChars.Road.words, d.before a0 Z = true := fun d hd => hw d (own_hws_words d hd)
  have Zh24 : n0 ≤ h18.size := (Nat.le_trans Z0 Kp19.1)
  have gh25 : n0 ≤ b18 := Nat.le_trans (Nat.le_trans Z0 Kp16.1) (Nat.le_of_eq g18.symm)
  have Old26 : Old Z n0 h2 := X00.ext E2
  have Old27 : Old Z n0 h6 := Old26.wr W6 gh8
  have Old28 : Old Z n0 h11 := Old27.wr W11 gh8
  have Old29 : Old Z n0 h15 := Old28.wr W15 gh8
  have Old30 : Old Z n0 h18 := Old29.ext E18
  obtain ⟨_, _, ⟨T31, L31, k31, n31⟩, -, X31, ⟨Lc31, hQ31, l31, y31, z31⟩, st31⟩ := X18.specialBack hx (y := (⟨"java/lang/String", "<init>", "([C)V"⟩ : MethodName)) rfl hown (mvT hZ (hw _ (List.mem_of_getElem? (i := 10) rfl))) (mvT hZ (hw _ (List.mem_of_getElem? (i := 11) rfl))) (mvT hZ (hw _ (List.mem_of_getElem? (i := 12) rfl))) (by decide) (StrChars.Road.backV (W := 1) hZ hws_words (kI := 4) (hw _ (List.mem_of_getElem? (i := 8) rfl)) (cs := ([(own_n0 q5), (own_n1 q5 (8 : Int32)), (own_n1 q5 (16 : Int32))] : List Int32)) (bs := ([(own_n0 q5), (own_n1 q5 (8 : Int32)), (own_n1 q5 (16 : Int32))] : List Int32).map (fun c => c.toInt8.toInt32)) (n := 3) gh25 Zh24 A18 Fh20 Fh21 Vh22 (O_CS.ext Old30.2) P_CS rfl rfl (by decide) (by decide) hph23 rfl (by decide) (by decide)) (g := (mkF m 125 #[.val (.int p1), .val (.int p2), .val (.int p3), .val (.int p4), .val (.long q5), .second, .val (.int p6), .val (.int (0 : Int32)), .val (.int (own_t0 q5)), .val (.int (own_t1 q5 (8 : Int32))), .val (.int (own_t1 q5 (16 : Int32))), .val (.int (3 : Int32)), .val (.ref b2), .unset, .unset, .unset, .unset] [(.ref b2), (.ref b18), (.ref b18)])) rfl (by rw [hml]; rfl) (Steps.refl _) (a := b18) (argsL := [(.ref b2)]) (rest := [(.ref b18)]) (lenOf own_pd12 rfl) rfl (by show 2 * 0 + _ ≤ _; exact Nat.le_of_eq rfl) (hb hby at_125) (fun _ _ => ⟨rfl, e18, (by decide : 2 + 1 ≤ _), (by decide : 7 + 3 ≤ _)⟩)
  dsimp only [Pt.U, Pt.locs, Pt.cells, Pt.slots] at X31 l31 y31 z31 st31 hQ31
  subst y31 z31
  obtain ⟨rfl, Nq31, Kq31, Eq31, Cq31, t31, kb31, gt31, szt31, nt31, Vq31, Bq31⟩ := hQ31
  have N31 : Fr n0 L31 := by rw [l31]; exact Fr.app N15 Nq31
  have Kp32 : Keep h0 T31.heap [] := Kp19.trans Kq31 (allS (Or.inr (Nat.le_trans Kp16.1 (Nat.le_of_eq g18.symm))) all0)
  have Old33 : Old Z n0 T31.heap := Old30.keep Kq31 (allS gh25 all0)
  obtain ⟨_, _, ⟨T34, L34, k34, n34⟩, -, X34, ⟨Lc34, hQ34, l34, y34, z34⟩, st34⟩ := Jvm.LawKit.callS X31 hx (y := (⟨"java/util/Optional", "empty", "()Ljava/util/Optional;"⟩ : MethodName)) hown (mvT hZ (hw _ (List.mem_of_getElem? (i := 117) rfl))) (mvT hZ (hw _ (List.mem_of_getElem? (i := 118) rfl))) (mvT hZ (hw _ (List.mem_of_getElem? (i := 66) rfl))) (mvT hZ (hw _ (List.mem_of_getElem? (i := 119) rfl))) (by decide) (backOf (W := 0) (own_rm_empty l Z a0 hw [] G1 k_EMPTY gl  T31.heap n0 (Nat.le_trans Z0 Kp32.1) Old33 ) hZ (hw _ (List.mem_of_getElem? (i := 119) rfl)) (hw _ (List.mem_of_getElem? (i := 66) rfl)) (by decide) (by decide)) (g := (mkF m 135 #[.val (.int p1), .val (.int p2), .val (.int p3), .val (.int p4), .val (.long q5), .second, .val (.int p6), .val (.int (0 : Int32)), .val (.int (own_t0 q5)), .val (.int (own_t1 q5 (8 : Int32))), .val (.int (own_t1 q5 (16 : Int32))), .val (.int (3 : Int32)), .val (.ref b2), .val (.ref b18), .unset, .unset, .unset] [])) rfl (by rw [hml]; rfl) (argsL := []) (rest := []) (lenOf own_pd13 rfl) rfl (by show 2 * 0 + _ ≤ _; exact Nat.le_of_eq rfl) (hb hby at_135) (fun _ _ => ⟨rfl, rfl, (by decide : 3 + 0 ≤ _), (by decide : 10 + 0 ≤ _)⟩)
  dsimp only [Pt.U, Pt.locs, Pt.cells, Pt.slots] at X34 l34 y34 z34 st34 hQ34
  subst y34 z34
  obtain ⟨rfl, Nq34, e34⟩ := hQ34
  have N34 : Fr n0 L34 := by rw [l34]; exact Fr.app N31 Nq34
  obtain ⟨T35, h35, X35, e35, E35, A35, D35, U35, st35⟩ := newO X34 hx hZ hown (hw _ (List.mem_of_getElem? (i := 80) rfl)) (hw _ (List.mem_of_getElem? (i := 81) rfl)) (hw _ (List.mem_of_getElem? (i := 82) rfl)) e34 (g := (mkF m 168 #[.val (.int p1), .val (.int p2), .val (.int p3), .val (.int p4), .val (.long q5), .second, .val (.int p6), .val (.int (0 : Int32)), .val (.int (own_t0 q5)), .val (.int (own_t1 q5 (8 : Int32))), .val (.int (own_t1 q5 (16 : Int32))), .val (.int (3 : Int32)), .val (.ref b2), .val (.ref b18), .val (.ref k_EMPTY), .unset, .unset] [])) rfl (hb hby at_168) (by decide) (by decide)
  obtain ⟨b35, g35⟩ : ∃ z, z = T31.heap.size := ⟨_, rfl⟩
  rw [← g35] at A35 D35 U35 st35
  have Kp36 : Keep h0 h35 [] := Kp32.ext E35
  have Fh37 : Fld Z h35 b35 "com/example/leftmost/leftmost/tree/ParseTree$Node" "index" "I" (.int (0 : Int32)) := (D35 (Or.inr (hw _ (List.mem_of_getElem? (i := 88) rfl))) (ty := .int) (by decide))
  have gh38 : n0 ≤ b35 := Nat.le_trans (Nat.le_trans Z0 Kp32.1) (Nat.le_of_eq g35.symm)
  have Fh39 : Fld Z h35 b35 "com/example/leftmost/leftmost/tree/ParseTree$Node" "parent" "I" (.int (0 : Int32)) := (D35 (Or.inr (hw _ (List.mem_of_getElem? (i := 90) rfl))) (ty := .int) (by decide))
  have Fh40 : Fld Z h35 b35 "com/example/leftmost/leftmost/tree/ParseTree$Node" "depth" "I" (.int (0 : Int32)) := (D35 (Or.inr (hw _ (List.mem_of_getElem? (i := 92) rfl))) (ty := .int) (by decide))
  have Fh41 : Fld Z h35 b35 "com/example/leftmost/leftmost/tree/ParseTree$Node" "symbol" "Ljava/util/Optional;" .null := (D35 (Or.inr (hw _ (List.mem_of_getElem? (i := 94) rfl))) (ty := (.object "java/util/Optional")) (by decide))
  obtain ⟨_, _, ⟨T42, L42, k42, n42⟩, -, X42, ⟨Lc42, hQ42, l42, y42, z42⟩, st42⟩ := X35.specialBack hx (y := (⟨"com/example/leftmost/leftmost/tree/ParseTree$Node", "<init>", "(IIILjava/util/Optional;)V"⟩ : MethodName)) rfl hown (mvT hZ (hw _ (List.mem_of_getElem? (i := 83) rfl))) (mvT hZ (hw _ (List.mem_of_getElem? (i := 84) rfl))) (mvT hZ (hw _ (List.mem_of_getElem? (i := 85) rfl))) (by decide) (backOf (W := 1) (own_rm_node l Z a0 hw [] G1 k_EMPTY gl b35 p1 p2 p3 k_EMPTY ((.int (0 : Int32))) ((.int (0 : Int32))) ((.int (0 : Int32))) (.null) h35 n0 (Nat.le_trans Z0 Kp36.1) A35 Fh37 gh38 Fh39 Fh40 Fh41) hZ (hw _ (List.mem_of_getElem? (i := 85) rfl)) (hw _ (List.mem_of_getElem? (i := 82) rfl)) (by decide) (by decide)) (g := (mkF m 177 #[.val (.int p1), .val (.int p2), .val (.int p3), .val (.int p4), .val (.long q5), .second, .val (.int p6), .val (.int (0 : Int32)), .val (.int (own_t0 q5)), .val (.int (own_t1 q5 (8 : Int32))), .val (.int (own_t1 q5 (16 : Int32))), .val (.int (3 : Int32)), .val (.ref b2), .val (.ref b18), .val (.ref k_EMPTY), .unset, .unset] [(.ref k_EMPTY), (.int p3), (.int p2), (.int p1), (.ref b35), (.ref b35)])) rfl (by rw [hml]; rfl) (Steps.refl _) (a := b35) (argsL := [(.int p1), (.int p2), (.int p3), (.ref k_EMPTY)]) (rest := [(.ref b35)]) (lenOf own_pd14 rfl) rfl (by show 2 * 0 + _ ≤ _; exact Nat.le_of_eq rfl) (hb hby at_177) (fun _ _ => ⟨rfl, e35, (by decide : 4 + 0 ≤ _), (by decide : 14 + 0 ≤ _)⟩)
  dsimp only [Pt.U, Pt.locs, Pt.cells, Pt.slots] at X42 l42 y42 z42 st42 hQ42
  subst y42 z42
  obtain ⟨rfl, Nq42, Kq42, f42_0, f42_1, f42_2, f42_3, f42_4⟩ := hQ42
  have N42 : Fr n0 L42 := by rw [l42]; exact Fr.app N34 Nq42
  have Kp43 : Keep h0 T42.heap [] := Kp36.trans Kq42 (allS (Or.inr (Nat.le_trans Kp32.1 (Nat.le_of_eq g35.symm))) all0)
  have Old44 : Old Z n0 h35 := Old33.ext E35
  have Old45 : Old Z n0 T42.heap := Old44.keep Kq42 (allS gh38 all0)
  obtain ⟨cq46, kq46, q46a, q46b, q46c⟩ := isOf hZ rfl f42_0
  obtain ⟨_, _, ⟨T46, L46, k46, n46⟩, -, X46, ⟨Lc46, hQ46, l46, y46, z46⟩, st46⟩ := X42.virtualBack hx (y := (⟨"com/example/leftmost/leftmost/tree/ParseTree$Node", "isLeaf", "()Z"⟩ : MethodName)) (z := (⟨"com/example/leftmost/leftmost/tree/ParseTree$Node", "isLeaf", "()Z"⟩ : MethodName)) hown (mvT hZ (hw _ (List.mem_of_getElem? (i := 95) rfl))) (mvT hZ (hw _ (List.mem_of_getElem? (i := 96) rfl))) (notFace_of_selects (args := #[]) (mvT hZ (hw _ (List.mem_of_getElem? (i := 98) rfl)))) (mvT hZ (hw _ (List.mem_of_getElem? (i := 98) rfl))) (mvT hZ (hw _ (List.mem_of_getElem? (i := 97) rfl))) (by decide) (backOf (W := 0) (own_rm_leafE l Z a0 hw [] G1 k_EMPTY gl b35 T42.heap n0 (Nat.le_trans Z0 Kp43.1) Old45 f42_4) hZ (hw _ (List.mem_of_getElem? (i := 99) rfl)) (hw _ (List.mem_of_getElem? (i := 82) rfl)) (by decide) (by decide)) q46a q46c (g := (mkF m 197 #[.val (.int p1), .val (.int p2), .val (.int p3), .val (.int p4), .val (.long q5), .second, .val (.int p6), .val (.int (0 : Int32)), .val (.int (own_t0 q5)), .val (.int (own_t1 q5 (8 : Int32))), .val (.int (own_t1 q5 (16 : Int32))), .val (.int (3 : Int32)), .val (.ref b2), .val (.ref b18), .val (.ref k_EMPTY), .val (.ref b35), .val (.int (1 : Int32))] [(.ref b35)])) rfl (by rw [hml]; rfl) (Steps.refl _) (argsL := []) (rest := []) (lenOf own_pd7 rfl) rfl (by show 2 * 0 + _ ≤ _; exact Nat.le_of_eq rfl) (hb hby at_197) (fun _ _ => ⟨rfl, rfl, (by decide : 4 + 0 ≤ _), (by decide : 14 + 0 ≤ _)⟩)
  dsimp only [Pt.U, Pt.locs, Pt.cells, Pt.slots] at X46 l46 y46 z46 st46 hQ46
  subst y46 z46
  obtain ⟨rfl, Nq46, e46⟩ := hQ46
  have N46 : Fr n0 L46 := by rw [l46]; exact Fr.app N42 Nq46
  obtain ⟨fs, hr, hrun, hended, hW, hsame⟩ := X46.leave (v := some (.int (1 : Int32))) (fun h => by rw [Bd.returns] at h; cases h)
  refine ⟨_, _, pre0 _ ?_, hrun, hended, _, _, rfl, ?_, ReturnedEndW.of_narrow ⟨_, rfl⟩ hW (hsame.mono (by decide) (by decide))⟩
  · show Steps p.tables e below (s₁.setTop (mkF m 0 #[.val (.int p1), .val (.int p2), .val (.int p3), .val (.int p4), .val (.long q5), .second, .val (.int p6), .unset, .unset, .unset, .unset, .unset, .unset, .unset, .unset, .unset, .unset] [])) _
    refine XS.iloadN X0.here hx rfl (hb hby at_0) rfl ?_
    show Steps p.tables e below (s₁.setTop (mkF m 1 #[.val (.int p1), .val (.int p2), .val (.int p3), .val (.int p4), .val (.long q5), .second, .val (.int p6), .unset, .unset, .unset, .unset, .unset, .unset, .unset, .unset, .unset, .unset] [(.int p4)])) _
    refine X0.ldcInt hx hown (mvT hZ (hw _ (List.mem_of_getElem? (i := 0) rfl))) (g := (mkF m 1 #[.val (.int p1), .val (.int p2), .val (.int p3), .val (.int p4), .val (.long q5), .second, .val (.int p6), .unset, .unset, .unset, .unset, .unset, .unset, .unset, .unset, .unset, .unset] [(.int p4)])) rfl (hb hby at_1) _ ?_
    show Steps p.tables e below (s₁.setTop (mkF m 3 #[.val (.int p1), .val (.int p2), .val (.int p3), .val (.int p4), .val (.long q5), .second, .val (.int p6), .unset, .unset, .unset, .unset, .unset, .unset, .unset, .unset, .unset, .unset] [(.int (2147483647 : Int32)), (.int p4)])) _
    refine XS.iand X0.here hx rfl (hb hby at_3) rfl ?_
    show Steps p.tables e below (s₁.setTop (mkF m 4 #[.val (.int p1), .val (.int p2), .val (.int p3), .val (.int p4), .val (.long q5), .second, .val (.int p6), .unset, .unset, .unset, .unset, .unset, .unset, .unset, .unset, .unset, .unset] [(.int (p4 &&& (2147483647 : Int32)))])) _
    refine XS.iconst X0.here hx rfl (hb hby at_4) ?_
    show Steps p.tables e below (s₁.setTop (mkF m 5 #[.val (.int p1), .val (.int p2), .val (.int p3), .val (.int p4), .val (.long q5), .second, .val (.int p6), .unset, .unset, .unset, .unset, .unset, .unset, .unset, .unset, .unset, .unset] [(.int (3 : Int32)), (.int (p4 &&& (2147483647 : Int32)))])) _
    refine iremM X0 hx rfl (hb hby at_5) rfl (by decide) ?_
    show Steps p.tables e below (s₁.setTop (mkF m 6 #[.val (.int p1), .val (.int p2), .val (.int p3), .val (.int p4), .val (.long q5), .second, .val (.int p6), .unset, .unset, .unset, .unset, .unset, .unset, .unset, .unset, .unset, .unset] [(.int (own_kd p4))])) _
    rw [hk]
    show Steps p.tables e below (s₁.setTop (mkF m 6 #[.val (.int p1), .val (.int p2), .val (.int p3), .val (.int p4), .val (.long q5), .second, .val (.int p6), .unset, .unset, .unset, .unset, .unset, .unset, .unset, .unset, .unset, .unset] [(.int (0 : Int32))])) _
    refine XS.istore X0.here hx rfl (hb hby at_6) rfl (l' := #[.val (.int p1), .val (.int p2), .val (.int p3), .val (.int p4), .val (.long q5), .second, .val (.int p6), .val (.int (0 : Int32)), .unset, .unset, .unset, .unset, .unset, .unset, .unset, .unset, .unset]) rfl ?_
    show Steps p.tables e below (s₁.setTop (mkF m 8 #[.val (.int p1), .val (.int p2), .val (.int p3), .val (.int p4), .val (.long q5), .second, .val (.int p6), .val (.int (0 : Int32)), .unset, .unset, .unset, .unset, .unset, .unset, .unset, .unset, .unset] [])) _
    refine XS.lload X0.here hx rfl (hb hby at_8) rfl ?_
    show Steps p.tables e below (s₁.setTop (mkF m 10 #[.val (.int p1), .val (.int p2), .val (.int p3), .val (.int p4), .val (.long q5), .second, .val (.int p6), .val (.int (0 : Int32)), .unset, .unset, .unset, .unset, .unset, .unset, .unset, .unset, .unset] [(.long q5)])) _
    refine X0.ldc2Long hx hown (mvT hZ (hw _ (List.mem_of_getElem? (i := 1) rfl))) (g := (mkF m 10 #[.val (.int p1), .val (.int p2), .val (.int p3), .val (.int p4), .val (.long q5), .second, .val (.int p6), .val (.int (0 : Int32)), .unset, .unset, .unset, .unset, .unset, .unset, .unset, .unset, .unset] [(.long q5)])) rfl (hb hby at_10) _ ?_
    show Steps p.tables e below (s₁.setTop (mkF m 13 #[.val (.int p1), .val (.int p2), .val (.int p3), .val (.int p4), .val (.long q5), .second, .val (.int p6), .val (.int (0 : Int32)), .unset, .unset, .unset, .unset, .unset, .unset, .unset, .unset, .unset] [(.long (255 : Int64)), (.long q5)])) _
    refine XS.land X0.here hx rfl (hb hby at_13) rfl ?_
    show Steps p.tables e below (s₁.setTop (mkF m 14 #[.val (.int p1), .val (.int p2), .val (.int p3), .val (.int p4), .val (.long q5), .second, .val (.int p6), .val (.int (0 : Int32)), .unset, .unset, .unset, .unset, .unset, .unset, .unset, .unset, .unset] [(.long (q5 &&& (255 : Int64)))])) _
    refine XS.l2i X0.here hx rfl (hb hby at_14) rfl ?_
    show Steps p.tables e below (s₁.setTop (mkF m 15 #[.val (.int p1), .val (.int p2), .val (.int p3), .val (.int p4), .val (.long q5), .second, .val (.int p6), .val (.int (0 : Int32)), .unset, .unset, .unset, .unset, .unset, .unset, .unset, .unset, .unset] [(.int ((q5 &&& (255 : Int64)).toInt32))])) _
    refine XS.i2c X0.here hx rfl (hb hby at_15) rfl ?_
    show Steps p.tables e below (s₁.setTop (mkF m 16 #[.val (.int p1), .val (.int p2), .val (.int p3), .val (.int p4), .val (.long q5), .second, .val (.int p6), .val (.int (0 : Int32)), .unset, .unset, .unset, .unset, .unset, .unset, .unset, .unset, .unset] [(.int (own_t0 q5))])) _
    refine XS.istore X0.here hx rfl (hb hby at_16) rfl (l' := #[.val (.int p1), .val (.int p2), .val (.int p3), .val (.int p4), .val (.long q5), .second, .val (.int p6), .val (.int (0 : Int32)), .val (.int (own_t0 q5)), .unset, .unset, .unset, .unset, .unset, .unset, .unset, .unset]) rfl ?_
    show Steps p.tables e below (s₁.setTop (mkF m 18 #[.val (.int p1), .val (.int p2), .val (.int p3), .val (.int p4), .val (.long q5), .second, .val (.int p6), .val (.int (0 : Int32)), .val (.int (own_t0 q5)), .unset, .unset, .unset, .unset, .unset, .unset, .unset, .unset] [])) _
    refine XS.lload X0.here hx rfl (hb hby at_18) rfl ?_
    show Steps p.tables e below (s₁.setTop (mkF m 20 #[.val (.int p1), .val (.int p2), .val (.int p3), .val (.int p4), .val (.long q5), .second, .val (.int p6), .val (.int (0 : Int32)), .val (.int (own_t0 q5)), .unset, .unset, .unset, .unset, .unset, .unset, .unset, .unset] [(.long q5)])) _
    refine XS.bipush X0.here hx rfl (hb hby at_20) ?_
    show Steps p.tables e below (s₁.setTop (mkF m 22 #[.val (.int p1), .val (.int p2), .val (.int p3), .val (.int p4), .val (.long q5), .second, .val (.int p6), .val (.int (0 : Int32)), .val (.int (own_t0 q5)), .unset, .unset, .unset, .unset, .unset, .unset, .unset, .unset] [(.int (8 : Int32)), (.long q5)])) _
    refine XS.lushr X0.here hx rfl (hb hby at_22) rfl ?_
    show Steps p.tables e below (s₁.setTop (mkF m 23 #[.val (.int p1), .val (.int p2), .val (.int p3), .val (.int p4), .val (.long q5), .second, .val (.int p6), .val (.int (0 : Int32)), .val (.int (own_t0 q5)), .unset, .unset, .unset, .unset, .unset, .unset, .unset, .unset] [(.long ((q5.toUInt64 >>> ((8 : Int32) &&& 0x3f).toInt64.toUInt64).toInt64))])) _
    refine X0.ldc2Long hx hown (mvT hZ (hw _ (List.mem_of_getElem? (i := 1) rfl))) (g := (mkF m 23 #[.val (.int p1), .val (.int p2), .val (.int p3), .val (.int p4), .val (.long q5), .second, .val (.int p6), .val (.int (0 : Int32)), .val (.int (own_t0 q5)), .unset, .unset, .unset, .unset, .unset, .unset, .unset, .unset] [(.long ((q5.toUInt64 >>> ((8 : Int32) &&& 0x3f).toInt64.toUInt64).toInt64))])) rfl (hb hby at_23) _ ?_
    show Steps p.tables e below (s₁.setTop (mkF m 26 #[.val (.int p1), .val (.int p2), .val (.int p3), .val (.int p4), .val (.long q5), .second, .val (.int p6), .val (.int (0 : Int32)), .val (.int (own_t0 q5)), .unset, .unset, .unset, .unset, .unset, .unset, .unset, .unset] [(.long (255 : Int64)), (.long ((q5.toUInt64 >>> ((8 : Int32) &&& 0x3f).toInt64.toUInt64).toInt64))])) _
    refine XS.land X0.here hx rfl (hb hby at_26) rfl ?_
    show Steps p.tables e below (s₁.setTop (mkF m 27 #[.val (.int p1), .val (.int p2), .val (.int p3), .val (.int p4), .val (.long q5), .second, .val (.int p6), .val (.int (0 : Int32)), .val (.int (own_t0 q5)), .unset, .unset, .unset, .unset, .unset, .unset, .unset, .unset] [(.long (((q5.toUInt64 >>> ((8 : Int32) &&& 0x3f).toInt64.toUInt64).toInt64) &&& (255 : Int64)))])) _
    refine XS.l2i X0.here hx rfl (hb hby at_27) rfl ?_
    show Steps p.tables e below (s₁.setTop (mkF m 28 #[.val (.int p1), .val (.int p2), .val (.int p3), .val (.int p4), .val (.long q5), .second, .val (.int p6), .val (.int (0 : Int32)), .val (.int (own_t0 q5)), .unset, .unset, .unset, .unset, .unset, .unset, .unset, .unset] [(.int ((((q5.toUInt64 >>> ((8 : Int32) &&& 0x3f).toInt64.toUInt64).toInt64) &&& (255 : Int64)).toInt32))])) _
    refine XS.i2c X0.here hx rfl (hb hby at_28) rfl ?_
    show Steps p.tables e below (s₁.setTop (mkF m 29 #[.val (.int p1), .val (.int p2), .val (.int p3), .val (.int p4), .val (.long q5), .second, .val (.int p6), .val (.int (0 : Int32)), .val (.int (own_t0 q5)), .unset, .unset, .unset, .unset, .unset, .unset, .unset, .unset] [(.int (own_t1 q5 (8 : Int32)))])) _
    refine XS.istore X0.here hx rfl (hb hby at_29) rfl (l' := #[.val (.int p1), .val (.int p2), .val (.int p3), .val (.int p4), .val (.long q5), .second, .val (.int p6), .val (.int (0 : Int32)), .val (.int (own_t0 q5)), .val (.int (own_t1 q5 (8 : Int32))), .unset, .unset, .unset, .unset, .unset, .unset, .unset]) rfl ?_
    show Steps p.tables e below (s₁.setTop (mkF m 31 #[.val (.int p1), .val (.int p2), .val (.int p3), .val (.int p4), .val (.long q5), .second, .val (.int p6), .val (.int (0 : Int32)), .val (.int (own_t0 q5)), .val (.int (own_t1 q5 (8 : Int32))), .unset, .unset, .unset, .unset, .unset, .unset, .unset] [])) _
    refine XS.lload X0.here hx rfl (hb hby at_31) rfl ?_
    show Steps p.tables e below (s₁.setTop (mkF m 33 #[.val (.int p1), .val (.int p2), .val (.int p3), .val (.int p4), .val (.long q5), .second, .val (.int p6), .val (.int (0 : Int32)), .val (.int (own_t0 q5)), .val (.int (own_t1 q5 (8 : Int32))), .unset, .unset, .unset, .unset, .unset, .unset, .unset] [(.long q5)])) _
    refine XS.bipush X0.here hx rfl (hb hby at_33) ?_
    show Steps p.tables e below (s₁.setTop (mkF m 35 #[.val (.int p1), .val (.int p2), .val (.int p3), .val (.int p4), .val (.long q5), .second, .val (.int p6), .val (.int (0 : Int32)), .val (.int (own_t0 q5)), .val (.int (own_t1 q5 (8 : Int32))), .unset, .unset, .unset, .unset, .unset, .unset, .unset] [(.int (16 : Int32)), (.long q5)])) _
    refine XS.lushr X0.here hx rfl (hb hby at_35) rfl ?_
    show Steps p.tables e below (s₁.setTop (mkF m 36 #[.val (.int p1), .val (.int p2), .val (.int p3), .val (.int p4), .val (.long q5), .second, .val (.int p6), .val (.int (0 : Int32)), .val (.int (own_t0 q5)), .val (.int (own_t1 q5 (8 : Int32))), .unset, .unset, .unset, .unset, .unset, .unset, .unset] [(.long ((q5.toUInt64 >>> ((16 : Int32) &&& 0x3f).toInt64.toUInt64).toInt64))])) _
    refine X0.ldc2Long hx hown (mvT hZ (hw _ (List.mem_of_getElem? (i := 1) rfl))) (g := (mkF m 36 #[.val (.int p1), .val (.int p2), .val (.int p3), .val (.int p4), .val (.long q5), .second, .val (.int p6), .val (.int (0 : Int32)), .val (.int (own_t0 q5)), .val (.int (own_t1 q5 (8 : Int32))), .unset, .unset, .unset, .unset, .unset, .unset, .unset] [(.long ((q5.toUInt64 >>> ((16 : Int32) &&& 0x3f).toInt64.toUInt64).toInt64))])) rfl (hb hby at_36) _ ?_
    show Steps p.tables e below (s₁.setTop (mkF m 39 #[.val (.int p1), .val (.int p2), .val (.int p3), .val (.int p4), .val (.long q5), .second, .val (.int p6), .val (.int (0 : Int32)), .val (.int (own_t0 q5)), .val (.int (own_t1 q5 (8 : Int32))), .unset, .unset, .unset, .unset, .unset, .unset, .unset] [(.long (255 : Int64)), (.long ((q5.toUInt64 >>> ((16 : Int32) &&& 0x3f).toInt64.toUInt64).toInt64))])) _
    refine XS.land X0.here hx rfl (hb hby at_39) rfl ?_
    show Steps p.tables e below (s₁.setTop (mkF m 40 #[.val (.int p1), .val (.int p2), .val (.int p3), .val (.int p4), .val (.long q5), .second, .val (.int p6), .val (.int (0 : Int32)), .val (.int (own_t0 q5)), .val (.int (own_t1 q5 (8 : Int32))), .unset, .unset, .unset, .unset, .unset, .unset, .unset] [(.long (((q5.toUInt64 >>> ((16 : Int32) &&& 0x3f).toInt64.toUInt64).toInt64) &&& (255 : Int64)))])) _
    refine XS.l2i X0.here hx rfl (hb hby at_40) rfl ?_
    show Steps p.tables e below (s₁.setTop (mkF m 41 #[.val (.int p1), .val (.int p2), .val (.int p3), .val (.int p4), .val (.long q5), .second, .val (.int p6), .val (.int (0 : Int32)), .val (.int (own_t0 q5)), .val (.int (own_t1 q5 (8 : Int32))), .unset, .unset, .unset, .unset, .unset, .unset, .unset] [(.int ((((q5.toUInt64 >>> ((16 : Int32) &&& 0x3f).toInt64.toUInt64).toInt64) &&& (255 : Int64)).toInt32))])) _
    refine XS.i2c X0.here hx rfl (hb hby at_41) rfl ?_
    show Steps p.tables e below (s₁.setTop (mkF m 42 #[.val (.int p1), .val (.int p2), .val (.int p3), .val (.int p4), .val (.long q5), .second, .val (.int p6), .val (.int (0 : Int32)), .val (.int (own_t0 q5)), .val (.int (own_t1 q5 (8 : Int32))), .unset, .unset, .unset, .unset, .unset, .unset, .unset] [(.int (own_t1 q5 (16 : Int32)))])) _
    refine XS.istore X0.here hx rfl (hb hby at_42) rfl (l' := #[.val (.int p1), .val (.int p2), .val (.int p3), .val (.int p4), .val (.long q5), .second, .val (.int p6), .val (.int (0 : Int32)), .val (.int (own_t0 q5)), .val (.int (own_t1 q5 (8 : Int32))), .val (.int (own_t1 q5 (16 : Int32))), .unset, .unset, .unset, .unset, .unset, .unset]) rfl ?_
    show Steps p.tables e below (s₁.setTop (mkF m 44 #[.val (.int p1), .val (.int p2), .val (.int p3), .val (.int p4), .val (.long q5), .second, .val (.int p6), .val (.int (0 : Int32)), .val (.int (own_t0 q5)), .val (.int (own_t1 q5 (8 : Int32))), .val (.int (own_t1 q5 (16 : Int32))), .unset, .unset, .unset, .unset, .unset, .unset] [])) _
    refine XS.iconst X0.here hx rfl (hb hby at_44) ?_
    show Steps p.tables e below (s₁.setTop (mkF m 45 #[.val (.int p1), .val (.int p2), .val (.int p3), .val (.int p4), .val (.long q5), .second, .val (.int p6), .val (.int (0 : Int32)), .val (.int (own_t0 q5)), .val (.int (own_t1 q5 (8 : Int32))), .val (.int (own_t1 q5 (16 : Int32))), .unset, .unset, .unset, .unset, .unset, .unset] [(.int (1 : Int32))])) _
    refine XS.iconst X0.here hx rfl (hb hby at_45) ?_
    show Steps p.tables e below (s₁.setTop (mkF m 46 #[.val (.int p1), .val (.int p2), .val (.int p3), .val (.int p4), .val (.long q5), .second, .val (.int p6), .val (.int (0 : Int32)), .val (.int (own_t0 q5)), .val (.int (own_t1 q5 (8 : Int32))), .val (.int (own_t1 q5 (16 : Int32))), .unset, .unset, .unset, .unset, .unset, .unset] [(.int (2 : Int32)), (.int (1 : Int32))])) _
    refine XS.iload X0.here hx rfl (hb hby at_46) rfl ?_
    show Steps p.tables e below (s₁.setTop (mkF m 48 #[.val (.int p1), .val (.int p2), .val (.int p3), .val (.int p4), .val (.long q5), .second, .val (.int p6), .val (.int (0 : Int32)), .val (.int (own_t0 q5)), .val (.int (own_t1 q5 (8 : Int32))), .val (.int (own_t1 q5 (16 : Int32))), .unset, .unset, .unset, .unset, .unset, .unset] [(.int p6), (.int (2 : Int32)), (.int (1 : Int32))])) _
    refine XS.iconst X0.here hx rfl (hb hby at_48) ?_
    show Steps p.tables e below (s₁.setTop (mkF m 49 #[.val (.int p1), .val (.int p2), .val (.int p3), .val (.int p4), .val (.long q5), .second, .val (.int p6), .val (.int (0 : Int32)), .val (.int (own_t0 q5)), .val (.int (own_t1 q5 (8 : Int32))), .val (.int (own_t1 q5 (16 : Int32))), .unset, .unset, .unset, .unset, .unset, .unset] [(.int (3 : Int32)), (.int p6), (.int (2 : Int32)), (.int (1 : Int32))])) _
    refine XS.iand X0.here hx rfl (hb hby at_49) rfl ?_
    show Steps p.tables e below (s₁.setTop (mkF m 50 #[.val (.int p1), .val (.int p2), .val (.int p3), .val (.int p4), .val (.long q5), .second, .val (.int p6), .val (.int (0 : Int32)), .val (.int (own_t0 q5)), .val (.int (own_t1 q5 (8 : Int32))), .val (.int (own_t1 q5 (16 : Int32))), .unset, .unset, .unset, .unset, .unset, .unset] [(.int (own_a3 p6)), (.int (2 : Int32)), (.int (1 : Int32))])) _
    refine st1 _ ?_
    show Steps p.tables e below (T1.setTop (mkF m 53 #[.val (.int p1), .val (.int p2), .val (.int p3), .val (.int p4), .val (.long q5), .second, .val (.int p6), .val (.int (0 : Int32)), .val (.int (own_t0 q5)), .val (.int (own_t1 q5 (8 : Int32))), .val (.int (own_t1 q5 (16 : Int32))), .unset, .unset, .unset, .unset, .unset, .unset] [(.int (2 : Int32)), (.int (1 : Int32))])) _
    refine XS.iadd X1.here hx rfl (hb hby at_53) rfl ?_
    show Steps p.tables e below (T1.setTop (mkF m 54 #[.val (.int p1), .val (.int p2), .val (.int p3), .val (.int p4), .val (.long q5), .second, .val (.int p6), .val (.int (0 : Int32)), .val (.int (own_t0 q5)), .val (.int (own_t1 q5 (8 : Int32))), .val (.int (own_t1 q5 (16 : Int32))), .unset, .unset, .unset, .unset, .unset, .unset] [(.int (3 : Int32))])) _
    refine XS.istore X1.here hx rfl (hb hby at_54) rfl (l' := #[.val (.int p1), .val (.int p2), .val (.int p3), .val (.int p4), .val (.long q5), .second, .val (.int p6), .val (.int (0 : Int32)), .val (.int (own_t0 q5)), .val (.int (own_t1 q5 (8 : Int32))), .val (.int (own_t1 q5 (16 : Int32))), .val (.int (3 : Int32)), .unset, .unset, .unset, .unset, .unset]) rfl ?_
    show Steps p.tables e below (T1.setTop (mkF m 56 #[.val (.int p1), .val (.int p2), .val (.int p3), .val (.int p4), .val (.long q5), .second, .val (.int p6), .val (.int (0 : Int32)), .val (.int (own_t0 q5)), .val (.int (own_t1 q5 (8 : Int32))), .val (.int (own_t1 q5 (16 : Int32))), .val (.int (3 : Int32)), .unset, .unset, .unset, .unset, .unset] [])) _
    refine XS.iload X1.here hx rfl (hb hby at_56) rfl ?_
    show Steps p.tables e below (T1.setTop (mkF m 58 #[.val (.int p1), .val (.int p2), .val (.int p3), .val (.int p4), .val (.long q5), .second, .val (.int p6), .val (.int (0 : Int32)), .val (.int (own_t0 q5)), .val (.int (own_t1 q5 (8 : Int32))), .val (.int (own_t1 q5 (16 : Int32))), .val (.int (3 : Int32)), .unset, .unset, .unset, .unset, .unset] [(.int (3 : Int32))])) _
    refine XS.iconst X1.here hx rfl (hb hby at_58) ?_
    show Steps p.tables e below (T1.setTop (mkF m 59 #[.val (.int p1), .val (.int p2), .val (.int p3), .val (.int p4), .val (.long q5), .second, .val (.int p6), .val (.int (0 : Int32)), .val (.int (own_t0 q5)), .val (.int (own_t1 q5 (8 : Int32))), .val (.int (own_t1 q5 (16 : Int32))), .val (.int (3 : Int32)), .unset, .unset, .unset, .unset, .unset] [(.int (1 : Int32)), (.int (3 : Int32))])) _
    refine XS.icmpYes X1.here hx rfl (pc0 := 59) (pc' := 75) rfl (hb hby at_59) rfl (feq (by decide : ¬ ((3 : Int32) = (1 : Int32)))).2 (by decide) (by decide) ?_
    show Steps p.tables e below (T1.setTop (mkF m 75 #[.val (.int p1), .val (.int p2), .val (.int p3), .val (.int p4), .val (.long q5), .second, .val (.int p6), .val (.int (0 : Int32)), .val (.int (own_t0 q5)), .val (.int (own_t1 q5 (8 : Int32))), .val (.int (own_t1 q5 (16 : Int32))), .val (.int (3 : Int32)), .unset, .unset, .unset, .unset, .unset] [])) _
    refine XS.iload X1.here hx rfl (hb hby at_75) rfl ?_
    show Steps p.tables e below (T1.setTop (mkF m 77 #[.val (.int p1), .val (.int p2), .val (.int p3), .val (.int p4), .val (.long q5), .second, .val (.int p6), .val (.int (0 : Int32)), .val (.int (own_t0 q5)), .val (.int (own_t1 q5 (8 : Int32))), .val (.int (own_t1 q5 (16 : Int32))), .val (.int (3 : Int32)), .unset, .unset, .unset, .unset, .unset] [(.int (3 : Int32))])) _
    refine XS.iconst X1.here hx rfl (hb hby at_77) ?_
    show Steps p.tables e below (T1.setTop (mkF m 78 #[.val (.int p1), .val (.int p2), .val (.int p3), .val (.int p4), .val (.long q5), .second, .val (.int p6), .val (.int (0 : Int32)), .val (.int (own_t0 q5)), .val (.int (own_t1 q5 (8 : Int32))), .val (.int (own_t1 q5 (16 : Int32))), .val (.int (3 : Int32)), .unset, .unset, .unset, .unset, .unset] [(.int (2 : Int32)), (.int (3 : Int32))])) _
    refine XS.icmpYes X1.here hx rfl (pc0 := 78) (pc' := 99) rfl (hb hby at_78) rfl (feq (by decide : ¬ ((3 : Int32) = (2 : Int32)))).2 (by decide) (by decide) ?_
    show Steps p.tables e below (T1.setTop (mkF m 99 #[.val (.int p1), .val (.int p2), .val (.int p3), .val (.int p4), .val (.long q5), .second, .val (.int p6), .val (.int (0 : Int32)), .val (.int (own_t0 q5)), .val (.int (own_t1 q5 (8 : Int32))), .val (.int (own_t1 q5 (16 : Int32))), .val (.int (3 : Int32)), .unset, .unset, .unset, .unset, .unset] [])) _
    refine XS.iconst X1.here hx rfl (hb hby at_99) ?_
    show Steps p.tables e below (T1.setTop (mkF m 100 #[.val (.int p1), .val (.int p2), .val (.int p3), .val (.int p4), .val (.long q5), .second, .val (.int p6), .val (.int (0 : Int32)), .val (.int (own_t0 q5)), .val (.int (own_t1 q5 (8 : Int32))), .val (.int (own_t1 q5 (16 : Int32))), .val (.int (3 : Int32)), .unset, .unset, .unset, .unset, .unset] [(.int (3 : Int32))])) _
    refine st2 _ ?_
    show Steps p.tables e below (T2.setTop (mkF m 102 #[.val (.int p1), .val (.int p2), .val (.int p3), .val (.int p4), .val (.long q5), .second, .val (.int p6), .val (.int (0 : Int32)), .val (.int (own_t0 q5)), .val (.int (own_t1 q5 (8 : Int32))), .val (.int (own_t1 q5 (16 : Int32))), .val (.int (3 : Int32)), .unset, .unset, .unset, .unset, .unset] [(.ref b2)])) _
    refine XS.dup X2.here hx rfl (hb hby at_102) rfl rfl ?_
    show Steps p.tables e below (T2.setTop (mkF m 103 #[.val (.int p1), .val (.int p2), .val (.int p3), .val (.int p4), .val (.long q5), .second, .val (.int p6), .val (.int (0 : Int32)), .val (.int (own_t0 q5)), .val (.int (own_t1 q5 (8 : Int32))), .val (.int (own_t1 q5 (16 : Int32))), .val (.int (3 : Int32)), .unset, .unset, .unset, .unset, .unset] [(.ref b2), (.ref b2)])) _
    refine XS.iconst X2.here hx rfl (hb hby at_103) ?_
    show Steps p.tables e below (T2.setTop (mkF m 104 #[.val (.int p1), .val (.int p2), .val (.int p3), .val (.int p4), .val (.long q5), .second, .val (.int p6), .val (.int (0 : Int32)), .val (.int (own_t0 q5)), .val (.int (own_t1 q5 (8 : Int32))), .val (.int (own_t1 q5 (16 : Int32))), .val (.int (3 : Int32)), .unset, .unset, .unset, .unset, .unset] [(.int (0 : Int32)), (.ref b2), (.ref b2)])) _
    refine XS.iload X2.here hx rfl (hb hby at_104) rfl ?_
    show Steps p.tables e below (T2.setTop (mkF m 106 #[.val (.int p1), .val (.int p2), .val (.int p3), .val (.int p4), .val (.long q5), .second, .val (.int p6), .val (.int (0 : Int32)), .val (.int (own_t0 q5)), .val (.int (own_t1 q5 (8 : Int32))), .val (.int (own_t1 q5 (16 : Int32))), .val (.int (3 : Int32)), .unset, .unset, .unset, .unset, .unset] [(.int (own_t0 q5)), (.int (0 : Int32)), (.ref b2), (.ref b2)])) _
    refine st6 _ ?_
    show Steps p.tables e below (T6.setTop (mkF m 107 #[.val (.int p1), .val (.int p2), .val (.int p3), .val (.int p4), .val (.long q5), .second, .val (.int p6), .val (.int (0 : Int32)), .val (.int (own_t0 q5)), .val (.int (own_t1 q5 (8 : Int32))), .val (.int (own_t1 q5 (16 : Int32))), .val (.int (3 : Int32)), .unset, .unset, .unset, .unset, .unset] [(.ref b2)])) _
    refine XS.dup X6.here hx rfl (hb hby at_107) rfl rfl ?_
    show Steps p.tables e below (T6.setTop (mkF m 108 #[.val (.int p1), .val (.int p2), .val (.int p3), .val (.int p4), .val (.long q5), .second, .val (.int p6), .val (.int (0 : Int32)), .val (.int (own_t0 q5)), .val (.int (own_t1 q5 (8 : Int32))), .val (.int (own_t1 q5 (16 : Int32))), .val (.int (3 : Int32)), .unset, .unset, .unset, .unset, .unset] [(.ref b2), (.ref b2)])) _
    refine XS.iconst X6.here hx rfl (hb hby at_108) ?_
    show Steps p.tables e below (T6.setTop (mkF m 109 #[.val (.int p1), .val (.int p2), .val (.int p3), .val (.int p4), .val (.long q5), .second, .val (.int p6), .val (.int (0 : Int32)), .val (.int (own_t0 q5)), .val (.int (own_t1 q5 (8 : Int32))), .val (.int (own_t1 q5 (16 : Int32))), .val (.int (3 : Int32)), .unset, .unset, .unset, .unset, .unset] [(.int (1 : Int32)), (.ref b2), (.ref b2)])) _
    refine XS.iload X6.here hx rfl (hb hby at_109) rfl ?_
    show Steps p.tables e below (T6.setTop (mkF m 111 #[.val (.int p1), .val (.int p2), .val (.int p3), .val (.int p4), .val (.long q5), .second, .val (.int p6), .val (.int (0 : Int32)), .val (.int (own_t0 q5)), .val (.int (own_t1 q5 (8 : Int32))), .val (.int (own_t1 q5 (16 : Int32))), .val (.int (3 : Int32)), .unset, .unset, .unset, .unset, .unset] [(.int (own_t1 q5 (8 : Int32))), (.int (1 : Int32)), (.ref b2), (.ref b2)])) _
    refine st11 _ ?_
    show Steps p.tables e below (T11.setTop (mkF m 112 #[.val (.int p1), .val (.int p2), .val (.int p3), .val (.int p4), .val (.long q5), .second, .val (.int p6), .val (.int (0 : Int32)), .val (.int (own_t0 q5)), .val (.int (own_t1 q5 (8 : Int32))), .val (.int (own_t1 q5 (16 : Int32))), .val (.int (3 : Int32)), .unset, .unset, .unset, .unset, .unset] [(.ref b2)])) _
    refine XS.dup X11.here hx rfl (hb hby at_112) rfl rfl ?_
    show Steps p.tables e below (T11.setTop (mkF m 113 #[.val (.int p1), .val (.int p2), .val (.int p3), .val (.int p4), .val (.long q5), .second, .val (.int p6), .val (.int (0 : Int32)), .val (.int (own_t0 q5)), .val (.int (own_t1 q5 (8 : Int32))), .val (.int (own_t1 q5 (16 : Int32))), .val (.int (3 : Int32)), .unset, .unset, .unset, .unset, .unset] [(.ref b2), (.ref b2)])) _
    refine XS.iconst X11.here hx rfl (hb hby at_113) ?_
    show Steps p.tables e below (T11.setTop (mkF m 114 #[.val (.int p1), .val (.int p2), .val (.int p3), .val (.int p4), .val (.long q5), .second, .val (.int p6), .val (.int (0 : Int32)), .val (.int (own_t0 q5)), .val (.int (own_t1 q5 (8 : Int32))), .val (.int (own_t1 q5 (16 : Int32))), .val (.int (3 : Int32)), .unset, .unset, .unset, .unset, .unset] [(.int (2 : Int32)), (.ref b2), (.ref b2)])) _
    refine XS.iload X11.here hx rfl (hb hby at_114) rfl ?_
    show Steps p.tables e below (T11.setTop (mkF m 116 #[.val (.int p1), .val (.int p2), .val (.int p3), .val (.int p4), .val (.long q5), .second, .val (.int p6), .val (.int (0 : Int32)), .val (.int (own_t0 q5)), .val (.int (own_t1 q5 (8 : Int32))), .val (.int (own_t1 q5 (16 : Int32))), .val (.int (3 : Int32)), .unset, .unset, .unset, .unset, .unset] [(.int (own_t1 q5 (16 : Int32))), (.int (2 : Int32)), (.ref b2), (.ref b2)])) _
    refine st15 _ ?_
    show Steps p.tables e below (T15.setTop (mkF m 117 #[.val (.int p1), .val (.int p2), .val (.int p3), .val (.int p4), .val (.long q5), .second, .val (.int p6), .val (.int (0 : Int32)), .val (.int (own_t0 q5)), .val (.int (own_t1 q5 (8 : Int32))), .val (.int (own_t1 q5 (16 : Int32))), .val (.int (3 : Int32)), .unset, .unset, .unset, .unset, .unset] [(.ref b2)])) _
    refine XS.astore X15.here hx rfl (hb hby at_117) rfl rfl (l' := #[.val (.int p1), .val (.int p2), .val (.int p3), .val (.int p4), .val (.long q5), .second, .val (.int p6), .val (.int (0 : Int32)), .val (.int (own_t0 q5)), .val (.int (own_t1 q5 (8 : Int32))), .val (.int (own_t1 q5 (16 : Int32))), .val (.int (3 : Int32)), .val (.ref b2), .unset, .unset, .unset, .unset]) rfl ?_
    show Steps p.tables e below (T15.setTop (mkF m 119 #[.val (.int p1), .val (.int p2), .val (.int p3), .val (.int p4), .val (.long q5), .second, .val (.int p6), .val (.int (0 : Int32)), .val (.int (own_t0 q5)), .val (.int (own_t1 q5 (8 : Int32))), .val (.int (own_t1 q5 (16 : Int32))), .val (.int (3 : Int32)), .val (.ref b2), .unset, .unset, .unset, .unset] [])) _
    refine st18 _ ?_
    show Steps p.tables e below (T18.setTop (mkF m 122 #[.val (.int p1), .val (.int p2), .val (.int p3), .val (.int p4), .val (.long q5), .second, .val (.int p6), .val (.int (0 : Int32)), .val (.int (own_t0 q5)), .val (.int (own_t1 q5 (8 : Int32))), .val (.int (own_t1 q5 (16 : Int32))), .val (.int (3 : Int32)), .val (.ref b2), .unset, .unset, .unset, .unset] [(.ref b18)])) _
    refine XS.dup X18.here hx rfl (hb hby at_122) rfl rfl ?_
    show Steps p.tables e below (T18.setTop (mkF m 123 #[.val (.int p1), .val (.int p2), .val (.int p3), .val (.int p4), .val (.long q5), .second, .val (.int p6), .val (.int (0 : Int32)), .val (.int (own_t0 q5)), .val (.int (own_t1 q5 (8 : Int32))), .val (.int (own_t1 q5 (16 : Int32))), .val (.int (3 : Int32)), .val (.ref b2), .unset, .unset, .unset, .unset] [(.ref b18), (.ref b18)])) _
    refine XS.aload X18.here hx rfl (hb hby at_123) rfl rfl ?_
    show Steps p.tables e below (T18.setTop (mkF m 125 #[.val (.int p1), .val (.int p2), .val (.int p3), .val (.int p4), .val (.long q5), .second, .val (.int p6), .val (.int (0 : Int32)), .val (.int (own_t0 q5)), .val (.int (own_t1 q5 (8 : Int32))), .val (.int (own_t1 q5 (16 : Int32))), .val (.int (3 : Int32)), .val (.ref b2), .unset, .unset, .unset, .unset] [(.ref b2), (.ref b18), (.ref b18)])) _
    refine st31.trans ?_
    show Steps p.tables e below (T31.setTop (mkF m 128 #[.val (.int p1), .val (.int p2), .val (.int p3), .val (.int p4), .val (.long q5), .second, .val (.int p6), .val (.int (0 : Int32)), .val (.int (own_t0 q5)), .val (.int (own_t1 q5 (8 : Int32))), .val (.int (own_t1 q5 (16 : Int32))), .val (.int (3 : Int32)), .val (.ref b2), .unset, .unset, .unset, .unset] [(.ref b18)])) _
    refine XS.astore X31.here hx rfl (hb hby at_128) rfl rfl (l' := #[.val (.int p1), .val (.int p2), .val (.int p3), .val (.int p4), .val (.long q5), .second, .val (.int p6), .val (.int (0 : Int32)), .val (.int (own_t0 q5)), .val (.int (own_t1 q5 (8 : Int32))), .val (.int (own_t1 q5 (16 : Int32))), .val (.int (3 : Int32)), .val (.ref b2), .val (.ref b18), .unset, .unset, .unset]) rfl ?_
    show Steps p.tables e below (T31.setTop (mkF m 130 #[.val (.int p1), .val (.int p2), .val (.int p3), .val (.int p4), .val (.long q5), .second, .val (.int p6), .val (.int (0 : Int32)), .val (.int (own_t0 q5)), .val (.int (own_t1 q5 (8 : Int32))), .val (.int (own_t1 q5 (16 : Int32))), .val (.int (3 : Int32)), .val (.ref b2), .val (.ref b18), .unset, .unset, .unset] [])) _
    refine XS.iload X31.here hx rfl (hb hby at_130) rfl ?_
    show Steps p.tables e below (T31.setTop (mkF m 132 #[.val (.int p1), .val (.int p2), .val (.int p3), .val (.int p4), .val (.long q5), .second, .val (.int p6), .val (.int (0 : Int32)), .val (.int (own_t0 q5)), .val (.int (own_t1 q5 (8 : Int32))), .val (.int (own_t1 q5 (16 : Int32))), .val (.int (3 : Int32)), .val (.ref b2), .val (.ref b18), .unset, .unset, .unset] [(.int (0 : Int32))])) _
    refine XS.ifNo X31.here hx rfl (hb hby at_132) rfl ((if0 _ _).trans (teq (rfl : (0 : Int32) = (0 : Int32))).2) ?_
    show Steps p.tables e below (T31.setTop (mkF m 135 #[.val (.int p1), .val (.int p2), .val (.int p3), .val (.int p4), .val (.long q5), .second, .val (.int p6), .val (.int (0 : Int32)), .val (.int (own_t0 q5)), .val (.int (own_t1 q5 (8 : Int32))), .val (.int (own_t1 q5 (16 : Int32))), .val (.int (3 : Int32)), .val (.ref b2), .val (.ref b18), .unset, .unset, .unset] [])) _
    refine st34 _ ?_
    show Steps p.tables e below (T34.setTop (mkF m 138 #[.val (.int p1), .val (.int p2), .val (.int p3), .val (.int p4), .val (.long q5), .second, .val (.int p6), .val (.int (0 : Int32)), .val (.int (own_t0 q5)), .val (.int (own_t1 q5 (8 : Int32))), .val (.int (own_t1 q5 (16 : Int32))), .val (.int (3 : Int32)), .val (.ref b2), .val (.ref b18), .unset, .unset, .unset] [(.ref k_EMPTY)])) _
    refine XS.astore X34.here hx rfl (hb hby at_138) rfl rfl (l' := #[.val (.int p1), .val (.int p2), .val (.int p3), .val (.int p4), .val (.long q5), .second, .val (.int p6), .val (.int (0 : Int32)), .val (.int (own_t0 q5)), .val (.int (own_t1 q5 (8 : Int32))), .val (.int (own_t1 q5 (16 : Int32))), .val (.int (3 : Int32)), .val (.ref b2), .val (.ref b18), .val (.ref k_EMPTY), .unset, .unset]) rfl ?_
    show Steps p.tables e below (T34.setTop (mkF m 140 #[.val (.int p1), .val (.int p2), .val (.int p3), .val (.int p4), .val (.long q5), .second, .val (.int p6), .val (.int (0 : Int32)), .val (.int (own_t0 q5)), .val (.int (own_t1 q5 (8 : Int32))), .val (.int (own_t1 q5 (16 : Int32))), .val (.int (3 : Int32)), .val (.ref b2), .val (.ref b18), .val (.ref k_EMPTY), .unset, .unset] [])) _
    refine XS.goto X34.here hx rfl (pc0 := 140) (pc' := 168) rfl (hb hby at_140) (by decide) (by decide) ?_
    show Steps p.tables e below (T34.setTop (mkF m 168 #[.val (.int p1), .val (.int p2), .val (.int p3), .val (.int p4), .val (.long q5), .second, .val (.int p6), .val (.int (0 : Int32)), .val (.int (own_t0 q5)), .val (.int (own_t1 q5 (8 : Int32))), .val (.int (own_t1 q5 (16 : Int32))), .val (.int (3 : Int32)), .val (.ref b2), .val (.ref b18), .val (.ref k_EMPTY), .unset, .unset] [])) _
    refine st35 _ ?_
    show Steps p.tables e below (T35.setTop (mkF m 171 #[.val (.int p1), .val (.int p2), .val (.int p3), .val (.int p4), .val (.long q5), .second, .val (.int p6), .val (.int (0 : Int32)), .val (.int (own_t0 q5)), .val (.int (own_t1 q5 (8 : Int32))), .val (.int (own_t1 q5 (16 : Int32))), .val (.int (3 : Int32)), .val (.ref b2), .val (.ref b18), .val (.ref k_EMPTY), .unset, .unset] [(.ref b35)])) _
    refine XS.dup X35.here hx rfl (hb hby at_171) rfl rfl ?_
    show Steps p.tables e below (T35.setTop (mkF m 172 #[.val (.int p1), .val (.int p2), .val (.int p3), .val (.int p4), .val (.long q5), .second, .val (.int p6), .val (.int (0 : Int32)), .val (.int (own_t0 q5)), .val (.int (own_t1 q5 (8 : Int32))), .val (.int (own_t1 q5 (16 : Int32))), .val (.int (3 : Int32)), .val (.ref b2), .val (.ref b18), .val (.ref k_EMPTY), .unset, .unset] [(.ref b35), (.ref b35)])) _
    refine XS.iloadN X35.here hx rfl (hb hby at_172) rfl ?_
    show Steps p.tables e below (T35.setTop (mkF m 173 #[.val (.int p1), .val (.int p2), .val (.int p3), .val (.int p4), .val (.long q5), .second, .val (.int p6), .val (.int (0 : Int32)), .val (.int (own_t0 q5)), .val (.int (own_t1 q5 (8 : Int32))), .val (.int (own_t1 q5 (16 : Int32))), .val (.int (3 : Int32)), .val (.ref b2), .val (.ref b18), .val (.ref k_EMPTY), .unset, .unset] [(.int p1), (.ref b35), (.ref b35)])) _
    refine XS.iloadN X35.here hx rfl (hb hby at_173) rfl ?_
    show Steps p.tables e below (T35.setTop (mkF m 174 #[.val (.int p1), .val (.int p2), .val (.int p3), .val (.int p4), .val (.long q5), .second, .val (.int p6), .val (.int (0 : Int32)), .val (.int (own_t0 q5)), .val (.int (own_t1 q5 (8 : Int32))), .val (.int (own_t1 q5 (16 : Int32))), .val (.int (3 : Int32)), .val (.ref b2), .val (.ref b18), .val (.ref k_EMPTY), .unset, .unset] [(.int p2), (.int p1), (.ref b35), (.ref b35)])) _
    refine XS.iloadN X35.here hx rfl (hb hby at_174) rfl ?_
    show Steps p.tables e below (T35.setTop (mkF m 175 #[.val (.int p1), .val (.int p2), .val (.int p3), .val (.int p4), .val (.long q5), .second, .val (.int p6), .val (.int (0 : Int32)), .val (.int (own_t0 q5)), .val (.int (own_t1 q5 (8 : Int32))), .val (.int (own_t1 q5 (16 : Int32))), .val (.int (3 : Int32)), .val (.ref b2), .val (.ref b18), .val (.ref k_EMPTY), .unset, .unset] [(.int p3), (.int p2), (.int p1), (.ref b35), (.ref b35)])) _
    refine XS.aload X35.here hx rfl (hb hby at_175) rfl rfl ?_
    show Steps p.tables e below (T35.setTop (mkF m 177 #[.val (.int p1), .val (.int p2), .val (.int p3), .val (.int p4), .val (.long q5), .second, .val (.int p6), .val (.int (0 : Int32)), .val (.int (own_t0 q5)), .val (.int (own_t1 q5 (8 : Int32))), .val (.int (own_t1 q5 (16 : Int32))), .val (.int (3 : Int32)), .val (.ref b2), .val (.ref b18), .val (.ref k_EMPTY), .unset, .unset] [(.ref k_EMPTY), (.int p3), (.int p2), (.int p1), (.ref b35), (.ref b35)])) _
    refine st42.trans ?_
    show Steps p.tables e below (T42.setTop (mkF m 180 #[.val (.int p1), .val (.int p2), .val (.int p3), .val (.int p4), .val (.long q5), .second, .val (.int p6), .val (.int (0 : Int32)), .val (.int (own_t0 q5)), .val (.int (own_t1 q5 (8 : Int32))), .val (.int (own_t1 q5 (16 : Int32))), .val (.int (3 : Int32)), .val (.ref b2), .val (.ref b18), .val (.ref k_EMPTY), .unset, .unset] [(.ref b35)])) _
    refine XS.astore X42.here hx rfl (hb hby at_180) rfl rfl (l' := #[.val (.int p1), .val (.int p2), .val (.int p3), .val (.int p4), .val (.long q5), .second, .val (.int p6), .val (.int (0 : Int32)), .val (.int (own_t0 q5)), .val (.int (own_t1 q5 (8 : Int32))), .val (.int (own_t1 q5 (16 : Int32))), .val (.int (3 : Int32)), .val (.ref b2), .val (.ref b18), .val (.ref k_EMPTY), .val (.ref b35), .unset]) rfl ?_
    show Steps p.tables e below (T42.setTop (mkF m 182 #[.val (.int p1), .val (.int p2), .val (.int p3), .val (.int p4), .val (.long q5), .second, .val (.int p6), .val (.int (0 : Int32)), .val (.int (own_t0 q5)), .val (.int (own_t1 q5 (8 : Int32))), .val (.int (own_t1 q5 (16 : Int32))), .val (.int (3 : Int32)), .val (.ref b2), .val (.ref b18), .val (.ref k_EMPTY), .val (.ref b35), .unset] [])) _
    refine XS.iload X42.here hx rfl (hb hby at_182) rfl ?_
    show Steps p.tables e below (T42.setTop (mkF m 184 #[.val (.int p1), .val (.int p2), .val (.int p3), .val (.int p4), .val (.long q5), .second, .val (.int p6), .val (.int (0 : Int32)), .val (.int (own_t0 q5)), .val (.int (own_t1 q5 (8 : Int32))), .val (.int (own_t1 q5 (16 : Int32))), .val (.int (3 : Int32)), .val (.ref b2), .val (.ref b18), .val (.ref k_EMPTY), .val (.ref b35), .unset] [(.int (0 : Int32))])) _
    refine XS.iconst X42.here hx rfl (hb hby at_184) ?_
    show Steps p.tables e below (T42.setTop (mkF m 185 #[.val (.int p1), .val (.int p2), .val (.int p3), .val (.int p4), .val (.long q5), .second, .val (.int p6), .val (.int (0 : Int32)), .val (.int (own_t0 q5)), .val (.int (own_t1 q5 (8 : Int32))), .val (.int (own_t1 q5 (16 : Int32))), .val (.int (3 : Int32)), .val (.ref b2), .val (.ref b18), .val (.ref k_EMPTY), .val (.ref b35), .unset] [(.int (1 : Int32)), (.int (0 : Int32))])) _
    refine XS.icmpNo X42.here hx rfl (hb hby at_185) rfl (feq (by decide : ¬ ((0 : Int32) = (1 : Int32)))).1 ?_
    show Steps p.tables e below (T42.setTop (mkF m 188 #[.val (.int p1), .val (.int p2), .val (.int p3), .val (.int p4), .val (.long q5), .second, .val (.int p6), .val (.int (0 : Int32)), .val (.int (own_t0 q5)), .val (.int (own_t1 q5 (8 : Int32))), .val (.int (own_t1 q5 (16 : Int32))), .val (.int (3 : Int32)), .val (.ref b2), .val (.ref b18), .val (.ref k_EMPTY), .val (.ref b35), .unset] [])) _
    refine XS.iconst X42.here hx rfl (hb hby at_188) ?_
    show Steps p.tables e below (T42.setTop (mkF m 189 #[.val (.int p1), .val (.int p2), .val (.int p3), .val (.int p4), .val (.long q5), .second, .val (.int p6), .val (.int (0 : Int32)), .val (.int (own_t0 q5)), .val (.int (own_t1 q5 (8 : Int32))), .val (.int (own_t1 q5 (16 : Int32))), .val (.int (3 : Int32)), .val (.ref b2), .val (.ref b18), .val (.ref k_EMPTY), .val (.ref b35), .unset] [(.int (1 : Int32))])) _
    refine XS.goto X42.here hx rfl (pc0 := 189) (pc' := 193) rfl (hb hby at_189) (by decide) (by decide) ?_
    show Steps p.tables e below (T42.setTop (mkF m 193 #[.val (.int p1), .val (.int p2), .val (.int p3), .val (.int p4), .val (.long q5), .second, .val (.int p6), .val (.int (0 : Int32)), .val (.int (own_t0 q5)), .val (.int (own_t1 q5 (8 : Int32))), .val (.int (own_t1 q5 (16 : Int32))), .val (.int (3 : Int32)), .val (.ref b2), .val (.ref b18), .val (.ref k_EMPTY), .val (.ref b35), .unset] [(.int (1 : Int32))])) _
    refine XS.istore X42.here hx rfl (hb hby at_193) rfl (l' := #[.val (.int p1), .val (.int p2), .val (.int p3), .val (.int p4), .val (.long q5), .second, .val (.int p6), .val (.int (0 : Int32)), .val (.int (own_t0 q5)), .val (.int (own_t1 q5 (8 : Int32))), .val (.int (own_t1 q5 (16 : Int32))), .val (.int (3 : Int32)), .val (.ref b2), .val (.ref b18), .val (.ref k_EMPTY), .val (.ref b35), .val (.int (1 : Int32))]) rfl ?_
    show Steps p.tables e below (T42.setTop (mkF m 195 #[.val (.int p1), .val (.int p2), .val (.int p3), .val (.int p4), .val (.long q5), .second, .val (.int p6), .val (.int (0 : Int32)), .val (.int (own_t0 q5)), .val (.int (own_t1 q5 (8 : Int32))), .val (.int (own_t1 q5 (16 : Int32))), .val (.int (3 : Int32)), .val (.ref b2), .val (.ref b18), .val (.ref k_EMPTY), .val (.ref b35), .val (.int (1 : Int32))] [])) _
    refine XS.aload X42.here hx rfl (hb hby at_195) rfl rfl ?_
    show Steps p.tables e below (T42.setTop (mkF m 197 #[.val (.int p1), .val (.int p2), .val (.int p3), .val (.int p4), .val (.long q5), .second, .val (.int p6), .val (.int (0 : Int32)), .val (.int (own_t0 q5)), .val (.int (own_t1 q5 (8 : Int32))), .val (.int (own_t1 q5 (16 : Int32))), .val (.int (3 : Int32)), .val (.ref b2), .val (.ref b18), .val (.ref k_EMPTY), .val (.ref b35), .val (.int (1 : Int32))] [(.ref b35)])) _
    refine st46.trans ?_
    show Steps p.tables e below (T46.setTop (mkF m 200 #[.val (.int p1), .val (.int p2), .val (.int p3), .val (.int p4), .val (.long q5), .second, .val (.int p6), .val (.int (0 : Int32)), .val (.int (own_t0 q5)), .val (.int (own_t1 q5 (8 : Int32))), .val (.int (own_t1 q5 (16 : Int32))), .val (.int (3 : Int32)), .val (.ref b2), .val (.ref b18), .val (.ref k_EMPTY), .val (.ref b35), .val (.int (1 : Int32))] [(.int (1 : Int32))])) _
    refine XS.iload X46.here hx rfl (hb hby at_200) rfl ?_
    show Steps p.tables e below (T46.setTop (mkF m 202 #[.val (.int p1), .val (.int p2), .val (.int p3), .val (.int p4), .val (.long q5), .second, .val (.int p6), .val (.int (0 : Int32)), .val (.int (own_t0 q5)), .val (.int (own_t1 q5 (8 : Int32))), .val (.int (own_t1 q5 (16 : Int32))), .val (.int (3 : Int32)), .val (.ref b2), .val (.ref b18), .val (.ref k_EMPTY), .val (.ref b35), .val (.int (1 : Int32))] [(.int (1 : Int32)), (.int (1 : Int32))])) _
    refine XS.icmpNo X46.here hx rfl (hb hby at_202) rfl (teq (rfl : (1 : Int32) = (1 : Int32))).2 ?_
    show Steps p.tables e below (T46.setTop (mkF m 205 #[.val (.int p1), .val (.int p2), .val (.int p3), .val (.int p4), .val (.long q5), .second, .val (.int p6), .val (.int (0 : Int32)), .val (.int (own_t0 q5)), .val (.int (own_t1 q5 (8 : Int32))), .val (.int (own_t1 q5 (16 : Int32))), .val (.int (3 : Int32)), .val (.ref b2), .val (.ref b18), .val (.ref k_EMPTY), .val (.ref b35), .val (.int (1 : Int32))] [])) _
    refine XS.iconst X46.here hx rfl (hb hby at_205) ?_
    show Steps p.tables e below (T46.setTop (mkF m 206 #[.val (.int p1), .val (.int p2), .val (.int p3), .val (.int p4), .val (.long q5), .second, .val (.int p6), .val (.int (0 : Int32)), .val (.int (own_t0 q5)), .val (.int (own_t1 q5 (8 : Int32))), .val (.int (own_t1 q5 (16 : Int32))), .val (.int (3 : Int32)), .val (.ref b2), .val (.ref b18), .val (.ref k_EMPTY), .val (.ref b35), .val (.int (1 : Int32))] [(.int (1 : Int32))])) _
    refine XS.goto X46.here hx rfl (pc0 := 206) (pc' := 210) rfl (hb hby at_206) (by decide) (by decide) ?_
    show Steps p.tables e below (T46.setTop (mkF m 210 #[.val (.int p1), .val (.int p2), .val (.int p3), .val (.int p4), .val (.long q5), .second, .val (.int p6), .val (.int (0 : Int32)), .val (.int (own_t0 q5)), .val (.int (own_t1 q5 (8 : Int32))), .val (.int (own_t1 q5 (16 : Int32))), .val (.int (3 : Int32)), .val (.ref b2), .val (.ref b18), .val (.ref k_EMPTY), .val (.ref b35), .val (.int (1 : Int32))] [(.int (1 : Int32))])) _
    exact retN X46 hx (t := .boolean) Bd.returns (by simp) (hb hby at_210) hr
  · show own_Qlaw h0 n0 _ T46.heap _
    exact ⟨rfl, N46⟩
theorem own_eflaw31 (m : MethodId) (p1 : Int32) (p2 : Int32) (p3 : Int32) (p4 : Int32) (q5 : Int64) (p6 : Int32) : entryFrame m #[(.int p1), (.int p2), (.int p3), (.int p4), (.long q5), (.int p6)] maxLocals = mkF m 0 #[.val (.int p1), .val (.int p2), .val (.int p3), .val (.int p4), .val (.long q5), .second, .val (.int p6), .unset, .unset, .unset, .unset, .unset, .unset, .unset, .unset, .unset, .unset] [] := by first | (simp [entryFrame, mkF, argsToLocals, Value.category, maxLocals]; done) | rfl
set_option maxRecDepth 65536 in
set_option maxHeartbeats 40000000 in
theorem own_law31 (l : Launch) (Z : State) (a0 : Array Value) (hw : ∀ d ∈ tables_1, d.before a0 Z = true) (ws : List Jvm.Cond) (G1 : Int32) (k_EMPTY : Addr) (gl : own_Glob Z G1 k_EMPTY) (p1 : Int32) (p2 : Int32) (p3 : Int32) (p4 : Int32) (q5 : Int64) (p6 : Int32) (h0 : Heap) (n0 : Nat) (Z0 : n0 ≤ h0.size) (X00 : Old Z n0 h0) (hk : own_kd p4 = 1) (hn : ¬ ((own_a3 p6) < (2 : Int32))) :
    MetFree l x (head1 (Jvm.Cond.code x code maxLocals ret :: ws) room_1) (fun a U => a = #[(.int p1), (.int p2), (.int p3), (.int p4), (.long q5), (.int p6)] ∧ Z.Warmed39 U.vm ∧ U.heap = h0) (fun _ _ _ _ _ => True) (fun _ U o U' => ∃ v L, o = .returned v ∧ own_Qlaw h0 n0 v U'.heap L ∧ ReturnedEndW U o U' L room_1.cells room_1.slots) := by
  refine MetFree.of_bodySF (plainFor_of_name own_pn15) hisR ?_
  intro p e s m args below meth c s₁ Bd hml0 hP hK
  obtain ⟨rfl, hZ, hh⟩ := hP
  obtain ⟨O_CS, P_CS, O_EMPTY, E_EMPTY, F_EMPTY⟩ := id gl
  have hx := Bd.exec
  have hby := Bd.bytes
  have hml : c.maxLocals = 17 := hml0
  have hown : s.vm.findClass "com/example/leftmost/leftmost/tree/NodeIsLeafPinLaw" = some m.cls := findClass_of_methodNamed Bd.named
  have hnm := (name_of_methodNamed Bd.named Bd.method).1
  have X0 : Stand p l e room_1 s m #[(.int p1), (.int p2), (.int p3), (.int p4), (.long q5), (.int p6)] below meth c s₁ [] 0 0 := Stand.of_body Bd
  have e0 : s₁.heap = h0 := by rw [← hh, Bd.state]; rfl
  have N0 := Fr.nil n0
  have pre0 : ∀ t, Steps p.tables e below (s₁.setTop (mkF m 0 #[.val (.int p1), .val (.int p2), .val (.int p3), .val (.int p4), .val (.long q5), .second, .val (.int p6), .unset, .unset, .unset, .unset, .unset, .unset, .unset, .unset, .unset, .unset] [])) t → Steps p.tables e below (s₁.setTop (entryFrame m #[(.int p1), (.int p2), (.int p3), (.int p4), (.long q5), (.int p6)] maxLocals)) t := fun t k => castTop (own_eflaw31 m p1 p2 p3 p4 q5 p6) k
  obtain ⟨_, _, ⟨T1, L1, k1, n1⟩, -, X1, ⟨Lc1, hQ1, l1, y1, z1⟩, st1⟩ := Jvm.LawKit.callS X0 hx (y := (⟨"java/lang/Math", "min", "(II)I"⟩ : MethodName)) hown (mvT hZ (hw _ (List.mem_of_getElem? (i := 2) rfl))) (mvT hZ (hw _ (List.mem_of_getElem? (i := 3) rfl))) (mvT hZ (hw _ (List.mem_of_getElem? (i := 4) rfl))) (mvT hZ (hw _ (List.mem_of_getElem? (i := 5) rfl))) (by decide) (backOf (W := 1) (own_rm_minL l Z a0 hw [] G1 k_EMPTY gl (2 : Int32) (own_a3 p6) h0 n0 Z0 (hn : ¬ ((own_a3 p6) < (2 : Int32)))) hZ (hw _ (List.mem_of_getElem? (i := 5) rfl)) (hw _ (List.mem_of_getElem? (i := 4) rfl)) (by decide) (by decide)) (g := (mkF m 50 #[.val (.int p1), .val (.int p2), .val (.int p3), .val (.int p4), .val (.long q5), .second, .val (.int p6), .val (.int (1 : Int32)), .val (.int (own_t0 q5)), .val (.int (own_t1 q5 (8 : Int32))), .val (.int (own_t1 q5 (16 : Int32))), .unset, .unset, .unset, .unset, .unset, .unset] [(.int (own_a3 p6)), (.int (2 : Int32)), (.int (1 : Int32))])) rfl (by rw [hml]; rfl) (argsL := [(.int (2 : Int32)), (.int (own_a3 p6))]) (rest := [(.int (1 : Int32))]) (lenOf own_pd11 rfl) rfl (by show 2 * 0 + _ ≤ _; exact Nat.le_of_eq rfl) (hb hby at_50) (fun _ _ => ⟨rfl, e0, (by decide : 0 + 0 ≤ _), (by decide : 0 + 0 ≤ _)⟩)
  dsimp only [Pt.U, Pt.locs, Pt.cells, Pt.slots] at X1 l1 y1 z1 st1 hQ1
  subst y1 z1
  obtain ⟨rfl, Nq1, e1⟩ := hQ1
  have N1 : Fr n0 L1 := by rw [l1]; exact Fr.app N0 Nq1
  obtain ⟨T2, h2, k2, X2, e2, E2, A2, st2⟩ := newP X1 hx hZ (hw _ (List.mem_of_getElem? (i := 6) rfl)) e1 (g := (mkF m 100 #[.val (.int p1), .val (.int p2), .val (.int p3), .val (.int p4), .val (.long q5), .second, .val (.int p6), .val (.int (1 : Int32)), .val (.int (own_t0 q5)), .val (.int (own_t1 q5 (8 : Int32))), .val (.int (own_t1 q5 (16 : Int32))), .val (.int (3 : Int32)), .unset, .unset, .unset, .unset, .unset] [(.int (3 : Int32))])) rfl (hb hby at_100) rfl (by decide) (cap := 3) (by decide) (by decide) (by decide) (by decide)
  obtain ⟨b2, g2⟩ : ∃ z, z = h0.size := ⟨_, rfl⟩
  rw [← g2] at A2 st2
  have Kp3 : Keep h0 h2 [] := (Keep.refl h0 []).ext E2
  have Vh4 : Arv Z h2 b2 k2 .char (3 : Int32) [(.int (0 : Int32)), (.int (0 : Int32)), (.int (0 : Int32))] (.int (0 : Int32)) := (Arv.new A2 (by decide)).pad (pad_rep [] (.int (0 : Int32)) 3)
  obtain ⟨cl5, Ar5, qc5, Sz5, Ng5, Hs5, Gs5⟩ := id Vh4
  have hin5 : ¬ ((0 : Int32) < 0 ∨ cl5.slots.size ≤ ((0 : Int32)).toNatClampNeg) := inb_of Sz5 ⟨(by decide), (by decide)⟩
  obtain ⟨T6, h6, X6, e6, W6, st6⟩ := stC X2 hx hZ e2 Ar5 (j := (0 : Int32)) hin5 (g := (mkF m 106 #[.val (.int p1), .val (.int p2), .val (.int p3), .val (.int p4), .val (.long q5), .second, .val (.int p6), .val (.int (1 : Int32)), .val (.int (own_t0 q5)), .val (.int (own_t1 q5 (8 : Int32))), .val (.int (own_t1 q5 (16 : Int32))), .val (.int (3 : Int32)), .unset, .unset, .unset, .unset, .unset] [(.int (own_t0 q5)), (.int (0 : Int32)), (.ref b2), (.ref b2)])) rfl rfl (hb hby at_106)
  have Kp7 : Keep h0 h6 [] := Kp3.wr W6 (Or.inr (Nat.le_trans (Keep.refl h0 []).1 (Nat.le_of_eq g2.symm)))
  have gh8 : n0 ≤ b2 := Nat.le_trans Z0 (Nat.le_of_eq g2.symm)
  obtain ⟨Lp6, X6, N6⟩ := own_pack X6 (Fr.snoc X6 N1 gh8)
  have Vh9 : Arv Z h6 b2 k2 .char (3 : Int32) [(.int (own_n0 q5)), (.int (0 : Int32)), (.int (0 : Int32))] (.int (0 : Int32)) := (Arv.set Ar5 qc5 Sz5 Ng5 Hs5 Gs5 (fits_nar_char _) W6 0 rfl (Nat.le_of_ble_eq_true rfl))
  obtain ⟨cl10, Ar10, qc10, Sz10, Ng10, Hs10, Gs10⟩ := id Vh9
  have hin10 : ¬ ((1 : Int32) < 0 ∨ cl10.slots.size ≤ ((1 : Int32)).toNatClampNeg) := inb_of Sz10 ⟨(by decide), (by decide)⟩
  obtain ⟨T11, h11, X11, e11, W11, st11⟩ := stC X6 hx hZ e6 Ar10 (j := (1 : Int32)) hin10 (g := (mkF m 111 #[.val (.int p1), .val (.int p2), .val (.int p3), .val (.int p4), .val (.long q5), .second, .val (.int p6), .val (.int (1 : Int32)), .val (.int (own_t0 q5)), .val (.int (own_t1 q5 (8 : Int32))), .val (.int (own_t1 q5 (16 : Int32))), .val (.int (3 : Int32)), .unset, .unset, .unset, .unset, .unset] [(.int (own_t1 q5 (8 : Int32))), (.int (1 : Int32)), (.ref b2), (.ref b2)])) rfl rfl (hb hby at_111)
  have Kp12 : Keep h0 h11 [] := Kp7.wr W11 (Or.inr (Nat.le_trans (Keep.refl h0 []).1 (Nat.le_of_eq g2.symm)))
  obtain ⟨Lp11, X11, N11⟩ := own_pack X11 (Fr.snoc X11 N6 gh8)
  have Vh13 : Arv Z h11 b2 k2 .char (3 : Int32) [(.int (own_n0 q5)), (.int (own_n1 q5 (8 : Int32))), (.int (0 : Int32))] (.int (0 : Int32)) := (Arv.set Ar10 qc10 Sz10 Ng10 Hs10 Gs10 (fits_nar_char _) W11 1 rfl (Nat.le_of_ble_eq_true rfl))
  obtain ⟨cl14, Ar14, qc14, Sz14, Ng14, Hs14, Gs14⟩ := id Vh13
  have hin14 : ¬ ((2 : Int32) < 0 ∨ cl14.slots.size ≤ ((2 : Int32)).toNatClampNeg) := inb_of Sz14 ⟨(by decide), (by decide)⟩
  obtain ⟨T15, h15, X15, e15, W15, st15⟩ := stC X11 hx hZ e11 Ar14 (j := (2 : Int32)) hin14 (g := (mkF m 116 #[.val (.int p1), .val (.int p2), .val (.int p3), .val (.int p4), .val (.long q5), .second, .val (.int p6), .val (.int (1 : Int32)), .val (.int (own_t0 q5)), .val (.int (own_t1 q5 (8 : Int32))), .val (.int (own_t1 q5 (16 : Int32))), .val (.int (3 : Int32)), .unset, .unset, .unset, .unset, .unset] [(.int (own_t1 q5 (16 : Int32))), (.int (2 : Int32)), (.ref b2), (.ref b2)])) rfl rfl (hb hby at_116)
  have Kp16 : Keep h0 h15 [] := Kp12.wr W15 (Or.inr (Nat.le_trans (Keep.refl h0 []).1 (Nat.le_of_eq g2.symm)))
  obtain ⟨Lp15, X15, N15⟩ := own_pack X15 (Fr.snoc X15 N11 gh8)
  have Vh17 : Arv Z h15 b2 k2 .char (3 : Int32) [(.int (own_n0 q5)), (.int (own_n1 q5 (8 : Int32))), (.int (own_n1 q5 (16 : Int32)))] (.int (0 : Int32)) := (Arv.set Ar14 qc14 Sz14 Ng14 Hs14 Gs14 (fits_nar_char _) W15 2 rfl (Nat.le_of_ble_eq_true rfl))
  obtain ⟨T18, h18, X18, e18, E18, A18, D18, U18, st18⟩ := newO X15 hx hZ hown (hw _ (List.mem_of_getElem? (i := 7) rfl)) (hw _ (List.mem_of_getElem? (i := 8) rfl)) (hw _ (List.mem_of_getElem? (i := 9) rfl)) e15 (g := (mkF m 119 #[.val (.int p1), .val (.int p2), .val (.int p3), .val (.int p4), .val (.long q5), .second, .val (.int p6), .val (.int (1 : Int32)), .val (.int (own_t0 q5)), .val (.int (own_t1 q5 (8 : Int32))), .val (.int (own_t1 q5 (16 : Int32))), .val (.int (3 : Int32)), .val (.ref b2), .unset, .unset, .unset, .unset] [])) rfl (hb hby at_119) (by decide) (by decide)
  obtain ⟨b18, g18⟩ : ∃ z, z = h15.size := ⟨_, rfl⟩
  rw [← g18] at A18 D18 U18 st18
  have Kp19 : Keep h0 h18 [] := Kp16.ext E18
  have Fh20 : Fld Z h18 b18 "java/lang/String" "value" "[B" .null := (D18 (Or.inr (hw _ (List.mem_of_getElem? (i := 35) rfl))) (ty := (.array .byte)) (by decide))
  have Fh21 : Fld Z h18 b18 "java/lang/String" "coder" "B" (.int (0 : Int32)) := (D18 (Or.inr (hw _ (List.mem_of_getElem? (i := 33) rfl))) (ty := .byte) (by decide))
  have Vh22 : Arv Z h18 b2 k2 .char (3 : Int32) [(.int (own_n0 q5)), (.int (own_n1 q5 (8 : Int32))), (.int (own_n1 q5 (16 : Int32)))] (.int (0 : Int32)) := (Vh17.ext E18)
  have hph23 : ∀ c ∈ ([(own_n0 q5), (own_n1 q5 (8 : Int32)), (own_n1 q5 (16 : Int32))] : List Int32), ¬ c < 0 ∧ ¬ (255 : Int32) < c := (own_cS (own_rng_n0 q5) (own_cS (own_rng_n1 q5 (8 : Int32)) (own_cS (own_rng_n1 q5 (16 : Int32)) own_c0)))
  have hws_words : ∀ d ∈ StrChars.Road.words, d.before a0 Z = true := fun d hd => hw d (own_hws_words d hd)
  have Zh24 : n0 ≤ h18.size := (Nat.le_trans Z0 Kp19.1)
  have gh25 : n0 ≤ b18 := Nat.le_trans (Nat.le_trans Z0 Kp16.1) (Nat.le_of_eq g18.symm)
  have Old26 : Old Z n0 h2 := X00.ext E2
  have Old27 : Old Z n0 h6 := Old26.wr W6 gh8
  have Old28 : Old Z n0 h11 := Old27.wr W11 gh8
  have Old29 : Old Z n0 h15 := Old28.wr W15 gh8
  have Old30 : Old Z n0 h18 := Old29.ext E18
  obtain ⟨_, _, ⟨T31, L31, k31, n31⟩, -, X31, ⟨Lc31, hQ31, l31, y31, z31⟩, st31⟩ := X18.specialBack hx (y := (⟨"java/lang/String", "<init>", "([C)V"⟩ : MethodName)) rfl hown (mvT hZ (hw _ (List.mem_of_getElem? (i := 10) rfl))) (mvT hZ (hw _ (List.mem_of_getElem? (i := 11) rfl))) (mvT hZ (hw _ (List.mem_of_getElem? (i := 12) rfl))) (by decide) (StrChars.Road.backV (W := 1) hZ hws_words (kI := 4) (hw _ (List.mem_of_getElem? (i := 8) rfl)) (cs := ([(own_n0 q5), (own_n1 q5 (8 : Int32)), (own_n1 q5 (16 : Int32))] : List Int32)) (bs := ([(own_n0 q5), (own_n1 q5 (8 : Int32)), (own_n1 q5 (16 : Int32))] : List Int32).map (fun c => c.toInt8.toInt32)) (n := 3) gh25 Zh24 A18 Fh20 Fh21 Vh22 (O_CS.ext Old30.2) P_CS rfl rfl (by decide) (by decide) hph23 rfl (by decide) (by decide)) (g := (mkF m 125 #[.val (.int p1), .val (.int p2), .val (.int p3), .val (.int p4), .val (.long q5), .second, .val (.int p6), .val (.int (1 : Int32)), .val (.int (own_t0 q5)), .val (.int (own_t1 q5 (8 : Int32))), .val (.int (own_t1 q5 (16 : Int32))), .val (.int (3 : Int32)), .val (.ref b2), .unset, .unset, .unset, .unset] [(.ref b2), (.ref b18), (.ref b18)])) rfl (by rw [hml]; rfl) (Steps.refl _) (a := b18) (argsL := [(.ref b2)]) (rest := [(.ref b18)]) (lenOf own_pd12 rfl) rfl (by show 2 * 0 + _ ≤ _; exact Nat.le_of_eq rfl) (hb hby at_125) (fun _ _ => ⟨rfl, e18, (by decide : 2 + 1 ≤ _), (by decide : 7 + 3 ≤ _)⟩)
  dsimp only [Pt.U, Pt.locs, Pt.cells, Pt.slots] at X31 l31 y31 z31 st31 hQ31
  subst y31 z31
  obtain ⟨rfl, Nq31, Kq31, Eq31, Cq31, t31, kb31, gt31, szt31, nt31, Vq31, Bq31⟩ := hQ31
  have N31 : Fr n0 L31 := by rw [l31]; exact Fr.app N15 Nq31
  have Kp32 : Keep h0 T31.heap [] := Kp19.trans Kq31 (allS (Or.inr (Nat.le_trans Kp16.1 (Nat.le_of_eq g18.symm))) all0)
  obtain ⟨T33, h33, X33, e33, E33, A33, D33, U33, st33⟩ := newO X31 hx hZ hown (hw _ (List.mem_of_getElem? (i := 36) rfl)) (hw _ (List.mem_of_getElem? (i := 37) rfl)) (hw _ (List.mem_of_getElem? (i := 38) rfl)) rfl (g := (mkF m 143 #[.val (.int p1), .val (.int p2), .val (.int p3), .val (.int p4), .val (.long q5), .second, .val (.int p6), .val (.int (1 : Int32)), .val (.int (own_t0 q5)), .val (.int (own_t1 q5 (8 : Int32))), .val (.int (own_t1 q5 (16 : Int32))), .val (.int (3 : Int32)), .val (.ref b2), .val (.ref b18), .unset, .unset, .unset] [])) rfl (hb hby at_143) (by decide) (by decide)
  obtain ⟨b33, g33⟩ : ∃ z, z = T31.heap.size := ⟨_, rfl⟩
  rw [← g33] at A33 D33 U33 st33
  have Kp34 : Keep h0 h33 [] := Kp32.ext E33
  have Eh35 : Exa Z h33 b18 "java/lang/String" := (Eq31.ext E33)
  have Fh36 : Fld Z h33 b18 "java/lang/String" "value" "[B" (.ref t31) := (Vq31.ext E33)
  have Fh37 : Fld Z h33 b18 "java/lang/String" "coder" "B" (.int (0 : Int32)) := (Cq31.ext E33)
  have Vh38 : Arv Z h33 t31 kb31 .byte (3 : Int32) ((([(own_n0 q5), (own_n1 q5 (8 : Int32)), (own_n1 q5 (16 : Int32))] : List Int32).map (fun c => c.toInt8.toInt32)).map Value.int) (.int (0 : Int32)) := (Bq31.ext E33)
  have Fh39 : Fld Z h33 b33 "com/example/leftmost/leftmost/grammar/Symbol" "name" "Ljava/lang/String;" .null := (D33 (Or.inr (hw _ (List.mem_of_getElem? (i := 61) rfl))) (ty := (.object "java/lang/String")) (by decide))
  have gh40 : n0 ≤ b33 := Nat.le_trans (Nat.le_trans Z0 Kp32.1) (Nat.le_of_eq g33.symm)
  have Fh41 : Fld Z h33 b33 "com/example/leftmost/leftmost/grammar/Symbol" "isVariable" "Z" (.int (0 : Int32)) := (D33 (Or.inr (hw _ (List.mem_of_getElem? (i := 63) rfl))) (ty := .boolean) (by decide))
  have Old42 : Old Z n0 T31.heap := Old30.keep Kq31 (allS gh25 all0)
  have Old43 : Old Z n0 h33 := Old42.ext E33
  obtain ⟨_, _, ⟨T44, L44, k44, n44⟩, -, X44, hSq44, hgr44, ⟨Lc44, hQ44, l44, y44, z44⟩, st44⟩ := X33.specialBackS hx (y := (⟨"com/example/leftmost/leftmost/grammar/Symbol", "<init>", "(Ljava/lang/String;Z)V"⟩ : MethodName)) rfl hown (mvT hZ (hw _ (List.mem_of_getElem? (i := 39) rfl))) (mvT hZ (hw _ (List.mem_of_getElem? (i := 40) rfl))) (mvT hZ (hw _ (List.mem_of_getElem? (i := 41) rfl))) (by decide) (backOfS (W := 1) (own_rm_sym3 l Z a0 hw [] G1 k_EMPTY gl b33 b18 (1 : Int32) (own_n0 q5) (own_n1 q5 (8 : Int32)) (own_n1 q5 (16 : Int32)) t31 (kb31) (.null) ((.int (0 : Int32))) h33 n0 (Nat.le_trans Z0 Kp34.1) Old43 Eh35 Fh36 Fh37 Vh38 hph23 A33 Fh39 gh40 Fh41) hZ (hw _ (List.mem_of_getElem? (i := 41) rfl)) (hw _ (List.mem_of_getElem? (i := 38) rfl)) (by decide) (by decide)) (g := (mkF m 160 #[.val (.int p1), .val (.int p2), .val (.int p3), .val (.int p4), .val (.long q5), .second, .val (.int p6), .val (.int (1 : Int32)), .val (.int (own_t0 q5)), .val (.int (own_t1 q5 (8 : Int32))), .val (.int (own_t1 q5 (16 : Int32))), .val (.int (3 : Int32)), .val (.ref b2), .val (.ref b18), .unset, .unset, .unset] [(.int (1 : Int32)), (.ref b18), (.ref b33), (.ref b33)])) rfl (by rw [hml]; rfl) (Steps.refl _) (a := b33) (argsL := [(.ref b18), (.int (1 : Int32))]) (rest := [(.ref b33)]) (lenOf own_pd16 rfl) rfl (by show 2 * 0 + _ ≤ _; exact Nat.le_of_eq rfl) (hb hby at_160) (fun _ _ => ⟨rfl, e33, (by decide : 4 + 2 ≤ _), (by decide : 12 + 20 ≤ _)⟩)
  dsimp only [Pt.U, Pt.locs, Pt.cells, Pt.slots] at X44 l44 y44 z44 st44 hQ44 hSq44 hgr44
  subst y44 z44
  obtain ⟨Xw44, hS44, hZ44, hown44⟩ := rebS (vm0 := s.vm) ((State.WarmedH.refl s).since 0) (by rw [e33]; exact (Nat.zero_le _)) X44 hSq44 hgr44 hZ hown
  obtain ⟨rfl, Nq44, Kq44, f44_0, f44_1, f44_2⟩ := hQ44
  have N44 : Fr n0 L44 := by rw [l44]; exact Fr.app N31 Nq44
  have Kp45 : Keep h0 T44.heap [] := Kp34.trans Kq44 (allS (Or.inr (Nat.le_trans Kp32.1 (Nat.le_of_eq g33.symm))) all0)
  obtain ⟨_, _, ⟨T46, L46, k46, n46⟩, -, X46, ⟨Lc46, hQ46, l46, y46, z46⟩, st46⟩ := Jvm.LawKit.callS Xw44 hx (y := (⟨"java/util/Optional", "of", "(Ljava/lang/Object;)Ljava/util/Optional;"⟩ : MethodName)) hown44 (mvT hZ44 (hw _ (List.mem_of_getElem? (i := 64) rfl))) (mvT hZ44 (hw _ (List.mem_of_getElem? (i := 65) rfl))) (mvT hZ44 (hw _ (List.mem_of_getElem? (i := 66) rfl))) (mvT hZ44 (hw _ (List.mem_of_getElem? (i := 67) rfl))) (by decide) (backOf (W := 0) (own_rm_of l Z a0 hw [] G1 k_EMPTY gl b33 T44.heap n0 (Nat.le_trans Z0 Kp45.1) ) hZ44 (hw _ (List.mem_of_getElem? (i := 67) rfl)) (hw _ (List.mem_of_getElem? (i := 66) rfl)) (by decide) (by decide)) (g := (mkF m 163 #[.val (.int p1), .val (.int p2), .val (.int p3), .val (.int p4), .val (.long q5), .second, .val (.int p6), .val (.int (1 : Int32)), .val (.int (own_t0 q5)), .val (.int (own_t1 q5 (8 : Int32))), .val (.int (own_t1 q5 (16 : Int32))), .val (.int (3 : Int32)), .val (.ref b2), .val (.ref b18), .unset, .unset, .unset] [(.ref b33)])) rfl (by rw [hml]; rfl) (argsL := [(.ref b33)]) (rest := []) (lenOf own_pd17 rfl) rfl (by show 2 * 0 + _ ≤ _; exact Nat.le_of_eq rfl) (hb hby at_163) (fun _ _ => ⟨rfl, rfl, (by decide : 6 + 1 ≤ _), (by decide : 32 + 1 ≤ _)⟩)
  dsimp only [Pt.U, Pt.locs, Pt.cells, Pt.slots] at X46 l46 y46 z46 st46 hQ46
  subst y46 z46
  obtain ⟨b1_46, rfl, Nq46, Kq46, f46_0, f46_1, f46_2⟩ := hQ46
  have N46 : Fr n0 L46 := by rw [l46]; exact Fr.app N44 Nq46
  have Kp47 : Keep h0 T46.heap [] := Kp45.trans Kq46 all0
  obtain ⟨T48, h48, X48, e48, E48, A48, D48, U48, st48⟩ := newO X46 hx hZ44 hown44 (hw _ (List.mem_of_getElem? (i := 80) rfl)) (hw _ (List.mem_of_getElem? (i := 81) rfl)) (hw _ (List.mem_of_getElem? (i := 82) rfl)) rfl (g := (mkF m 168 #[.val (.int p1), .val (.int p2), .val (.int p3), .val (.int p4), .val (.long q5), .second, .val (.int p6), .val (.int (1 : Int32)), .val (.int (own_t0 q5)), .val (.int (own_t1 q5 (8 : Int32))), .val (.int (own_t1 q5 (16 : Int32))), .val (.int (3 : Int32)), .val (.ref b2), .val (.ref b18), .val (.ref b1_46), .unset, .unset] [])) rfl (hb hby at_168) (by decide) (by decide)
  obtain ⟨b48, g48⟩ : ∃ z, z = T46.heap.size := ⟨_, rfl⟩
  rw [← g48] at A48 D48 U48 st48
  have Kp49 : Keep h0 h48 [] := Kp47.ext E48
  have Fh50 : Fld Z h48 b48 "com/example/leftmost/leftmost/tree/ParseTree$Node" "index" "I" (.int (0 : Int32)) := (D48 (Or.inr (hw _ (List.mem_of_getElem? (i := 88) rfl))) (ty := .int) (by decide))
  have gh51 : n0 ≤ b48 := Nat.le_trans (Nat.le_trans Z0 Kp47.1) (Nat.le_of_eq g48.symm)
  have Fh52 : Fld Z h48 b48 "com/example/leftmost/leftmost/tree/ParseTree$Node" "parent" "I" (.int (0 : Int32)) := (D48 (Or.inr (hw _ (List.mem_of_getElem? (i := 90) rfl))) (ty := .int) (by decide))
  have Fh53 : Fld Z h48 b48 "com/example/leftmost/leftmost/tree/ParseTree$Node" "depth" "I" (.int (0 : Int32)) := (D48 (Or.inr (hw _ (List.mem_of_getElem? (i := 92) rfl))) (ty := .int) (by decide))
  have Fh54 : Fld Z h48 b48 "com/example/leftmost/leftmost/tree/ParseTree$Node" "symbol" "Ljava/util/Optional;" .null := (D48 (Or.inr (hw _ (List.mem_of_getElem? (i := 94) rfl))) (ty := (.object "java/util/Optional")) (by decide))
  obtain ⟨_, _, ⟨T55, L55, k55, n55⟩, -, X55, ⟨Lc55, hQ55, l55, y55, z55⟩, st55⟩ := X48.specialBack hx (y := (⟨"com/example/leftmost/leftmost/tree/ParseTree$Node", "<init>", "(IIILjava/util/Optional;)V"⟩ : MethodName)) rfl hown44 (mvT hZ44 (hw _ (List.mem_of_getElem? (i := 83) rfl))) (mvT hZ44 (hw _ (List.mem_of_getElem? (i := 84) rfl))) (mvT hZ44 (hw _ (List.mem_of_getElem? (i := 85) rfl))) (by decide) (backOf (W := 1) (own_rm_node l Z a0 hw [] G1 k_EMPTY gl b48 p1 p2 p3 b1_46 ((.int (0 : Int32))) ((.int (0 : Int32))) ((.int (0 : Int32))) (.null) h48 n0 (Nat.le_trans Z0 Kp49.1) A48 Fh50 gh51 Fh52 Fh53 Fh54) hZ44 (hw _ (List.mem_of_getElem? (i := 85) rfl)) (hw _ (List.mem_of_getElem? (i := 82) rfl)) (by decide) (by decide)) (g := (mkF m 177 #[.val (.int p1), .val (.int p2), .val (.int p3), .val (.int p4), .val (.long q5), .second, .val (.int p6), .val (.int (1 : Int32)), .val (.int (own_t0 q5)), .val (.int (own_t1 q5 (8 : Int32))), .val (.int (own_t1 q5 (16 : Int32))), .val (.int (3 : Int32)), .val (.ref b2), .val (.ref b18), .val (.ref b1_46), .unset, .unset] [(.ref b1_46), (.int p3), (.int p2), (.int p1), (.ref b48), (.ref b48)])) rfl (by rw [hml]; rfl) (Steps.refl _) (a := b48) (argsL := [(.int p1), (.int p2), (.int p3), (.ref b1_46)]) (rest := [(.ref b48)]) (lenOf own_pd14 rfl) rfl (by show 2 * 0 + _ ≤ _; exact Nat.le_of_eq rfl) (hb hby at_177) (fun _ _ => ⟨rfl, e48, (by decide : 8 + 0 ≤ _), (by decide : 37 + 0 ≤ _)⟩)
  dsimp only [Pt.U, Pt.locs, Pt.cells, Pt.slots] at X55 l55 y55 z55 st55 hQ55
  subst y55 z55
  obtain ⟨rfl, Nq55, Kq55, f55_0, f55_1, f55_2, f55_3, f55_4⟩ := hQ55
  have N55 : Fr n0 L55 := by rw [l55]; exact Fr.app N46 Nq55
  have Kp56 : Keep h0 T55.heap [] := Kp49.trans Kq55 (allS (Or.inr (Nat.le_trans Kp47.1 (Nat.le_of_eq g48.symm))) all0)
  have Eh57 : Exa Z T55.heap b1_46 "java/util/Optional" := ((f46_1.ext E48).keep Kq55)
  have Fh58 : Fld Z T55.heap b1_46 "java/util/Optional" "value" "Ljava/lang/Object;" (.ref b33) := ((f46_2.ext E48).keep Kq55 (ninS (Nat.ne_of_lt (Nat.lt_of_lt_of_le f46_1.lt (Nat.le_of_eq g48.symm))) nin0))
  have Eh59 : Exa Z T55.heap b33 "com/example/leftmost/leftmost/grammar/Symbol" := (((f44_0.keep Kq46).ext E48).keep Kq55)
  have Fh60 : Fld Z T55.heap b33 "com/example/leftmost/leftmost/grammar/Symbol" "isVariable" "Z" (.int (1 : Int32)) := (((f44_2.keep Kq46 nin0).ext E48).keep Kq55 (ninS (Nat.ne_of_lt (Nat.lt_of_lt_of_le (f44_0.keep Kq46).lt (Nat.le_of_eq g48.symm))) nin0))
  obtain ⟨cq61, kq61, q61a, q61b, q61c⟩ := isOf hZ44 rfl f55_0
  obtain ⟨_, _, ⟨T61, L61, k61, n61⟩, -, X61, ⟨Lc61, hQ61, l61, y61, z61⟩, st61⟩ := X55.virtualBack hx (y := (⟨"com/example/leftmost/leftmost/tree/ParseTree$Node", "isLeaf", "()Z"⟩ : MethodName)) (z := (⟨"com/example/leftmost/leftmost/tree/ParseTree$Node", "isLeaf", "()Z"⟩ : MethodName)) hown44 (mvT hZ44 (hw _ (List.mem_of_getElem? (i := 95) rfl))) (mvT hZ44 (hw _ (List.mem_of_getElem? (i := 96) rfl))) (notFace_of_selects (args := #[]) (mvT hZ44 (hw _ (List.mem_of_getElem? (i := 98) rfl)))) (mvT hZ44 (hw _ (List.mem_of_getElem? (i := 98) rfl))) (mvT hZ44 (hw _ (List.mem_of_getElem? (i := 97) rfl))) (by decide) (backOf (W := 0) (own_rm_leaf1 l Z a0 hw [] G1 k_EMPTY gl b48 b1_46 b33 T55.heap n0 (Nat.le_trans Z0 Kp56.1) f55_4 Eh57 Fh58 Eh59 Fh60) hZ44 (hw _ (List.mem_of_getElem? (i := 99) rfl)) (hw _ (List.mem_of_getElem? (i := 82) rfl)) (by decide) (by decide)) q61a q61c (g := (mkF m 197 #[.val (.int p1), .val (.int p2), .val (.int p3), .val (.int p4), .val (.long q5), .second, .val (.int p6), .val (.int (1 : Int32)), .val (.int (own_t0 q5)), .val (.int (own_t1 q5 (8 : Int32))), .val (.int (own_t1 q5 (16 : Int32))), .val (.int (3 : Int32)), .val (.ref b2), .val (.ref b18), .val (.ref b1_46), .val (.ref b48), .val (.int (0 : Int32))] [(.ref b48)])) rfl (by rw [hml]; rfl) (Steps.refl _) (argsL := []) (rest := []) (lenOf own_pd7 rfl) rfl (by show 2 * 0 + _ ≤ _; exact Nat.le_of_eq rfl) (hb hby at_197) (fun _ _ => ⟨rfl, rfl, (by decide : 8 + 0 ≤ _), (by decide : 37 + 0 ≤ _)⟩)
  dsimp only [Pt.U, Pt.locs, Pt.cells, Pt.slots] at X61 l61 y61 z61 st61 hQ61
  subst y61 z61
  obtain ⟨rfl, Nq61, e61⟩ := hQ61
  have N61 : Fr n0 L61 := by rw [l61]; exact Fr.app N55 Nq61
  obtain ⟨fs, hr, hrun, hended, hREW⟩ := X61.leaveW hS44 (by rw [e61]; exact (Nat.le_trans (Nat.le_refl _) (Nat.le_trans (Nat.le_trans Kq46.1 E48.1) Kq55.1))) (v := some (.int (1 : Int32))) (fun h => by rw [Bd.returns] at h; cases h)
  refine ⟨_, _, pre0 _ ?_, hrun, hended, _, _, rfl, ?_, hREW.1, hREW.2.1, hREW.2.2.1, hREW.2.2.2.mono (by decide) (by decide)⟩
  · show Steps p.tables e below (s₁.setTop (mkF m 0 #[.val (.int p1), .val (.int p2), .val (.int p3), .val (.int p4), .val (.long q5), .second, .val (.int p6), .unset, .unset, .unset, .unset, .unset, .unset, .unset, .unset, .unset, .unset] [])) _
    refine XS.iloadN X0.here hx rfl (hb hby at_0) rfl ?_
    show Steps p.tables e below (s₁.setTop (mkF m 1 #[.val (.int p1), .val (.int p2), .val (.int p3), .val (.int p4), .val (.long q5), .second, .val (.int p6), .unset, .unset, .unset, .unset, .unset, .unset, .unset, .unset, .unset, .unset] [(.int p4)])) _
    refine X0.ldcInt hx hown (mvT hZ (hw _ (List.mem_of_getElem? (i := 0) rfl))) (g := (mkF m 1 #[.val (.int p1), .val (.int p2), .val (.int p3), .val (.int p4), .val (.long q5), .second, .val (.int p6), .unset, .unset, .unset, .unset, .unset, .unset, .unset, .unset, .unset, .unset] [(.int p4)])) rfl (hb hby at_1) _ ?_
    show Steps p.tables e below (s₁.setTop (mkF m 3 #[.val (.int p1), .val (.int p2), .val (.int p3), .val (.int p4), .val (.long q5), .second, .val (.int p6), .unset, .unset, .unset, .unset, .unset, .unset, .unset, .unset, .unset, .unset] [(.int (2147483647 : Int32)), (.int p4)])) _
    refine XS.iand X0.here hx rfl (hb hby at_3) rfl ?_
    show Steps p.tables e below (s₁.setTop (mkF m 4 #[.val (.int p1), .val (.int p2), .val (.int p3), .val (.int p4), .val (.long q5), .second, .val (.int p6), .unset, .unset, .unset, .unset, .unset, .unset, .unset, .unset, .unset, .unset] [(.int (p4 &&& (2147483647 : Int32)))])) _
    refine XS.iconst X0.here hx rfl (hb hby at_4) ?_
    show Steps p.tables e below (s₁.setTop (mkF m 5 #[.val (.int p1), .val (.int p2), .val (.int p3), .val (.int p4), .val (.long q5), .second, .val (.int p6), .unset, .unset, .unset, .unset, .unset, .unset, .unset, .unset, .unset, .unset] [(.int (3 : Int32)), (.int (p4 &&& (2147483647 : Int32)))])) _
    refine iremM X0 hx rfl (hb hby at_5) rfl (by decide) ?_
    show Steps p.tables e below (s₁.setTop (mkF m 6 #[.val (.int p1), .val (.int p2), .val (.int p3), .val (.int p4), .val (.long q5), .second, .val (.int p6), .unset, .unset, .unset, .unset, .unset, .unset, .unset, .unset, .unset, .unset] [(.int (own_kd p4))])) _
    rw [hk]
    show Steps p.tables e below (s₁.setTop (mkF m 6 #[.val (.int p1), .val (.int p2), .val (.int p3), .val (.int p4), .val (.long q5), .second, .val (.int p6), .unset, .unset, .unset, .unset, .unset, .unset, .unset, .unset, .unset, .unset] [(.int (1 : Int32))])) _
    refine XS.istore X0.here hx rfl (hb hby at_6) rfl (l' := #[.val (.int p1), .val (.int p2), .val (.int p3), .val (.int p4), .val (.long q5), .second, .val (.int p6), .val (.int (1 : Int32)), .unset, .unset, .unset, .unset, .unset, .unset, .unset, .unset, .unset]) rfl ?_
    show Steps p.tables e below (s₁.setTop (mkF m 8 #[.val (.int p1), .val (.int p2), .val (.int p3), .val (.int p4), .val (.long q5), .second, .val (.int p6), .val (.int (1 : Int32)), .unset, .unset, .unset, .unset, .unset, .unset, .unset, .unset, .unset] [])) _
    refine XS.lload X0.here hx rfl (hb hby at_8) rfl ?_
    show Steps p.tables e below (s₁.setTop (mkF m 10 #[.val (.int p1), .val (.int p2), .val (.int p3), .val (.int p4), .val (.long q5), .second, .val (.int p6), .val (.int (1 : Int32)), .unset, .unset, .unset, .unset, .unset, .unset, .unset, .unset, .unset] [(.long q5)])) _
    refine X0.ldc2Long hx hown (mvT hZ (hw _ (List.mem_of_getElem? (i := 1) rfl))) (g := (mkF m 10 #[.val (.int p1), .val (.int p2), .val (.int p3), .val (.int p4), .val (.long q5), .second, .val (.int p6), .val (.int (1 : Int32)), .unset, .unset, .unset, .unset, .unset, .unset, .unset, .unset, .unset] [(.long q5)])) rfl (hb hby at_10) _ ?_
    show Steps p.tables e below (s₁.setTop (mkF m 13 #[.val (.int p1), .val (.int p2), .val (.int p3), .val (.int p4), .val (.long q5), .second, .val (.int p6), .val (.int (1 : Int32)), .unset, .unset, .unset, .unset, .unset, .unset, .unset, .unset, .unset] [(.long (255 : Int64)), (.long q5)])) _
    refine XS.land X0.here hx rfl (hb hby at_13) rfl ?_
    show Steps p.tables e below (s₁.setTop (mkF m 14 #[.val (.int p1), .val (.int p2), .val (.int p3), .val (.int p4), .val (.long q5), .second, .val (.int p6), .val (.int (1 : Int32)), .unset, .unset, .unset, .unset, .unset, .unset, .unset, .unset, .unset] [(.long (q5 &&& (255 : Int64)))])) _
    refine XS.l2i X0.here hx rfl (hb hby at_14) rfl ?_
    show Steps p.tables e below (s₁.setTop (mkF m 15 #[.val (.int p1), .val (.int p2), .val (.int p3), .val (.int p4), .val (.long q5), .second, .val (.int p6), .val (.int (1 : Int32)), .unset, .unset, .unset, .unset, .unset, .unset, .unset, .unset, .unset] [(.int ((q5 &&& (255 : Int64)).toInt32))])) _
    refine XS.i2c X0.here hx rfl (hb hby at_15) rfl ?_
    show Steps p.tables e below (s₁.setTop (mkF m 16 #[.val (.int p1), .val (.int p2), .val (.int p3), .val (.int p4), .val (.long q5), .second, .val (.int p6), .val (.int (1 : Int32)), .unset, .unset, .unset, .unset, .unset, .unset, .unset, .unset, .unset] [(.int (own_t0 q5))])) _
    refine XS.istore X0.here hx rfl (hb hby at_16) rfl (l' := #[.val (.int p1), .val (.int p2), .val (.int p3), .val (.int p4), .val (.long q5), .second, .val (.int p6), .val (.int (1 : Int32)), .val (.int (own_t0 q5)), .unset, .unset, .unset, .unset, .unset, .unset, .unset, .unset]) rfl ?_
    show Steps p.tables e below (s₁.setTop (mkF m 18 #[.val (.int p1), .val (.int p2), .val (.int p3), .val (.int p4), .val (.long q5), .second, .val (.int p6), .val (.int (1 : Int32)), .val (.int (own_t0 q5)), .unset, .unset, .unset, .unset, .unset, .unset, .unset, .unset] [])) _
    refine XS.lload X0.here hx rfl (hb hby at_18) rfl ?_
    show Steps p.tables e below (s₁.setTop (mkF m 20 #[.val (.int p1), .val (.int p2), .val (.int p3), .val (.int p4), .val (.long q5), .second, .val (.int p6), .val (.int (1 : Int32)), .val (.int (own_t0 q5)), .unset, .unset, .unset, .unset, .unset, .unset, .unset, .unset] [(.long q5)])) _
    refine XS.bipush X0.here hx rfl (hb hby at_20) ?_
    show Steps p.tables e below (s₁.setTop (mkF m 22 #[.val (.int p1), .val (.int p2), .val (.int p3), .val (.int p4), .val (.long q5), .second, .val (.int p6), .val (.int (1 : Int32)), .val (.int (own_t0 q5)), .unset, .unset, .unset, .unset, .unset, .unset, .unset, .unset] [(.int (8 : Int32)), (.long q5)])) _
    refine XS.lushr X0.here hx rfl (hb hby at_22) rfl ?_
    show Steps p.tables e below (s₁.setTop (mkF m 23 #[.val (.int p1), .val (.int p2), .val (.int p3), .val (.int p4), .val (.long q5), .second, .val (.int p6), .val (.int (1 : Int32)), .val (.int (own_t0 q5)), .unset, .unset, .unset, .unset, .unset, .unset, .unset, .unset] [(.long ((q5.toUInt64 >>> ((8 : Int32) &&& 0x3f).toInt64.toUInt64).toInt64))])) _
    refine X0.ldc2Long hx hown (mvT hZ (hw _ (List.mem_of_getElem? (i := 1) rfl))) (g := (mkF m 23 #[.val (.int p1), .val (.int p2), .val (.int p3), .val (.int p4), .val (.long q5), .second, .val (.int p6), .val (.int (1 : Int32)), .val (.int (own_t0 q5)), .unset, .unset, .unset, .unset, .unset, .unset, .unset, .unset] [(.long ((q5.toUInt64 >>> ((8 : Int32) &&& 0x3f).toInt64.toUInt64).toInt64))])) rfl (hb hby at_23) _ ?_
    show Steps p.tables e below (s₁.setTop (mkF m 26 #[.val (.int p1), .val (.int p2), .val (.int p3), .val (.int p4), .val (.long q5), .second, .val (.int p6), .val (.int (1 : Int32)), .val (.int (own_t0 q5)), .unset, .unset, .unset, .unset, .unset, .unset, .unset, .unset] [(.long (255 : Int64)), (.long ((q5.toUInt64 >>> ((8 : Int32) &&& 0x3f).toInt64.toUInt64).toInt64))])) _
    refine XS.land X0.here hx rfl (hb hby at_26) rfl ?_
    show Steps p.tables e below (s₁.setTop (mkF m 27 #[.val (.int p1), .val (.int p2), .val (.int p3), .val (.int p4), .val (.long q5), .second, .val (.int p6), .val (.int (1 : Int32)), .val (.int (own_t0 q5)), .unset, .unset, .unset, .unset, .unset, .unset, .unset, .unset] [(.long (((q5.toUInt64 >>> ((8 : Int32) &&& 0x3f).toInt64.toUInt64).toInt64) &&& (255 : Int64)))])) _
    refine XS.l2i X0.here hx rfl (hb hby at_27) rfl ?_
    show Steps p.tables e below (s₁.setTop (mkF m 28 #[.val (.int p1), .val (.int p2), .val (.int p3), .val (.int p4), .val (.long q5), .second, .val (.int p6), .val (.int (1 : Int32)), .val (.int (own_t0 q5)), .unset, .unset, .unset, .unset, .unset, .unset, .unset, .unset] [(.int ((((q5.toUInt64 >>> ((8 : Int32) &&& 0x3f).toInt64.toUInt64).toInt64) &&& (255 : Int64)).toInt32))])) _
    refine XS.i2c X0.here hx rfl (hb hby at_28) rfl ?_
    show Steps p.tables e below (s₁.setTop (mkF m 29 #[.val (.int p1), .val (.int p2), .val (.int p3), .val (.int p4), .val (.long q5), .second, .val (.int p6), .val (.int (1 : Int32)), .val (.int (own_t0 q5)), .unset, .unset, .unset, .unset, .unset, .unset, .unset, .unset] [(.int (own_t1 q5 (8 : Int32)))])) _
    refine XS.istore X0.here hx rfl (hb hby at_29) rfl (l' := #[.val (.int p1), .val (.int p2), .val (.int p3), .val (.int p4), .val (.long q5), .second, .val (.int p6), .val (.int (1 : Int32)), .val (.int (own_t0 q5)), .val (.int (own_t1 q5 (8 : Int32))), .unset, .unset, .unset, .unset, .unset, .unset, .unset]) rfl ?_
    show Steps p.tables e below (s₁.setTop (mkF m 31 #[.val (.int p1), .val (.int p2), .val (.int p3), .val (.int p4), .val (.long q5), .second, .val (.int p6), .val (.int (1 : Int32)), .val (.int (own_t0 q5)), .val (.int (own_t1 q5 (8 : Int32))), .unset, .unset, .unset, .unset, .unset, .unset, .unset] [])) _
    refine XS.lload X0.here hx rfl (hb hby at_31) rfl ?_
    show Steps p.tables e below (s₁.setTop (mkF m 33 #[.val (.int p1), .val (.int p2), .val (.int p3), .val (.int p4), .val (.long q5), .second, .val (.int p6), .val (.int (1 : Int32)), .val (.int (own_t0 q5)), .val (.int (own_t1 q5 (8 : Int32))), .unset, .unset, .unset, .unset, .unset, .unset, .unset] [(.long q5)])) _
    refine XS.bipush X0.here hx rfl (hb hby at_33) ?_
    show Steps p.tables e below (s₁.setTop (mkF m 35 #[.val (.int p1), .val (.int p2), .val (.int p3), .val (.int p4), .val (.long q5), .second, .val (.int p6), .val (.int (1 : Int32)), .val (.int (own_t0 q5)), .val (.int (own_t1 q5 (8 : Int32))), .unset, .unset, .unset, .unset, .unset, .unset, .unset] [(.int (16 : Int32)), (.long q5)])) _
    refine XS.lushr X0.here hx rfl (hb hby at_35) rfl ?_
    show Steps p.tables e below (s₁.setTop (mkF m 36 #[.val (.int p1), .val (.int p2), .val (.int p3), .val (.int p4), .val (.long q5), .second, .val (.int p6), .val (.int (1 : Int32)), .val (.int (own_t0 q5)), .val (.int (own_t1 q5 (8 : Int32))), .unset, .unset, .unset, .unset, .unset, .unset, .unset] [(.long ((q5.toUInt64 >>> ((16 : Int32) &&& 0x3f).toInt64.toUInt64).toInt64))])) _
    refine X0.ldc2Long hx hown (mvT hZ (hw _ (List.mem_of_getElem? (i := 1) rfl))) (g := (mkF m 36 #[.val (.int p1), .val (.int p2), .val (.int p3), .val (.int p4), .val (.long q5), .second, .val (.int p6), .val (.int (1 : Int32)), .val (.int (own_t0 q5)), .val (.int (own_t1 q5 (8 : Int32))), .unset, .unset, .unset, .unset, .unset, .unset, .unset] [(.long ((q5.toUInt64 >>> ((16 : Int32) &&& 0x3f).toInt64.toUInt64).toInt64))])) rfl (hb hby at_36) _ ?_
    show Steps p.tables e below (s₁.setTop (mkF m 39 #[.val (.int p1), .val (.int p2), .val (.int p3), .val (.int p4), .val (.long q5), .second, .val (.int p6), .val (.int (1 : Int32)), .val (.int (own_t0 q5)), .val (.int (own_t1 q5 (8 : Int32))), .unset, .unset, .unset, .unset, .unset, .unset, .unset] [(.long (255 : Int64)), (.long ((q5.toUInt64 >>> ((16 : Int32) &&& 0x3f).toInt64.toUInt64).toInt64))])) _
    refine XS.land X0.here hx rfl (hb hby at_39) rfl ?_
    show Steps p.tables e below (s₁.setTop (mkF m 40 #[.val (.int p1), .val (.int p2), .val (.int p3), .val (.int p4), .val (.long q5), .second, .val (.int p6), .val (.int (1 : Int32)), .val (.int (own_t0 q5)), .val (.int (own_t1 q5 (8 : Int32))), .unset, .unset, .unset, .unset, .unset, .unset, .unset] [(.long (((q5.toUInt64 >>> ((16 : Int32) &&& 0x3f).toInt64.toUInt64).toInt64) &&& (255 : Int64)))])) _
    refine XS.l2i X0.here hx rfl (hb hby at_40) rfl ?_
    show Steps p.tables e below (s₁.setTop (mkF m 41 #[.val (.int p1), .val (.int p2), .val (.int p3), .val (.int p4), .val (.long q5), .second, .val (.int p6), .val (.int (1 : Int32)), .val (.int (own_t0 q5)), .val (.int (own_t1 q5 (8 : Int32))), .unset, .unset, .unset, .unset, .unset, .unset, .unset] [(.int ((((q5.toUInt64 >>> ((16 : Int32) &&& 0x3f).toInt64.toUInt64).toInt64) &&& (255 : Int64)).toInt32))])) _
    refine XS.i2c X0.here hx rfl (hb hby at_41) rfl ?_
    show Steps p.tables e below (s₁.setTop (mkF m 42 #[.val (.int p1), .val (.int p2), .val (.int p3), .val (.int p4), .val (.long q5), .second, .val (.int p6), .val (.int (1 : Int32)), .val (.int (own_t0 q5)), .val (.int (own_t1 q5 (8 : Int32))), .unset, .unset, .unset, .unset, .unset, .unset, .unset] [(.int (own_t1 q5 (16 : Int32)))])) _
    refine XS.istore X0.here hx rfl (hb hby at_42) rfl (l' := #[.val (.int p1), .val (.int p2), .val (.int p3), .val (.int p4), .val (.long q5), .second, .val (.int p6), .val (.int (1 : Int32)), .val (.int (own_t0 q5)), .val (.int (own_t1 q5 (8 : Int32))), .val (.int (own_t1 q5 (16 : Int32))), .unset, .unset, .unset, .unset, .unset, .unset]) rfl ?_
    show Steps p.tables e below (s₁.setTop (mkF m 44 #[.val (.int p1), .val (.int p2), .val (.int p3), .val (.int p4), .val (.long q5), .second, .val (.int p6), .val (.int (1 : Int32)), .val (.int (own_t0 q5)), .val (.int (own_t1 q5 (8 : Int32))), .val (.int (own_t1 q5 (16 : Int32))), .unset, .unset, .unset, .unset, .unset, .unset] [])) _
    refine XS.iconst X0.here hx rfl (hb hby at_44) ?_
    show Steps p.tables e below (s₁.setTop (mkF m 45 #[.val (.int p1), .val (.int p2), .val (.int p3), .val (.int p4), .val (.long q5), .second, .val (.int p6), .val (.int (1 : Int32)), .val (.int (own_t0 q5)), .val (.int (own_t1 q5 (8 : Int32))), .val (.int (own_t1 q5 (16 : Int32))), .unset, .unset, .unset, .unset, .unset, .unset] [(.int (1 : Int32))])) _
    refine XS.iconst X0.here hx rfl (hb hby at_45) ?_
    show Steps p.tables e below (s₁.setTop (mkF m 46 #[.val (.int p1), .val (.int p2), .val (.int p3), .val (.int p4), .val (.long q5), .second, .val (.int p6), .val (.int (1 : Int32)), .val (.int (own_t0 q5)), .val (.int (own_t1 q5 (8 : Int32))), .val (.int (own_t1 q5 (16 : Int32))), .unset, .unset, .unset, .unset, .unset, .unset] [(.int (2 : Int32)), (.int (1 : Int32))])) _
    refine XS.iload X0.here hx rfl (hb hby at_46) rfl ?_
    show Steps p.tables e below (s₁.setTop (mkF m 48 #[.val (.int p1), .val (.int p2), .val (.int p3), .val (.int p4), .val (.long q5), .second, .val (.int p6), .val (.int (1 : Int32)), .val (.int (own_t0 q5)), .val (.int (own_t1 q5 (8 : Int32))), .val (.int (own_t1 q5 (16 : Int32))), .unset, .unset, .unset, .unset, .unset, .unset] [(.int p6), (.int (2 : Int32)), (.int (1 : Int32))])) _
    refine XS.iconst X0.here hx rfl (hb hby at_48) ?_
    show Steps p.tables e below (s₁.setTop (mkF m 49 #[.val (.int p1), .val (.int p2), .val (.int p3), .val (.int p4), .val (.long q5), .second, .val (.int p6), .val (.int (1 : Int32)), .val (.int (own_t0 q5)), .val (.int (own_t1 q5 (8 : Int32))), .val (.int (own_t1 q5 (16 : Int32))), .unset, .unset, .unset, .unset, .unset, .unset] [(.int (3 : Int32)), (.int p6), (.int (2 : Int32)), (.int (1 : Int32))])) _
    refine XS.iand X0.here hx rfl (hb hby at_49) rfl ?_
    show Steps p.tables e below (s₁.setTop (mkF m 50 #[.val (.int p1), .val (.int p2), .val (.int p3), .val (.int p4), .val (.long q5), .second, .val (.int p6), .val (.int (1 : Int32)), .val (.int (own_t0 q5)), .val (.int (own_t1 q5 (8 : Int32))), .val (.int (own_t1 q5 (16 : Int32))), .unset, .unset, .unset, .unset, .unset, .unset] [(.int (own_a3 p6)), (.int (2 : Int32)), (.int (1 : Int32))])) _
    refine st1 _ ?_
    show Steps p.tables e below (T1.setTop (mkF m 53 #[.val (.int p1), .val (.int p2), .val (.int p3), .val (.int p4), .val (.long q5), .second, .val (.int p6), .val (.int (1 : Int32)), .val (.int (own_t0 q5)), .val (.int (own_t1 q5 (8 : Int32))), .val (.int (own_t1 q5 (16 : Int32))), .unset, .unset, .unset, .unset, .unset, .unset] [(.int (2 : Int32)), (.int (1 : Int32))])) _
    refine XS.iadd X1.here hx rfl (hb hby at_53) rfl ?_
    show Steps p.tables e below (T1.setTop (mkF m 54 #[.val (.int p1), .val (.int p2), .val (.int p3), .val (.int p4), .val (.long q5), .second, .val (.int p6), .val (.int (1 : Int32)), .val (.int (own_t0 q5)), .val (.int (own_t1 q5 (8 : Int32))), .val (.int (own_t1 q5 (16 : Int32))), .unset, .unset, .unset, .unset, .unset, .unset] [(.int (3 : Int32))])) _
    refine XS.istore X1.here hx rfl (hb hby at_54) rfl (l' := #[.val (.int p1), .val (.int p2), .val (.int p3), .val (.int p4), .val (.long q5), .second, .val (.int p6), .val (.int (1 : Int32)), .val (.int (own_t0 q5)), .val (.int (own_t1 q5 (8 : Int32))), .val (.int (own_t1 q5 (16 : Int32))), .val (.int (3 : Int32)), .unset, .unset, .unset, .unset, .unset]) rfl ?_
    show Steps p.tables e below (T1.setTop (mkF m 56 #[.val (.int p1), .val (.int p2), .val (.int p3), .val (.int p4), .val (.long q5), .second, .val (.int p6), .val (.int (1 : Int32)), .val (.int (own_t0 q5)), .val (.int (own_t1 q5 (8 : Int32))), .val (.int (own_t1 q5 (16 : Int32))), .val (.int (3 : Int32)), .unset, .unset, .unset, .unset, .unset] [])) _
    refine XS.iload X1.here hx rfl (hb hby at_56) rfl ?_
    show Steps p.tables e below (T1.setTop (mkF m 58 #[.val (.int p1), .val (.int p2), .val (.int p3), .val (.int p4), .val (.long q5), .second, .val (.int p6), .val (.int (1 : Int32)), .val (.int (own_t0 q5)), .val (.int (own_t1 q5 (8 : Int32))), .val (.int (own_t1 q5 (16 : Int32))), .val (.int (3 : Int32)), .unset, .unset, .unset, .unset, .unset] [(.int (3 : Int32))])) _
    refine XS.iconst X1.here hx rfl (hb hby at_58) ?_
    show Steps p.tables e below (T1.setTop (mkF m 59 #[.val (.int p1), .val (.int p2), .val (.int p3), .val (.int p4), .val (.long q5), .second, .val (.int p6), .val (.int (1 : Int32)), .val (.int (own_t0 q5)), .val (.int (own_t1 q5 (8 : Int32))), .val (.int (own_t1 q5 (16 : Int32))), .val (.int (3 : Int32)), .unset, .unset, .unset, .unset, .unset] [(.int (1 : Int32)), (.int (3 : Int32))])) _
    refine XS.icmpYes X1.here hx rfl (pc0 := 59) (pc' := 75) rfl (hb hby at_59) rfl (feq (by decide : ¬ ((3 : Int32) = (1 : Int32)))).2 (by decide) (by decide) ?_
    show Steps p.tables e below (T1.setTop (mkF m 75 #[.val (.int p1), .val (.int p2), .val (.int p3), .val (.int p4), .val (.long q5), .second, .val (.int p6), .val (.int (1 : Int32)), .val (.int (own_t0 q5)), .val (.int (own_t1 q5 (8 : Int32))), .val (.int (own_t1 q5 (16 : Int32))), .val (.int (3 : Int32)), .unset, .unset, .unset, .unset, .unset] [])) _
    refine XS.iload X1.here hx rfl (hb hby at_75) rfl ?_
    show Steps p.tables e below (T1.setTop (mkF m 77 #[.val (.int p1), .val (.int p2), .val (.int p3), .val (.int p4), .val (.long q5), .second, .val (.int p6), .val (.int (1 : Int32)), .val (.int (own_t0 q5)), .val (.int (own_t1 q5 (8 : Int32))), .val (.int (own_t1 q5 (16 : Int32))), .val (.int (3 : Int32)), .unset, .unset, .unset, .unset, .unset] [(.int (3 : Int32))])) _
    refine XS.iconst X1.here hx rfl (hb hby at_77) ?_
    show Steps p.tables e below (T1.setTop (mkF m 78 #[.val (.int p1), .val (.int p2), .val (.int p3), .val (.int p4), .val (.long q5), .second, .val (.int p6), .val (.int (1 : Int32)), .val (.int (own_t0 q5)), .val (.int (own_t1 q5 (8 : Int32))), .val (.int (own_t1 q5 (16 : Int32))), .val (.int (3 : Int32)), .unset, .unset, .unset, .unset, .unset] [(.int (2 : Int32)), (.int (3 : Int32))])) _
    refine XS.icmpYes X1.here hx rfl (pc0 := 78) (pc' := 99) rfl (hb hby at_78) rfl (feq (by decide : ¬ ((3 : Int32) = (2 : Int32)))).2 (by decide) (by decide) ?_
    show Steps p.tables e below (T1.setTop (mkF m 99 #[.val (.int p1), .val (.int p2), .val (.int p3), .val (.int p4), .val (.long q5), .second, .val (.int p6), .val (.int (1 : Int32)), .val (.int (own_t0 q5)), .val (.int (own_t1 q5 (8 : Int32))), .val (.int (own_t1 q5 (16 : Int32))), .val (.int (3 : Int32)), .unset, .unset, .unset, .unset, .unset] [])) _
    refine XS.iconst X1.here hx rfl (hb hby at_99) ?_
    show Steps p.tables e below (T1.setTop (mkF m 100 #[.val (.int p1), .val (.int p2), .val (.int p3), .val (.int p4), .val (.long q5), .second, .val (.int p6), .val (.int (1 : Int32)), .val (.int (own_t0 q5)), .val (.int (own_t1 q5 (8 : Int32))), .val (.int (own_t1 q5 (16 : Int32))), .val (.int (3 : Int32)), .unset, .unset, .unset, .unset, .unset] [(.int (3 : Int32))])) _
    refine st2 _ ?_
    show Steps p.tables e below (T2.setTop (mkF m 102 #[.val (.int p1), .val (.int p2), .val (.int p3), .val (.int p4), .val (.long q5), .second, .val (.int p6), .val (.int (1 : Int32)), .val (.int (own_t0 q5)), .val (.int (own_t1 q5 (8 : Int32))), .val (.int (own_t1 q5 (16 : Int32))), .val (.int (3 : Int32)), .unset, .unset, .unset, .unset, .unset] [(.ref b2)])) _
    refine XS.dup X2.here hx rfl (hb hby at_102) rfl rfl ?_
    show Steps p.tables e below (T2.setTop (mkF m 103 #[.val (.int p1), .val (.int p2), .val (.int p3), .val (.int p4), .val (.long q5), .second, .val (.int p6), .val (.int (1 : Int32)), .val (.int (own_t0 q5)), .val (.int (own_t1 q5 (8 : Int32))), .val (.int (own_t1 q5 (16 : Int32))), .val (.int (3 : Int32)), .unset, .unset, .unset, .unset, .unset] [(.ref b2), (.ref b2)])) _
    refine XS.iconst X2.here hx rfl (hb hby at_103) ?_
    show Steps p.tables e below (T2.setTop (mkF m 104 #[.val (.int p1), .val (.int p2), .val (.int p3), .val (.int p4), .val (.long q5), .second, .val (.int p6), .val (.int (1 : Int32)), .val (.int (own_t0 q5)), .val (.int (own_t1 q5 (8 : Int32))), .val (.int (own_t1 q5 (16 : Int32))), .val (.int (3 : Int32)), .unset, .unset, .unset, .unset, .unset] [(.int (0 : Int32)), (.ref b2), (.ref b2)])) _
    refine XS.iload X2.here hx rfl (hb hby at_104) rfl ?_
    show Steps p.tables e below (T2.setTop (mkF m 106 #[.val (.int p1), .val (.int p2), .val (.int p3), .val (.int p4), .val (.long q5), .second, .val (.int p6), .val (.int (1 : Int32)), .val (.int (own_t0 q5)), .val (.int (own_t1 q5 (8 : Int32))), .val (.int (own_t1 q5 (16 : Int32))), .val (.int (3 : Int32)), .unset, .unset, .unset, .unset, .unset] [(.int (own_t0 q5)), (.int (0 : Int32)), (.ref b2), (.ref b2)])) _
    refine st6 _ ?_
    show Steps p.tables e below (T6.setTop (mkF m 107 #[.val (.int p1), .val (.int p2), .val (.int p3), .val (.int p4), .val (.long q5), .second, .val (.int p6), .val (.int (1 : Int32)), .val (.int (own_t0 q5)), .val (.int (own_t1 q5 (8 : Int32))), .val (.int (own_t1 q5 (16 : Int32))), .val (.int (3 : Int32)), .unset, .unset, .unset, .unset, .unset] [(.ref b2)])) _
    refine XS.dup X6.here hx rfl (hb hby at_107) rfl rfl ?_
    show Steps p.tables e below (T6.setTop (mkF m 108 #[.val (.int p1), .val (.int p2), .val (.int p3), .val (.int p4), .val (.long q5), .second, .val (.int p6), .val (.int (1 : Int32)), .val (.int (own_t0 q5)), .val (.int (own_t1 q5 (8 : Int32))), .val (.int (own_t1 q5 (16 : Int32))), .val (.int (3 : Int32)), .unset, .unset, .unset, .unset, .unset] [(.ref b2), (.ref b2)])) _
    refine XS.iconst X6.here hx rfl (hb hby at_108) ?_
    show Steps p.tables e below (T6.setTop (mkF m 109 #[.val (.int p1), .val (.int p2), .val (.int p3), .val (.int p4), .val (.long q5), .second, .val (.int p6), .val (.int (1 : Int32)), .val (.int (own_t0 q5)), .val (.int (own_t1 q5 (8 : Int32))), .val (.int (own_t1 q5 (16 : Int32))), .val (.int (3 : Int32)), .unset, .unset, .unset, .unset, .unset] [(.int (1 : Int32)), (.ref b2), (.ref b2)])) _
    refine XS.iload X6.here hx rfl (hb hby at_109) rfl ?_
    show Steps p.tables e below (T6.setTop (mkF m 111 #[.val (.int p1), .val (.int p2), .val (.int p3), .val (.int p4), .val (.long q5), .second, .val (.int p6), .val (.int (1 : Int32)), .val (.int (own_t0 q5)), .val (.int (own_t1 q5 (8 : Int32))), .val (.int (own_t1 q5 (16 : Int32))), .val (.int (3 : Int32)), .unset, .unset, .unset, .unset, .unset] [(.int (own_t1 q5 (8 : Int32))), (.int (1 : Int32)), (.ref b2), (.ref b2)])) _
    refine st11 _ ?_
    show Steps p.tables e below (T11.setTop (mkF m 112 #[.val (.int p1), .val (.int p2), .val (.int p3), .val (.int p4), .val (.long q5), .second, .val (.int p6), .val (.int (1 : Int32)), .val (.int (own_t0 q5)), .val (.int (own_t1 q5 (8 : Int32))), .val (.int (own_t1 q5 (16 : Int32))), .val (.int (3 : Int32)), .unset, .unset, .unset, .unset, .unset] [(.ref b2)])) _
    refine XS.dup X11.here hx rfl (hb hby at_112) rfl rfl ?_
    show Steps p.tables e below (T11.setTop (mkF m 113 #[.val (.int p1), .val (.int p2), .val (.int p3), .val (.int p4), .val (.long q5), .second, .val (.int p6), .val (.int (1 : Int32)), .val (.int (own_t0 q5)), .val (.int (own_t1 q5 (8 : Int32))), .val (.int (own_t1 q5 (16 : Int32))), .val (.int (3 : Int32)), .unset, .unset, .unset, .unset, .unset] [(.ref b2), (.ref b2)])) _
    refine XS.iconst X11.here hx rfl (hb hby at_113) ?_
    show Steps p.tables e below (T11.setTop (mkF m 114 #[.val (.int p1), .val (.int p2), .val (.int p3), .val (.int p4), .val (.long q5), .second, .val (.int p6), .val (.int (1 : Int32)), .val (.int (own_t0 q5)), .val (.int (own_t1 q5 (8 : Int32))), .val (.int (own_t1 q5 (16 : Int32))), .val (.int (3 : Int32)), .unset, .unset, .unset, .unset, .unset] [(.int (2 : Int32)), (.ref b2), (.ref b2)])) _
    refine XS.iload X11.here hx rfl (hb hby at_114) rfl ?_
    show Steps p.tables e below (T11.setTop (mkF m 116 #[.val (.int p1), .val (.int p2), .val (.int p3), .val (.int p4), .val (.long q5), .second, .val (.int p6), .val (.int (1 : Int32)), .val (.int (own_t0 q5)), .val (.int (own_t1 q5 (8 : Int32))), .val (.int (own_t1 q5 (16 : Int32))), .val (.int (3 : Int32)), .unset, .unset, .unset, .unset, .unset] [(.int (own_t1 q5 (16 : Int32))), (.int (2 : Int32)), (.ref b2), (.ref b2)])) _
    refine st15 _ ?_
    show Steps p.tables e below (T15.setTop (mkF m 117 #[.val (.int p1), .val (.int p2), .val (.int p3), .val (.int p4), .val (.long q5), .second, .val (.int p6), .val (.int (1 : Int32)), .val (.int (own_t0 q5)), .val (.int (own_t1 q5 (8 : Int32))), .val (.int (own_t1 q5 (16 : Int32))), .val (.int (3 : Int32)), .unset, .unset, .unset, .unset, .unset] [(.ref b2)])) _
    refine XS.astore X15.here hx rfl (hb hby at_117) rfl rfl (l' := #[.val (.int p1), .val (.int p2), .val (.int p3), .val (.int p4), .val (.long q5), .second, .val (.int p6), .val (.int (1 : Int32)), .val (.int (own_t0 q5)), .val (.int (own_t1 q5 (8 : Int32))), .val (.int (own_t1 q5 (16 : Int32))), .val (.int (3 : Int32)), .val (.ref b2), .unset, .unset, .unset, .unset]) rfl ?_
    show Steps p.tables e below (T15.setTop (mkF m 119 #[.val (.int p1), .val (.int p2), .val (.int p3), .val (.int p4), .val (.long q5), .second, .val (.int p6), .val (.int (1 : Int32)), .val (.int (own_t0 q5)), .val (.int (own_t1 q5 (8 : Int32))), .val (.int (own_t1 q5 (16 : Int32))), .val (.int (3 : Int32)), .val (.ref b2), .unset, .unset, .unset, .unset] [])) _
    refine st18 _ ?_
    show Steps p.tables e below (T18.setTop (mkF m 122 #[.val (.int p1), .val (.int p2), .val (.int p3), .val (.int p4), .val (.long q5), .second, .val (.int p6), .val (.int (1 : Int32)), .val (.int (own_t0 q5)), .val (.int (own_t1 q5 (8 : Int32))), .val (.int (own_t1 q5 (16 : Int32))), .val (.int (3 : Int32)), .val (.ref b2), .unset, .unset, .unset, .unset] [(.ref b18)])) _
    refine XS.dup X18.here hx rfl (hb hby at_122) rfl rfl ?_
    show Steps p.tables e below (T18.setTop (mkF m 123 #[.val (.int p1), .val (.int p2), .val (.int p3), .val (.int p4), .val (.long q5), .second, .val (.int p6), .val (.int (1 : Int32)), .val (.int (own_t0 q5)), .val (.int (own_t1 q5 (8 : Int32))), .val (.int (own_t1 q5 (16 : Int32))), .val (.int (3 : Int32)), .val (.ref b2), .unset, .unset, .unset, .unset] [(.ref b18), (.ref b18)])) _
    refine XS.aload X18.here hx rfl (hb hby at_123) rfl rfl ?_
    show Steps p.tables e below (T18.setTop (mkF m 125 #[.val (.int p1), .val (.int p2), .val (.int p3), .val (.int p4), .val (.long q5), .second, .val (.int p6), .val (.int (1 : Int32)), .val (.int (own_t0 q5)), .val (.int (own_t1 q5 (8 : Int32))), .val (.int (own_t1 q5 (16 : Int32))), .val (.int (3 : Int32)), .val (.ref b2), .unset, .unset, .unset, .unset] [(.ref b2), (.ref b18), (.ref b18)])) _
    refine st31.trans ?_
    show Steps p.tables e below (T31.setTop (mkF m 128 #[.val (.int p1), .val (.int p2), .val (.int p3), .val (.int p4), .val (.long q5), .second, .val (.int p6), .val (.int (1 : Int32)), .val (.int (own_t0 q5)), .val (.int (own_t1 q5 (8 : Int32))), .val (.int (own_t1 q5 (16 : Int32))), .val (.int (3 : Int32)), .val (.ref b2), .unset, .unset, .unset, .unset] [(.ref b18)])) _
    refine XS.astore X31.here hx rfl (hb hby at_128) rfl rfl (l' := #[.val (.int p1), .val (.int p2), .val (.int p3), .val (.int p4), .val (.long q5), .second, .val (.int p6), .val (.int (1 : Int32)), .val (.int (own_t0 q5)), .val (.int (own_t1 q5 (8 : Int32))), .val (.int (own_t1 q5 (16 : Int32))), .val (.int (3 : Int32)), .val (.ref b2), .val (.ref b18), .unset, .unset, .unset]) rfl ?_
    show Steps p.tables e below (T31.setTop (mkF m 130 #[.val (.int p1), .val (.int p2), .val (.int p3), .val (.int p4), .val (.long q5), .second, .val (.int p6), .val (.int (1 : Int32)), .val (.int (own_t0 q5)), .val (.int (own_t1 q5 (8 : Int32))), .val (.int (own_t1 q5 (16 : Int32))), .val (.int (3 : Int32)), .val (.ref b2), .val (.ref b18), .unset, .unset, .unset] [])) _
    refine XS.iload X31.here hx rfl (hb hby at_130) rfl ?_
    show Steps p.tables e below (T31.setTop (mkF m 132 #[.val (.int p1), .val (.int p2), .val (.int p3), .val (.int p4), .val (.long q5), .second, .val (.int p6), .val (.int (1 : Int32)), .val (.int (own_t0 q5)), .val (.int (own_t1 q5 (8 : Int32))), .val (.int (own_t1 q5 (16 : Int32))), .val (.int (3 : Int32)), .val (.ref b2), .val (.ref b18), .unset, .unset, .unset] [(.int (1 : Int32))])) _
    refine XS.ifYes X31.here hx rfl (pc0 := 132) (pc' := 143) rfl (hb hby at_132) rfl ((if0 _ _).trans (feq (by decide : ¬ ((1 : Int32) = (0 : Int32)))).2) (by decide) (by decide) ?_
    show Steps p.tables e below (T31.setTop (mkF m 143 #[.val (.int p1), .val (.int p2), .val (.int p3), .val (.int p4), .val (.long q5), .second, .val (.int p6), .val (.int (1 : Int32)), .val (.int (own_t0 q5)), .val (.int (own_t1 q5 (8 : Int32))), .val (.int (own_t1 q5 (16 : Int32))), .val (.int (3 : Int32)), .val (.ref b2), .val (.ref b18), .unset, .unset, .unset] [])) _
    refine st33 _ ?_
    show Steps p.tables e below (T33.setTop (mkF m 146 #[.val (.int p1), .val (.int p2), .val (.int p3), .val (.int p4), .val (.long q5), .second, .val (.int p6), .val (.int (1 : Int32)), .val (.int (own_t0 q5)), .val (.int (own_t1 q5 (8 : Int32))), .val (.int (own_t1 q5 (16 : Int32))), .val (.int (3 : Int32)), .val (.ref b2), .val (.ref b18), .unset, .unset, .unset] [(.ref b33)])) _
    refine XS.dup X33.here hx rfl (hb hby at_146) rfl rfl ?_
    show Steps p.tables e below (T33.setTop (mkF m 147 #[.val (.int p1), .val (.int p2), .val (.int p3), .val (.int p4), .val (.long q5), .second, .val (.int p6), .val (.int (1 : Int32)), .val (.int (own_t0 q5)), .val (.int (own_t1 q5 (8 : Int32))), .val (.int (own_t1 q5 (16 : Int32))), .val (.int (3 : Int32)), .val (.ref b2), .val (.ref b18), .unset, .unset, .unset] [(.ref b33), (.ref b33)])) _
    refine XS.aload X33.here hx rfl (hb hby at_147) rfl rfl ?_
    show Steps p.tables e below (T33.setTop (mkF m 149 #[.val (.int p1), .val (.int p2), .val (.int p3), .val (.int p4), .val (.long q5), .second, .val (.int p6), .val (.int (1 : Int32)), .val (.int (own_t0 q5)), .val (.int (own_t1 q5 (8 : Int32))), .val (.int (own_t1 q5 (16 : Int32))), .val (.int (3 : Int32)), .val (.ref b2), .val (.ref b18), .unset, .unset, .unset] [(.ref b18), (.ref b33), (.ref b33)])) _
    refine XS.iload X33.here hx rfl (hb hby at_149) rfl ?_
    show Steps p.tables e below (T33.setTop (mkF m 151 #[.val (.int p1), .val (.int p2), .val (.int p3), .val (.int p4), .val (.long q5), .second, .val (.int p6), .val (.int (1 : Int32)), .val (.int (own_t0 q5)), .val (.int (own_t1 q5 (8 : Int32))), .val (.int (own_t1 q5 (16 : Int32))), .val (.int (3 : Int32)), .val (.ref b2), .val (.ref b18), .unset, .unset, .unset] [(.int (1 : Int32)), (.ref b18), (.ref b33), (.ref b33)])) _
    refine XS.iconst X33.here hx rfl (hb hby at_151) ?_
    show Steps p.tables e below (T33.setTop (mkF m 152 #[.val (.int p1), .val (.int p2), .val (.int p3), .val (.int p4), .val (.long q5), .second, .val (.int p6), .val (.int (1 : Int32)), .val (.int (own_t0 q5)), .val (.int (own_t1 q5 (8 : Int32))), .val (.int (own_t1 q5 (16 : Int32))), .val (.int (3 : Int32)), .val (.ref b2), .val (.ref b18), .unset, .unset, .unset] [(.int (1 : Int32)), (.int (1 : Int32)), (.ref b18), (.ref b33), (.ref b33)])) _
    refine XS.icmpNo X33.here hx rfl (hb hby at_152) rfl (teq (rfl : (1 : Int32) = (1 : Int32))).2 ?_
    show Steps p.tables e below (T33.setTop (mkF m 155 #[.val (.int p1), .val (.int p2), .val (.int p3), .val (.int p4), .val (.long q5), .second, .val (.int p6), .val (.int (1 : Int32)), .val (.int (own_t0 q5)), .val (.int (own_t1 q5 (8 : Int32))), .val (.int (own_t1 q5 (16 : Int32))), .val (.int (3 : Int32)), .val (.ref b2), .val (.ref b18), .unset, .unset, .unset] [(.ref b18), (.ref b33), (.ref b33)])) _
    refine XS.iconst X33.here hx rfl (hb hby at_155) ?_
    show Steps p.tables e below (T33.setTop (mkF m 156 #[.val (.int p1), .val (.int p2), .val (.int p3), .val (.int p4), .val (.long q5), .second, .val (.int p6), .val (.int (1 : Int32)), .val (.int (own_t0 q5)), .val (.int (own_t1 q5 (8 : Int32))), .val (.int (own_t1 q5 (16 : Int32))), .val (.int (3 : Int32)), .val (.ref b2), .val (.ref b18), .unset, .unset, .unset] [(.int (1 : Int32)), (.ref b18), (.ref b33), (.ref b33)])) _
    refine XS.goto X33.here hx rfl (pc0 := 156) (pc' := 160) rfl (hb hby at_156) (by decide) (by decide) ?_
    show Steps p.tables e below (T33.setTop (mkF m 160 #[.val (.int p1), .val (.int p2), .val (.int p3), .val (.int p4), .val (.long q5), .second, .val (.int p6), .val (.int (1 : Int32)), .val (.int (own_t0 q5)), .val (.int (own_t1 q5 (8 : Int32))), .val (.int (own_t1 q5 (16 : Int32))), .val (.int (3 : Int32)), .val (.ref b2), .val (.ref b18), .unset, .unset, .unset] [(.int (1 : Int32)), (.ref b18), (.ref b33), (.ref b33)])) _
    refine st44.trans ?_
    show Steps p.tables e below (T44.setTop (mkF m 163 #[.val (.int p1), .val (.int p2), .val (.int p3), .val (.int p4), .val (.long q5), .second, .val (.int p6), .val (.int (1 : Int32)), .val (.int (own_t0 q5)), .val (.int (own_t1 q5 (8 : Int32))), .val (.int (own_t1 q5 (16 : Int32))), .val (.int (3 : Int32)), .val (.ref b2), .val (.ref b18), .unset, .unset, .unset] [(.ref b33)])) _
    refine st46 _ ?_
    show Steps p.tables e below (T46.setTop (mkF m 166 #[.val (.int p1), .val (.int p2), .val (.int p3), .val (.int p4), .val (.long q5), .second, .val (.int p6), .val (.int (1 : Int32)), .val (.int (own_t0 q5)), .val (.int (own_t1 q5 (8 : Int32))), .val (.int (own_t1 q5 (16 : Int32))), .val (.int (3 : Int32)), .val (.ref b2), .val (.ref b18), .unset, .unset, .unset] [(.ref b1_46)])) _
    refine XS.astore X46.here hx rfl (hb hby at_166) rfl rfl (l' := #[.val (.int p1), .val (.int p2), .val (.int p3), .val (.int p4), .val (.long q5), .second, .val (.int p6), .val (.int (1 : Int32)), .val (.int (own_t0 q5)), .val (.int (own_t1 q5 (8 : Int32))), .val (.int (own_t1 q5 (16 : Int32))), .val (.int (3 : Int32)), .val (.ref b2), .val (.ref b18), .val (.ref b1_46), .unset, .unset]) rfl ?_
    show Steps p.tables e below (T46.setTop (mkF m 168 #[.val (.int p1), .val (.int p2), .val (.int p3), .val (.int p4), .val (.long q5), .second, .val (.int p6), .val (.int (1 : Int32)), .val (.int (own_t0 q5)), .val (.int (own_t1 q5 (8 : Int32))), .val (.int (own_t1 q5 (16 : Int32))), .val (.int (3 : Int32)), .val (.ref b2), .val (.ref b18), .val (.ref b1_46), .unset, .unset] [])) _
    refine st48 _ ?_
    show Steps p.tables e below (T48.setTop (mkF m 171 #[.val (.int p1), .val (.int p2), .val (.int p3), .val (.int p4), .val (.long q5), .second, .val (.int p6), .val (.int (1 : Int32)), .val (.int (own_t0 q5)), .val (.int (own_t1 q5 (8 : Int32))), .val (.int (own_t1 q5 (16 : Int32))), .val (.int (3 : Int32)), .val (.ref b2), .val (.ref b18), .val (.ref b1_46), .unset, .unset] [(.ref b48)])) _
    refine XS.dup X48.here hx rfl (hb hby at_171) rfl rfl ?_
    show Steps p.tables e below (T48.setTop (mkF m 172 #[.val (.int p1), .val (.int p2), .val (.int p3), .val (.int p4), .val (.long q5), .second, .val (.int p6), .val (.int (1 : Int32)), .val (.int (own_t0 q5)), .val (.int (own_t1 q5 (8 : Int32))), .val (.int (own_t1 q5 (16 : Int32))), .val (.int (3 : Int32)), .val (.ref b2), .val (.ref b18), .val (.ref b1_46), .unset, .unset] [(.ref b48), (.ref b48)])) _
    refine XS.iloadN X48.here hx rfl (hb hby at_172) rfl ?_
    show Steps p.tables e below (T48.setTop (mkF m 173 #[.val (.int p1), .val (.int p2), .val (.int p3), .val (.int p4), .val (.long q5), .second, .val (.int p6), .val (.int (1 : Int32)), .val (.int (own_t0 q5)), .val (.int (own_t1 q5 (8 : Int32))), .val (.int (own_t1 q5 (16 : Int32))), .val (.int (3 : Int32)), .val (.ref b2), .val (.ref b18), .val (.ref b1_46), .unset, .unset] [(.int p1), (.ref b48), (.ref b48)])) _
    refine XS.iloadN X48.here hx rfl (hb hby at_173) rfl ?_
    show Steps p.tables e below (T48.setTop (mkF m 174 #[.val (.int p1), .val (.int p2), .val (.int p3), .val (.int p4), .val (.long q5), .second, .val (.int p6), .val (.int (1 : Int32)), .val (.int (own_t0 q5)), .val (.int (own_t1 q5 (8 : Int32))), .val (.int (own_t1 q5 (16 : Int32))), .val (.int (3 : Int32)), .val (.ref b2), .val (.ref b18), .val (.ref b1_46), .unset, .unset] [(.int p2), (.int p1), (.ref b48), (.ref b48)])) _
    refine XS.iloadN X48.here hx rfl (hb hby at_174) rfl ?_
    show Steps p.tables e below (T48.setTop (mkF m 175 #[.val (.int p1), .val (.int p2), .val (.int p3), .val (.int p4), .val (.long q5), .second, .val (.int p6), .val (.int (1 : Int32)), .val (.int (own_t0 q5)), .val (.int (own_t1 q5 (8 : Int32))), .val (.int (own_t1 q5 (16 : Int32))), .val (.int (3 : Int32)), .val (.ref b2), .val (.ref b18), .val (.ref b1_46), .unset, .unset] [(.int p3), (.int p2), (.int p1), (.ref b48), (.ref b48)])) _
    refine XS.aload X48.here hx rfl (hb hby at_175) rfl rfl ?_
    show Steps p.tables e below (T48.setTop (mkF m 177 #[.val (.int p1), .val (.int p2), .val (.int p3), .val (.int p4), .val (.long q5), .second, .val (.int p6), .val (.int (1 : Int32)), .val (.int (own_t0 q5)), .val (.int (own_t1 q5 (8 : Int32))), .val (.int (own_t1 q5 (16 : Int32))), .val (.int (3 : Int32)), .val (.ref b2), .val (.ref b18), .val (.ref b1_46), .unset, .unset] [(.ref b1_46), (.int p3), (.int p2), (.int p1), (.ref b48), (.ref b48)])) _
    refine st55.trans ?_
    show Steps p.tables e below (T55.setTop (mkF m 180 #[.val (.int p1), .val (.int p2), .val (.int p3), .val (.int p4), .val (.long q5), .second, .val (.int p6), .val (.int (1 : Int32)), .val (.int (own_t0 q5)), .val (.int (own_t1 q5 (8 : Int32))), .val (.int (own_t1 q5 (16 : Int32))), .val (.int (3 : Int32)), .val (.ref b2), .val (.ref b18), .val (.ref b1_46), .unset, .unset] [(.ref b48)])) _
    refine XS.astore X55.here hx rfl (hb hby at_180) rfl rfl (l' := #[.val (.int p1), .val (.int p2), .val (.int p3), .val (.int p4), .val (.long q5), .second, .val (.int p6), .val (.int (1 : Int32)), .val (.int (own_t0 q5)), .val (.int (own_t1 q5 (8 : Int32))), .val (.int (own_t1 q5 (16 : Int32))), .val (.int (3 : Int32)), .val (.ref b2), .val (.ref b18), .val (.ref b1_46), .val (.ref b48), .unset]) rfl ?_
    show Steps p.tables e below (T55.setTop (mkF m 182 #[.val (.int p1), .val (.int p2), .val (.int p3), .val (.int p4), .val (.long q5), .second, .val (.int p6), .val (.int (1 : Int32)), .val (.int (own_t0 q5)), .val (.int (own_t1 q5 (8 : Int32))), .val (.int (own_t1 q5 (16 : Int32))), .val (.int (3 : Int32)), .val (.ref b2), .val (.ref b18), .val (.ref b1_46), .val (.ref b48), .unset] [])) _
    refine XS.iload X55.here hx rfl (hb hby at_182) rfl ?_
    show Steps p.tables e below (T55.setTop (mkF m 184 #[.val (.int p1), .val (.int p2), .val (.int p3), .val (.int p4), .val (.long q5), .second, .val (.int p6), .val (.int (1 : Int32)), .val (.int (own_t0 q5)), .val (.int (own_t1 q5 (8 : Int32))), .val (.int (own_t1 q5 (16 : Int32))), .val (.int (3 : Int32)), .val (.ref b2), .val (.ref b18), .val (.ref b1_46), .val (.ref b48), .unset] [(.int (1 : Int32))])) _
    refine XS.iconst X55.here hx rfl (hb hby at_184) ?_
    show Steps p.tables e below (T55.setTop (mkF m 185 #[.val (.int p1), .val (.int p2), .val (.int p3), .val (.int p4), .val (.long q5), .second, .val (.int p6), .val (.int (1 : Int32)), .val (.int (own_t0 q5)), .val (.int (own_t1 q5 (8 : Int32))), .val (.int (own_t1 q5 (16 : Int32))), .val (.int (3 : Int32)), .val (.ref b2), .val (.ref b18), .val (.ref b1_46), .val (.ref b48), .unset] [(.int (1 : Int32)), (.int (1 : Int32))])) _
    refine XS.icmpYes X55.here hx rfl (pc0 := 185) (pc' := 192) rfl (hb hby at_185) rfl (teq (rfl : (1 : Int32) = (1 : Int32))).1 (by decide) (by decide) ?_
    show Steps p.tables e below (T55.setTop (mkF m 192 #[.val (.int p1), .val (.int p2), .val (.int p3), .val (.int p4), .val (.long q5), .second, .val (.int p6), .val (.int (1 : Int32)), .val (.int (own_t0 q5)), .val (.int (own_t1 q5 (8 : Int32))), .val (.int (own_t1 q5 (16 : Int32))), .val (.int (3 : Int32)), .val (.ref b2), .val (.ref b18), .val (.ref b1_46), .val (.ref b48), .unset] [])) _
    refine XS.iconst X55.here hx rfl (hb hby at_192) ?_
    show Steps p.tables e below (T55.setTop (mkF m 193 #[.val (.int p1), .val (.int p2), .val (.int p3), .val (.int p4), .val (.long q5), .second, .val (.int p6), .val (.int (1 : Int32)), .val (.int (own_t0 q5)), .val (.int (own_t1 q5 (8 : Int32))), .val (.int (own_t1 q5 (16 : Int32))), .val (.int (3 : Int32)), .val (.ref b2), .val (.ref b18), .val (.ref b1_46), .val (.ref b48), .unset] [(.int (0 : Int32))])) _
    refine XS.istore X55.here hx rfl (hb hby at_193) rfl (l' := #[.val (.int p1), .val (.int p2), .val (.int p3), .val (.int p4), .val (.long q5), .second, .val (.int p6), .val (.int (1 : Int32)), .val (.int (own_t0 q5)), .val (.int (own_t1 q5 (8 : Int32))), .val (.int (own_t1 q5 (16 : Int32))), .val (.int (3 : Int32)), .val (.ref b2), .val (.ref b18), .val (.ref b1_46), .val (.ref b48), .val (.int (0 : Int32))]) rfl ?_
    show Steps p.tables e below (T55.setTop (mkF m 195 #[.val (.int p1), .val (.int p2), .val (.int p3), .val (.int p4), .val (.long q5), .second, .val (.int p6), .val (.int (1 : Int32)), .val (.int (own_t0 q5)), .val (.int (own_t1 q5 (8 : Int32))), .val (.int (own_t1 q5 (16 : Int32))), .val (.int (3 : Int32)), .val (.ref b2), .val (.ref b18), .val (.ref b1_46), .val (.ref b48), .val (.int (0 : Int32))] [])) _
    refine XS.aload X55.here hx rfl (hb hby at_195) rfl rfl ?_
    show Steps p.tables e below (T55.setTop (mkF m 197 #[.val (.int p1), .val (.int p2), .val (.int p3), .val (.int p4), .val (.long q5), .second, .val (.int p6), .val (.int (1 : Int32)), .val (.int (own_t0 q5)), .val (.int (own_t1 q5 (8 : Int32))), .val (.int (own_t1 q5 (16 : Int32))), .val (.int (3 : Int32)), .val (.ref b2), .val (.ref b18), .val (.ref b1_46), .val (.ref b48), .val (.int (0 : Int32))] [(.ref b48)])) _
    refine st61.trans ?_
    show Steps p.tables e below (T61.setTop (mkF m 200 #[.val (.int p1), .val (.int p2), .val (.int p3), .val (.int p4), .val (.long q5), .second, .val (.int p6), .val (.int (1 : Int32)), .val (.int (own_t0 q5)), .val (.int (own_t1 q5 (8 : Int32))), .val (.int (own_t1 q5 (16 : Int32))), .val (.int (3 : Int32)), .val (.ref b2), .val (.ref b18), .val (.ref b1_46), .val (.ref b48), .val (.int (0 : Int32))] [(.int (0 : Int32))])) _
    refine XS.iload X61.here hx rfl (hb hby at_200) rfl ?_
    show Steps p.tables e below (T61.setTop (mkF m 202 #[.val (.int p1), .val (.int p2), .val (.int p3), .val (.int p4), .val (.long q5), .second, .val (.int p6), .val (.int (1 : Int32)), .val (.int (own_t0 q5)), .val (.int (own_t1 q5 (8 : Int32))), .val (.int (own_t1 q5 (16 : Int32))), .val (.int (3 : Int32)), .val (.ref b2), .val (.ref b18), .val (.ref b1_46), .val (.ref b48), .val (.int (0 : Int32))] [(.int (0 : Int32)), (.int (0 : Int32))])) _
    refine XS.icmpNo X61.here hx rfl (hb hby at_202) rfl (teq (rfl : (0 : Int32) = (0 : Int32))).2 ?_
    show Steps p.tables e below (T61.setTop (mkF m 205 #[.val (.int p1), .val (.int p2), .val (.int p3), .val (.int p4), .val (.long q5), .second, .val (.int p6), .val (.int (1 : Int32)), .val (.int (own_t0 q5)), .val (.int (own_t1 q5 (8 : Int32))), .val (.int (own_t1 q5 (16 : Int32))), .val (.int (3 : Int32)), .val (.ref b2), .val (.ref b18), .val (.ref b1_46), .val (.ref b48), .val (.int (0 : Int32))] [])) _
    refine XS.iconst X61.here hx rfl (hb hby at_205) ?_
    show Steps p.tables e below (T61.setTop (mkF m 206 #[.val (.int p1), .val (.int p2), .val (.int p3), .val (.int p4), .val (.long q5), .second, .val (.int p6), .val (.int (1 : Int32)), .val (.int (own_t0 q5)), .val (.int (own_t1 q5 (8 : Int32))), .val (.int (own_t1 q5 (16 : Int32))), .val (.int (3 : Int32)), .val (.ref b2), .val (.ref b18), .val (.ref b1_46), .val (.ref b48), .val (.int (0 : Int32))] [(.int (1 : Int32))])) _
    refine XS.goto X61.here hx rfl (pc0 := 206) (pc' := 210) rfl (hb hby at_206) (by decide) (by decide) ?_
    show Steps p.tables e below (T61.setTop (mkF m 210 #[.val (.int p1), .val (.int p2), .val (.int p3), .val (.int p4), .val (.long q5), .second, .val (.int p6), .val (.int (1 : Int32)), .val (.int (own_t0 q5)), .val (.int (own_t1 q5 (8 : Int32))), .val (.int (own_t1 q5 (16 : Int32))), .val (.int (3 : Int32)), .val (.ref b2), .val (.ref b18), .val (.ref b1_46), .val (.ref b48), .val (.int (0 : Int32))] [(.int (1 : Int32))])) _
    exact retN X61 hx (t := .boolean) Bd.returns (by simp) (hb hby at_210) hr
  · show own_Qlaw h0 n0 _ T61.heap _
    exact ⟨rfl, N61⟩
theorem own_eflaw32 (m : MethodId) (p1 : Int32) (p2 : Int32) (p3 : Int32) (p4 : Int32) (q5 : Int64) (p6 : Int32) : entryFrame m #[(.int p1), (.int p2), (.int p3), (.int p4), (.long q5), (.int p6)] maxLocals = mkF m 0 #[.val (.int p1), .val (.int p2), .val (.int p3), .val (.int p4), .val (.long q5), .second, .val (.int p6), .unset, .unset, .unset, .unset, .unset, .unset, .unset, .unset, .unset, .unset] [] := by first | (simp [entryFrame, mkF, argsToLocals, Value.category, maxLocals]; done) | rfl
set_option maxRecDepth 65536 in
set_option maxHeartbeats 40000000 in
theorem own_law32 (l : Launch) (Z : State) (a0 : Array Value) (hw : ∀ d ∈ tables_1, d.before a0 Z = true) (ws : List Jvm.Cond) (G1 : Int32) (k_EMPTY : Addr) (gl : own_Glob Z G1 k_EMPTY) (p1 : Int32) (p2 : Int32) (p3 : Int32) (p4 : Int32) (q5 : Int64) (p6 : Int32) (h0 : Heap) (n0 : Nat) (Z0 : n0 ≤ h0.size) (X00 : Old Z n0 h0) (hk : own_kd p4 = 2) (hn : ¬ ((own_a3 p6) < (2 : Int32))) :
    MetFree l x (head1 (Jvm.Cond.code x code maxLocals ret :: ws) room_1) (fun a U => a = #[(.int p1), (.int p2), (.int p3), (.int p4), (.long q5), (.int p6)] ∧ Z.Warmed39 U.vm ∧ U.heap = h0) (fun _ _ _ _ _ => True) (fun _ U o U' => ∃ v L, o = .returned v ∧ own_Qlaw h0 n0 v U'.heap L ∧ ReturnedEndW U o U' L room_1.cells room_1.slots) := by
  refine MetFree.of_bodySF (plainFor_of_name own_pn15) hisR ?_
  intro p e s m args below meth c s₁ Bd hml0 hP hK
  obtain ⟨rfl, hZ, hh⟩ := hP
  obtain ⟨O_CS, P_CS, O_EMPTY, E_EMPTY, F_EMPTY⟩ := id gl
  have hx := Bd.exec
  have hby := Bd.bytes
  have hml : c.maxLocals = 17 := hml0
  have hown : s.vm.findClass "com/example/leftmost/leftmost/tree/NodeIsLeafPinLaw" = some m.cls := findClass_of_methodNamed Bd.named
  have hnm := (name_of_methodNamed Bd.named Bd.method).1
  have X0 : Stand p l e room_1 s m #[(.int p1), (.int p2), (.int p3), (.int p4), (.long q5), (.int p6)] below meth c s₁ [] 0 0 := Stand.of_body Bd
  have e0 : s₁.heap = h0 := by rw [← hh, Bd.state]; rfl
  have N0 := Fr.nil n0
  have pre0 : ∀ t, Steps p.tables e below (s₁.setTop (mkF m 0 #[.val (.int p1), .val (.int p2), .val (.int p3), .val (.int p4), .val (.long q5), .second, .val (.int p6), .unset, .unset, .unset, .unset, .unset, .unset, .unset, .unset, .unset, .unset] [])) t → Steps p.tables e below (s₁.setTop (entryFrame m #[(.int p1), (.int p2), (.int p3), (.int p4), (.long q5), (.int p6)] maxLocals)) t := fun t k => castTop (own_eflaw32 m p1 p2 p3 p4 q5 p6) k
  obtain ⟨_, _, ⟨T1, L1, k1, n1⟩, -, X1, ⟨Lc1, hQ1, l1, y1, z1⟩, st1⟩ := Jvm.LawKit.callS X0 hx (y := (⟨"java/lang/Math", "min", "(II)I"⟩ : MethodName)) hown (mvT hZ (hw _ (List.mem_of_getElem? (i := 2) rfl))) (mvT hZ (hw _ (List.mem_of_getElem? (i := 3) rfl))) (mvT hZ (hw _ (List.mem_of_getElem? (i := 4) rfl))) (mvT hZ (hw _ (List.mem_of_getElem? (i := 5) rfl))) (by decide) (backOf (W := 1) (own_rm_minL l Z a0 hw [] G1 k_EMPTY gl (2 : Int32) (own_a3 p6) h0 n0 Z0 (hn : ¬ ((own_a3 p6) < (2 : Int32)))) hZ (hw _ (List.mem_of_getElem? (i := 5) rfl)) (hw _ (List.mem_of_getElem? (i := 4) rfl)) (by decide) (by decide)) (g := (mkF m 50 #[.val (.int p1), .val (.int p2), .val (.int p3), .val (.int p4), .val (.long q5), .second, .val (.int p6), .val (.int (2 : Int32)), .val (.int (own_t0 q5)), .val (.int (own_t1 q5 (8 : Int32))), .val (.int (own_t1 q5 (16 : Int32))), .unset, .unset, .unset, .unset, .unset, .unset] [(.int (own_a3 p6)), (.int (2 : Int32)), (.int (1 : Int32))])) rfl (by rw [hml]; rfl) (argsL := [(.int (2 : Int32)), (.int (own_a3 p6))]) (rest := [(.int (1 : Int32))]) (lenOf own_pd11 rfl) rfl (by show 2 * 0 + _ ≤ _; exact Nat.le_of_eq rfl) (hb hby at_50) (fun _ _ => ⟨rfl, e0, (by decide : 0 + 0 ≤ _), (by decide : 0 + 0 ≤ _)⟩)
  dsimp only [Pt.U, Pt.locs, Pt.cells, Pt.slots] at X1 l1 y1 z1 st1 hQ1
  subst y1 z1
  obtain ⟨rfl, Nq1, e1⟩ := hQ1
  have N1 : Fr n0 L1 := by rw [l1]; exact Fr.app N0 Nq1
  obtain ⟨T2, h2, k2, X2, e2, E2, A2, st2⟩ := newP X1 hx hZ (hw _ (List.mem_of_getElem? (i := 6) rfl)) e1 (g := (mkF m 100 #[.val (.int p1), .val (.int p2), .val (.int p3), .val (.int p4), .val (.long q5), .second, .val (.int p6), .val (.int (2 : Int32)), .val (.int (own_t0 q5)), .val (.int (own_t1 q5 (8 : Int32))), .val (.int (own_t1 q5 (16 : Int32))), .val (.int (3 : Int32)), .unset, .unset, .unset, .unset, .unset] [(.int (3 : Int32))])) rfl (hb hby at_100) rfl (by decide) (cap := 3) (by decide) (by decide) (by decide) (by decide)
  obtain ⟨b2, g2⟩ : ∃ z, z = h0.size := ⟨_, rfl⟩
  rw [← g2] at A2 st2
  have Kp3 : Keep h0 h2 [] := (Keep.refl h0 []).ext E2
  have Vh4 : Arv Z h2 b2 k2 .char (3 : Int32) [(.int (0 : Int32)), (.int (0 : Int32)), (.int (0 : Int32))] (.int (0 : Int32)) := (Arv.new A2 (by decide)).pad (pad_rep [] (.int (0 : Int32)) 3)
  obtain ⟨cl5, Ar5, qc5, Sz5, Ng5, Hs5, Gs5⟩ := id Vh4
  have hin5 : ¬ ((0 : Int32) < 0 ∨ cl5.slots.size ≤ ((0 : Int32)).toNatClampNeg) := inb_of Sz5 ⟨(by decide), (by decide)⟩
  obtain ⟨T6, h6, X6, e6, W6, st6⟩ := stC X2 hx hZ e2 Ar5 (j := (0 : Int32)) hin5 (g := (mkF m 106 #[.val (.int p1), .val (.int p2), .val (.int p3), .val (.int p4), .val (.long q5), .second, .val (.int p6), .val (.int (2 : Int32)), .val (.int (own_t0 q5)), .val (.int (own_t1 q5 (8 : Int32))), .val (.int (own_t1 q5 (16 : Int32))), .val (.int (3 : Int32)), .unset, .unset, .unset, .unset, .unset] [(.int (own_t0 q5)), (.int (0 : Int32)), (.ref b2), (.ref b2)])) rfl rfl (hb hby at_106)
  have Kp7 : Keep h0 h6 [] := Kp3.wr W6 (Or.inr (Nat.le_trans (Keep.refl h0 []).1 (Nat.le_of_eq g2.symm)))
  have gh8 : n0 ≤ b2 := Nat.le_trans Z0 (Nat.le_of_eq g2.symm)
  obtain ⟨Lp6, X6, N6⟩ := own_pack X6 (Fr.snoc X6 N1 gh8)
  have Vh9 : Arv Z h6 b2 k2 .char (3 : Int32) [(.int (own_n0 q5)), (.int (0 : Int32)), (.int (0 : Int32))] (.int (0 : Int32)) := (Arv.set Ar5 qc5 Sz5 Ng5 Hs5 Gs5 (fits_nar_char _) W6 0 rfl (Nat.le_of_ble_eq_true rfl))
  obtain ⟨cl10, Ar10, qc10, Sz10, Ng10, Hs10, Gs10⟩ := id Vh9
  have hin10 : ¬ ((1 : Int32) < 0 ∨ cl10.slots.size ≤ ((1 : Int32)).toNatClampNeg) := inb_of Sz10 ⟨(by decide), (by decide)⟩
  obtain ⟨T11, h11, X11, e11, W11, st11⟩ := stC X6 hx hZ e6 Ar10 (j := (1 : Int32)) hin10 (g := (mkF m 111 #[.val (.int p1), .val (.int p2), .val (.int p3), .val (.int p4), .val (.long q5), .second, .val (.int p6), .val (.int (2 : Int32)), .val (.int (own_t0 q5)), .val (.int (own_t1 q5 (8 : Int32))), .val (.int (own_t1 q5 (16 : Int32))), .val (.int (3 : Int32)), .unset, .unset, .unset, .unset, .unset] [(.int (own_t1 q5 (8 : Int32))), (.int (1 : Int32)), (.ref b2), (.ref b2)])) rfl rfl (hb hby at_111)
  have Kp12 : Keep h0 h11 [] := Kp7.wr W11 (Or.inr (Nat.le_trans (Keep.refl h0 []).1 (Nat.le_of_eq g2.symm)))
  obtain ⟨Lp11, X11, N11⟩ := own_pack X11 (Fr.snoc X11 N6 gh8)
  have Vh13 : Arv Z h11 b2 k2 .char (3 : Int32) [(.int (own_n0 q5)), (.int (own_n1 q5 (8 : Int32))), (.int (0 : Int32))] (.int (0 : Int32)) := (Arv.set Ar10 qc10 Sz10 Ng10 Hs10 Gs10 (fits_nar_char _) W11 1 rfl (Nat.le_of_ble_eq_true rfl))
  obtain ⟨cl14, Ar14, qc14, Sz14, Ng14, Hs14, Gs14⟩ := id Vh13
  have hin14 : ¬ ((2 : Int32) < 0 ∨ cl14.slots.size ≤ ((2 : Int32)).toNatClampNeg) := inb_of Sz14 ⟨(by decide), (by decide)⟩
  obtain ⟨T15, h15, X15, e15, W15, st15⟩ := stC X11 hx hZ e11 Ar14 (j := (2 : Int32)) hin14 (g := (mkF m 116 #[.val (.int p1), .val (.int p2), .val (.int p3), .val (.int p4), .val (.long q5), .second, .val (.int p6), .val (.int (2 : Int32)), .val (.int (own_t0 q5)), .val (.int (own_t1 q5 (8 : Int32))), .val (.int (own_t1 q5 (16 : Int32))), .val (.int (3 : Int32)), .unset, .unset, .unset, .unset, .unset] [(.int (own_t1 q5 (16 : Int32))), (.int (2 : Int32)), (.ref b2), (.ref b2)])) rfl rfl (hb hby at_116)
  have Kp16 : Keep h0 h15 [] := Kp12.wr W15 (Or.inr (Nat.le_trans (Keep.refl h0 []).1 (Nat.le_of_eq g2.symm)))
  obtain ⟨Lp15, X15, N15⟩ := own_pack X15 (Fr.snoc X15 N11 gh8)
  have Vh17 : Arv Z h15 b2 k2 .char (3 : Int32) [(.int (own_n0 q5)), (.int (own_n1 q5 (8 : Int32))), (.int (own_n1 q5 (16 : Int32)))] (.int (0 : Int32)) := (Arv.set Ar14 qc14 Sz14 Ng14 Hs14 Gs14 (fits_nar_char _) W15 2 rfl (Nat.le_of_ble_eq_true rfl))
  obtain ⟨T18, h18, X18, e18, E18, A18, D18, U18, st18⟩ := newO X15 hx hZ hown (hw _ (List.mem_of_getElem? (i := 7) rfl)) (hw _ (List.mem_of_getElem? (i := 8) rfl)) (hw _ (List.mem_of_getElem? (i := 9) rfl)) e15 (g := (mkF m 119 #[.val (.int p1), .val (.int p2), .val (.int p3), .val (.int p4), .val (.long q5), .second, .val (.int p6), .val (.int (2 : Int32)), .val (.int (own_t0 q5)), .val (.int (own_t1 q5 (8 : Int32))), .val (.int (own_t1 q5 (16 : Int32))), .val (.int (3 : Int32)), .val (.ref b2), .unset, .unset, .unset, .unset] [])) rfl (hb hby at_119) (by decide) (by decide)
  obtain ⟨b18, g18⟩ : ∃ z, z = h15.size := ⟨_, rfl⟩
  rw [← g18] at A18 D18 U18 st18
  have Kp19 : Keep h0 h18 [] := Kp16.ext E18
  have Fh20 : Fld Z h18 b18 "java/lang/String" "value" "[B" .null := (D18 (Or.inr (hw _ (List.mem_of_getElem? (i := 35) rfl))) (ty := (.array .byte)) (by decide))
  have Fh21 : Fld Z h18 b18 "java/lang/String" "coder" "B" (.int (0 : Int32)) := (D18 (Or.inr (hw _ (List.mem_of_getElem? (i := 33) rfl))) (ty := .byte) (by decide))
  have Vh22 : Arv Z h18 b2 k2 .char (3 : Int32) [(.int (own_n0 q5)), (.int (own_n1 q5 (8 : Int32))), (.int (own_n1 q5 (16 : Int32)))] (.int (0 : Int32)) := (Vh17.ext E18)
  have hph23 : ∀ c ∈ ([(own_n0 q5), (own_n1 q5 (8 : Int32)), (own_n1 q5 (16 : Int32))] : List Int32), ¬ c < 0 ∧ ¬ (255 : Int32) < c := (own_cS (own_rng_n0 q5) (own_cS (own_rng_n1 q5 (8 : Int32)) (own_cS (own_rng_n1 q5 (16 : Int32)) own_c0)))
  have hws_words : ∀ d ∈ StrChars.Road.words, d.before a0 Z = true := fun d hd => hw d (own_hws_words d hd)
  have Zh24 : n0 ≤ h18.size := (Nat.le_trans Z0 Kp19.1)
  have gh25 : n0 ≤ b18 := Nat.le_trans (Nat.le_trans Z0 Kp16.1) (Nat.le_of_eq g18.symm)
  have Old26 : Old Z n0 h2 := X00.ext E2
  have Old27 : Old Z n0 h6 := Old26.wr W6 gh8
  have Old28 : Old Z n0 h11 := Old27.wr W11 gh8
  have Old29 : Old Z n0 h15 := Old28.wr W15 gh8
  have Old30 : Old Z n0 h18 := Old29.ext E18
  obtain ⟨_, _, ⟨T31, L31, k31, n31⟩, -, X31, ⟨Lc31, hQ31, l31, y31, z31⟩, st31⟩ := X18.specialBack hx (y := (⟨"java/lang/String", "<init>", "([C)V"⟩ : MethodName)) rfl hown (mvT hZ (hw _ (List.mem_of_getElem? (i := 10) rfl))) (mvT hZ (hw _ (List.mem_of_getElem? (i := 11) rfl))) (mvT hZ (hw _ (List.mem_of_getElem? (i := 12) rfl))) (by decide) (StrChars.Road.backV (W := 1) hZ hws_words (kI := 4) (hw _ (List.mem_of_getElem? (i := 8) rfl)) (cs := ([(own_n0 q5), (own_n1 q5 (8 : Int32)), (own_n1 q5 (16 : Int32))] : List Int32)) (bs := ([(own_n0 q5), (own_n1 q5 (8 : Int32)), (own_n1 q5 (16 : Int32))] : List Int32).map (fun c => c.toInt8.toInt32)) (n := 3) gh25 Zh24 A18 Fh20 Fh21 Vh22 (O_CS.ext Old30.2) P_CS rfl rfl (by decide) (by decide) hph23 rfl (by decide) (by decide)) (g := (mkF m 125 #[.val (.int p1), .val (.int p2), .val (.int p3), .val (.int p4), .val (.long q5), .second, .val (.int p6), .val (.int (2 : Int32)), .val (.int (own_t0 q5)), .val (.int (own_t1 q5 (8 : Int32))), .val (.int (own_t1 q5 (16 : Int32))), .val (.int (3 : Int32)), .val (.ref b2), .unset, .unset, .unset, .unset] [(.ref b2), (.ref b18), (.ref b18)])) rfl (by rw [hml]; rfl) (Steps.refl _) (a := b18) (argsL := [(.ref b2)]) (rest := [(.ref b18)]) (lenOf own_pd12 rfl) rfl (by show 2 * 0 + _ ≤ _; exact Nat.le_of_eq rfl) (hb hby at_125) (fun _ _ => ⟨rfl, e18, (by decide : 2 + 1 ≤ _), (by decide : 7 + 3 ≤ _)⟩)
  dsimp only [Pt.U, Pt.locs, Pt.cells, Pt.slots] at X31 l31 y31 z31 st31 hQ31
  subst y31 z31
  obtain ⟨rfl, Nq31, Kq31, Eq31, Cq31, t31, kb31, gt31, szt31, nt31, Vq31, Bq31⟩ := hQ31
  have N31 : Fr n0 L31 := by rw [l31]; exact Fr.app N15 Nq31
  have Kp32 : Keep h0 T31.heap [] := Kp19.trans Kq31 (allS (Or.inr (Nat.le_trans Kp16.1 (Nat.le_of_eq g18.symm))) all0)
  obtain ⟨T33, h33, X33, e33, E33, A33, D33, U33, st33⟩ := newO X31 hx hZ hown (hw _ (List.mem_of_getElem? (i := 36) rfl)) (hw _ (List.mem_of_getElem? (i := 37) rfl)) (hw _ (List.mem_of_getElem? (i := 38) rfl)) rfl (g := (mkF m 143 #[.val (.int p1), .val (.int p2), .val (.int p3), .val (.int p4), .val (.long q5), .second, .val (.int p6), .val (.int (2 : Int32)), .val (.int (own_t0 q5)), .val (.int (own_t1 q5 (8 : Int32))), .val (.int (own_t1 q5 (16 : Int32))), .val (.int (3 : Int32)), .val (.ref b2), .val (.ref b18), .unset, .unset, .unset] [])) rfl (hb hby at_143) (by decide) (by decide)
  obtain ⟨b33, g33⟩ : ∃ z, z = T31.heap.size := ⟨_, rfl⟩
  rw [← g33] at A33 D33 U33 st33
  have Kp34 : Keep h0 h33 [] := Kp32.ext E33
  have Eh35 : Exa Z h33 b18 "java/lang/String" := (Eq31.ext E33)
  have Fh36 : Fld Z h33 b18 "java/lang/String" "value" "[B" (.ref t31) := (Vq31.ext E33)
  have Fh37 : Fld Z h33 b18 "java/lang/String" "coder" "B" (.int (0 : Int32)) := (Cq31.ext E33)
  have Vh38 : Arv Z h33 t31 kb31 .byte (3 : Int32) ((([(own_n0 q5), (own_n1 q5 (8 : Int32)), (own_n1 q5 (16 : Int32))] : List Int32).map (fun c => c.toInt8.toInt32)).map Value.int) (.int (0 : Int32)) := (Bq31.ext E33)
  have Fh39 : Fld Z h33 b33 "com/example/leftmost/leftmost/grammar/Symbol" "name" "Ljava/lang/String;" .null := (D33 (Or.inr (hw _ (List.mem_of_getElem? (i := 61) rfl))) (ty := (.object "java/lang/String")) (by decide))
  have gh40 : n0 ≤ b33 := Nat.le_trans (Nat.le_trans Z0 Kp32.1) (Nat.le_of_eq g33.symm)
  have Fh41 : Fld Z h33 b33 "com/example/leftmost/leftmost/grammar/Symbol" "isVariable" "Z" (.int (0 : Int32)) := (D33 (Or.inr (hw _ (List.mem_of_getElem? (i := 63) rfl))) (ty := .boolean) (by decide))
  have Old42 : Old Z n0 T31.heap := Old30.keep Kq31 (allS gh25 all0)
  have Old43 : Old Z n0 h33 := Old42.ext E33
  obtain ⟨_, _, ⟨T44, L44, k44, n44⟩, -, X44, hSq44, hgr44, ⟨Lc44, hQ44, l44, y44, z44⟩, st44⟩ := X33.specialBackS hx (y := (⟨"com/example/leftmost/leftmost/grammar/Symbol", "<init>", "(Ljava/lang/String;Z)V"⟩ : MethodName)) rfl hown (mvT hZ (hw _ (List.mem_of_getElem? (i := 39) rfl))) (mvT hZ (hw _ (List.mem_of_getElem? (i := 40) rfl))) (mvT hZ (hw _ (List.mem_of_getElem? (i := 41) rfl))) (by decide) (backOfS (W := 1) (own_rm_sym3 l Z a0 hw [] G1 k_EMPTY gl b33 b18 (0 : Int32) (own_n0 q5) (own_n1 q5 (8 : Int32)) (own_n1 q5 (16 : Int32)) t31 (kb31) (.null) ((.int (0 : Int32))) h33 n0 (Nat.le_trans Z0 Kp34.1) Old43 Eh35 Fh36 Fh37 Vh38 hph23 A33 Fh39 gh40 Fh41) hZ (hw _ (List.mem_of_getElem? (i := 41) rfl)) (hw _ (List.mem_of_getElem? (i := 38) rfl)) (by decide) (by decide)) (g := (mkF m 160 #[.val (.int p1), .val (.int p2), .val (.int p3), .val (.int p4), .val (.long q5), .second, .val (.int p6), .val (.int (2 : Int32)), .val (.int (own_t0 q5)), .val (.int (own_t1 q5 (8 : Int32))), .val (.int (own_t1 q5 (16 : Int32))), .val (.int (3 : Int32)), .val (.ref b2), .val (.ref b18), .unset, .unset, .unset] [(.int (0 : Int32)), (.ref b18), (.ref b33), (.ref b33)])) rfl (by rw [hml]; rfl) (Steps.refl _) (a := b33) (argsL := [(.ref b18), (.int (0 : Int32))]) (rest := [(.ref b33)]) (lenOf own_pd16 rfl) rfl (by show 2 * 0 + _ ≤ _; exact Nat.le_of_eq rfl) (hb hby at_160) (fun _ _ => ⟨rfl, e33, (by decide : 4 + 2 ≤ _), (by decide : 12 + 20 ≤ _)⟩)
  dsimp only [Pt.U, Pt.locs, Pt.cells, Pt.slots] at X44 l44 y44 z44 st44 hQ44 hSq44 hgr44
  subst y44 z44
  obtain ⟨Xw44, hS44, hZ44, hown44⟩ := rebS (vm0 := s.vm) ((State.WarmedH.refl s).since 0) (by rw [e33]; exact (Nat.zero_le _)) X44 hSq44 hgr44 hZ hown
  obtain ⟨rfl, Nq44, Kq44, f44_0, f44_1, f44_2⟩ := hQ44
  have N44 : Fr n0 L44 := by rw [l44]; exact Fr.app N31 Nq44
  have Kp45 : Keep h0 T44.heap [] := Kp34.trans Kq44 (allS (Or.inr (Nat.le_trans Kp32.1 (Nat.le_of_eq g33.symm))) all0)
  obtain ⟨_, _, ⟨T46, L46, k46, n46⟩, -, X46, ⟨Lc46, hQ46, l46, y46, z46⟩, st46⟩ := Jvm.LawKit.callS Xw44 hx (y := (⟨"java/util/Optional", "of", "(Ljava/lang/Object;)Ljava/util/Optional;"⟩ : MethodName)) hown44 (mvT hZ44 (hw _ (List.mem_of_getElem? (i := 64) rfl))) (mvT hZ44 (hw _ (List.mem_of_getElem? (i := 65) rfl))) (mvT hZ44 (hw _ (List.mem_of_getElem? (i := 66) rfl))) (mvT hZ44 (hw _ (List.mem_of_getElem? (i := 67) rfl))) (by decide) (backOf (W := 0) (own_rm_of l Z a0 hw [] G1 k_EMPTY gl b33 T44.heap n0 (Nat.le_trans Z0 Kp45.1) ) hZ44 (hw _ (List.mem_of_getElem? (i := 67) rfl)) (hw _ (List.mem_of_getElem? (i := 66) rfl)) (by decide) (by decide)) (g := (mkF m 163 #[.val (.int p1), .val (.int p2), .val (.int p3), .val (.int p4), .val (.long q5), .second, .val (.int p6), .val (.int (2 : Int32)), .val (.int (own_t0 q5)), .val (.int (own_t1 q5 (8 : Int32))), .val (.int (own_t1 q5 (16 : Int32))), .val (.int (3 : Int32)), .val (.ref b2), .val (.ref b18), .unset, .unset, .unset] [(.ref b33)])) rfl (by rw [hml]; rfl) (argsL := [(.ref b33)]) (rest := []) (lenOf own_pd17 rfl) rfl (by show 2 * 0 + _ ≤ _; exact Nat.le_of_eq rfl) (hb hby at_163) (fun _ _ => ⟨rfl, rfl, (by decide : 6 + 1 ≤ _), (by decide : 32 + 1 ≤ _)⟩)
  dsimp only [Pt.U, Pt.locs, Pt.cells, Pt.slots] at X46 l46 y46 z46 st46 hQ46
  subst y46 z46
  obtain ⟨b1_46, rfl, Nq46, Kq46, f46_0, f46_1, f46_2⟩ := hQ46
  have N46 : Fr n0 L46 := by rw [l46]; exact Fr.app N44 Nq46
  have Kp47 : Keep h0 T46.heap [] := Kp45.trans Kq46 all0
  obtain ⟨T48, h48, X48, e48, E48, A48, D48, U48, st48⟩ := newO X46 hx hZ44 hown44 (hw _ (List.mem_of_getElem? (i := 80) rfl)) (hw _ (List.mem_of_getElem? (i := 81) rfl)) (hw _ (List.mem_of_getElem? (i := 82) rfl)) rfl (g := (mkF m 168 #[.val (.int p1), .val (.int p2), .val (.int p3), .val (.int p4), .val (.long q5), .second, .val (.int p6), .val (.int (2 : Int32)), .val (.int (own_t0 q5)), .val (.int (own_t1 q5 (8 : Int32))), .val (.int (own_t1 q5 (16 : Int32))), .val (.int (3 : Int32)), .val (.ref b2), .val (.ref b18), .val (.ref b1_46), .unset, .unset] [])) rfl (hb hby at_168) (by decide) (by decide)
  obtain ⟨b48, g48⟩ : ∃ z, z = T46.heap.size := ⟨_, rfl⟩
  rw [← g48] at A48 D48 U48 st48
  have Kp49 : Keep h0 h48 [] := Kp47.ext E48
  have Fh50 : Fld Z h48 b48 "com/example/leftmost/leftmost/tree/ParseTree$Node" "index" "I" (.int (0 : Int32)) := (D48 (Or.inr (hw _ (List.mem_of_getElem? (i := 88) rfl))) (ty := .int) (by decide))
  have gh51 : n0 ≤ b48 := Nat.le_trans (Nat.le_trans Z0 Kp47.1) (Nat.le_of_eq g48.symm)
  have Fh52 : Fld Z h48 b48 "com/example/leftmost/leftmost/tree/ParseTree$Node" "parent" "I" (.int (0 : Int32)) := (D48 (Or.inr (hw _ (List.mem_of_getElem? (i := 90) rfl))) (ty := .int) (by decide))
  have Fh53 : Fld Z h48 b48 "com/example/leftmost/leftmost/tree/ParseTree$Node" "depth" "I" (.int (0 : Int32)) := (D48 (Or.inr (hw _ (List.mem_of_getElem? (i := 92) rfl))) (ty := .int) (by decide))
  have Fh54 : Fld Z h48 b48 "com/example/leftmost/leftmost/tree/ParseTree$Node" "symbol" "Ljava/util/Optional;" .null := (D48 (Or.inr (hw _ (List.mem_of_getElem? (i := 94) rfl))) (ty := (.object "java/util/Optional")) (by decide))
  obtain ⟨_, _, ⟨T55, L55, k55, n55⟩, -, X55, ⟨Lc55, hQ55, l55, y55, z55⟩, st55⟩ := X48.specialBack hx (y := (⟨"com/example/leftmost/leftmost/tree/ParseTree$Node", "<init>", "(IIILjava/util/Optional;)V"⟩ : MethodName)) rfl hown44 (mvT hZ44 (hw _ (List.mem_of_getElem? (i := 83) rfl))) (mvT hZ44 (hw _ (List.mem_of_getElem? (i := 84) rfl))) (mvT hZ44 (hw _ (List.mem_of_getElem? (i := 85) rfl))) (by decide) (backOf (W := 1) (own_rm_node l Z a0 hw [] G1 k_EMPTY gl b48 p1 p2 p3 b1_46 ((.int (0 : Int32))) ((.int (0 : Int32))) ((.int (0 : Int32))) (.null) h48 n0 (Nat.le_trans Z0 Kp49.1) A48 Fh50 gh51 Fh52 Fh53 Fh54) hZ44 (hw _ (List.mem_of_getElem? (i := 85) rfl)) (hw _ (List.mem_of_getElem? (i := 82) rfl)) (by decide) (by decide)) (g := (mkF m 177 #[.val (.int p1), .val (.int p2), .val (.int p3), .val (.int p4), .val (.long q5), .second, .val (.int p6), .val (.int (2 : Int32)), .val (.int (own_t0 q5)), .val (.int (own_t1 q5 (8 : Int32))), .val (.int (own_t1 q5 (16 : Int32))), .val (.int (3 : Int32)), .val (.ref b2), .val (.ref b18), .val (.ref b1_46), .unset, .unset] [(.ref b1_46), (.int p3), (.int p2), (.int p1), (.ref b48), (.ref b48)])) rfl (by rw [hml]; rfl) (Steps.refl _) (a := b48) (argsL := [(.int p1), (.int p2), (.int p3), (.ref b1_46)]) (rest := [(.ref b48)]) (lenOf own_pd14 rfl) rfl (by show 2 * 0 + _ ≤ _; exact Nat.le_of_eq rfl) (hb hby at_177) (fun _ _ => ⟨rfl, e48, (by decide : 8 + 0 ≤ _), (by decide : 37 + 0 ≤ _)⟩)
  dsimp only [Pt.U, Pt.locs, Pt.cells, Pt.slots] at X55 l55 y55 z55 st55 hQ55
  subst y55 z55
  obtain ⟨rfl, Nq55, Kq55, f55_0, f55_1, f55_2, f55_3, f55_4⟩ := hQ55
  have N55 : Fr n0 L55 := by rw [l55]; exact Fr.app N46 Nq55
  have Kp56 : Keep h0 T55.heap [] := Kp49.trans Kq55 (allS (Or.inr (Nat.le_trans Kp47.1 (Nat.le_of_eq g48.symm))) all0)
  have Eh57 : Exa Z T55.heap b1_46 "java/util/Optional" := ((f46_1.ext E48).keep Kq55)
  have Fh58 : Fld Z T55.heap b1_46 "java/util/Optional" "value" "Ljava/lang/Object;" (.ref b33) := ((f46_2.ext E48).keep Kq55 (ninS (Nat.ne_of_lt (Nat.lt_of_lt_of_le f46_1.lt (Nat.le_of_eq g48.symm))) nin0))
  have Eh59 : Exa Z T55.heap b33 "com/example/leftmost/leftmost/grammar/Symbol" := (((f44_0.keep Kq46).ext E48).keep Kq55)
  have Fh60 : Fld Z T55.heap b33 "com/example/leftmost/leftmost/grammar/Symbol" "isVariable" "Z" (.int (0 : Int32)) := (((f44_2.keep Kq46 nin0).ext E48).keep Kq55 (ninS (Nat.ne_of_lt (Nat.lt_of_lt_of_le (f44_0.keep Kq46).lt (Nat.le_of_eq g48.symm))) nin0))
  obtain ⟨cq61, kq61, q61a, q61b, q61c⟩ := isOf hZ44 rfl f55_0
  obtain ⟨_, _, ⟨T61, L61, k61, n61⟩, -, X61, ⟨Lc61, hQ61, l61, y61, z61⟩, st61⟩ := X55.virtualBack hx (y := (⟨"com/example/leftmost/leftmost/tree/ParseTree$Node", "isLeaf", "()Z"⟩ : MethodName)) (z := (⟨"com/example/leftmost/leftmost/tree/ParseTree$Node", "isLeaf", "()Z"⟩ : MethodName)) hown44 (mvT hZ44 (hw _ (List.mem_of_getElem? (i := 95) rfl))) (mvT hZ44 (hw _ (List.mem_of_getElem? (i := 96) rfl))) (notFace_of_selects (args := #[]) (mvT hZ44 (hw _ (List.mem_of_getElem? (i := 98) rfl)))) (mvT hZ44 (hw _ (List.mem_of_getElem? (i := 98) rfl))) (mvT hZ44 (hw _ (List.mem_of_getElem? (i := 97) rfl))) (by decide) (backOf (W := 0) (own_rm_leaf0 l Z a0 hw [] G1 k_EMPTY gl b48 b1_46 b33 T55.heap n0 (Nat.le_trans Z0 Kp56.1) f55_4 Eh57 Fh58 Eh59 Fh60) hZ44 (hw _ (List.mem_of_getElem? (i := 99) rfl)) (hw _ (List.mem_of_getElem? (i := 82) rfl)) (by decide) (by decide)) q61a q61c (g := (mkF m 197 #[.val (.int p1), .val (.int p2), .val (.int p3), .val (.int p4), .val (.long q5), .second, .val (.int p6), .val (.int (2 : Int32)), .val (.int (own_t0 q5)), .val (.int (own_t1 q5 (8 : Int32))), .val (.int (own_t1 q5 (16 : Int32))), .val (.int (3 : Int32)), .val (.ref b2), .val (.ref b18), .val (.ref b1_46), .val (.ref b48), .val (.int (1 : Int32))] [(.ref b48)])) rfl (by rw [hml]; rfl) (Steps.refl _) (argsL := []) (rest := []) (lenOf own_pd7 rfl) rfl (by show 2 * 0 + _ ≤ _; exact Nat.le_of_eq rfl) (hb hby at_197) (fun _ _ => ⟨rfl, rfl, (by decide : 8 + 0 ≤ _), (by decide : 37 + 0 ≤ _)⟩)
  dsimp only [Pt.U, Pt.locs, Pt.cells, Pt.slots] at X61 l61 y61 z61 st61 hQ61
  subst y61 z61
  obtain ⟨rfl, Nq61, e61⟩ := hQ61
  have N61 : Fr n0 L61 := by rw [l61]; exact Fr.app N55 Nq61
  obtain ⟨fs, hr, hrun, hended, hREW⟩ := X61.leaveW hS44 (by rw [e61]; exact (Nat.le_trans (Nat.le_refl _) (Nat.le_trans (Nat.le_trans Kq46.1 E48.1) Kq55.1))) (v := some (.int (1 : Int32))) (fun h => by rw [Bd.returns] at h; cases h)
  refine ⟨_, _, pre0 _ ?_, hrun, hended, _, _, rfl, ?_, hREW.1, hREW.2.1, hREW.2.2.1, hREW.2.2.2.mono (by decide) (by decide)⟩
  · show Steps p.tables e below (s₁.setTop (mkF m 0 #[.val (.int p1), .val (.int p2), .val (.int p3), .val (.int p4), .val (.long q5), .second, .val (.int p6), .unset, .unset, .unset, .unset, .unset, .unset, .unset, .unset, .unset, .unset] [])) _
    refine XS.iloadN X0.here hx rfl (hb hby at_0) rfl ?_
    show Steps p.tables e below (s₁.setTop (mkF m 1 #[.val (.int p1), .val (.int p2), .val (.int p3), .val (.int p4), .val (.long q5), .second, .val (.int p6), .unset, .unset, .unset, .unset, .unset, .unset, .unset, .unset, .unset, .unset] [(.int p4)])) _
    refine X0.ldcInt hx hown (mvT hZ (hw _ (List.mem_of_getElem? (i := 0) rfl))) (g := (mkF m 1 #[.val (.int p1), .val (.int p2), .val (.int p3), .val (.int p4), .val (.long q5), .second, .val (.int p6), .unset, .unset, .unset, .unset, .unset, .unset, .unset, .unset, .unset, .unset] [(.int p4)])) rfl (hb hby at_1) _ ?_
    show Steps p.tables e below (s₁.setTop (mkF m 3 #[.val (.int p1), .val (.int p2), .val (.int p3), .val (.int p4), .val (.long q5), .second, .val (.int p6), .unset, .unset, .unset, .unset, .unset, .unset, .unset, .unset, .unset, .unset] [(.int (2147483647 : Int32)), (.int p4)])) _
    refine XS.iand X0.here hx rfl (hb hby at_3) rfl ?_
    show Steps p.tables e below (s₁.setTop (mkF m 4 #[.val (.int p1), .val (.int p2), .val (.int p3), .val (.int p4), .val (.long q5), .second, .val (.int p6), .unset, .unset, .unset, .unset, .unset, .unset, .unset, .unset, .unset, .unset] [(.int (p4 &&& (2147483647 : Int32)))])) _
    refine XS.iconst X0.here hx rfl (hb hby at_4) ?_
    show Steps p.tables e below (s₁.setTop (mkF m 5 #[.val (.int p1), .val (.int p2), .val (.int p3), .val (.int p4), .val (.long q5), .second, .val (.int p6), .unset, .unset, .unset, .unset, .unset, .unset, .unset, .unset, .unset, .unset] [(.int (3 : Int32)), (.int (p4 &&& (2147483647 : Int32)))])) _
    refine iremM X0 hx rfl (hb hby at_5) rfl (by decide) ?_
    show Steps p.tables e below (s₁.setTop (mkF m 6 #[.val (.int p1), .val (.int p2), .val (.int p3), .val (.int p4), .val (.long q5), .second, .val (.int p6), .unset, .unset, .unset, .unset, .unset, .unset, .unset, .unset, .unset, .unset] [(.int (own_kd p4))])) _
    rw [hk]
    show Steps p.tables e below (s₁.setTop (mkF m 6 #[.val (.int p1), .val (.int p2), .val (.int p3), .val (.int p4), .val (.long q5), .second, .val (.int p6), .unset, .unset, .unset, .unset, .unset, .unset, .unset, .unset, .unset, .unset] [(.int (2 : Int32))])) _
    refine XS.istore X0.here hx rfl (hb hby at_6) rfl (l' := #[.val (.int p1), .val (.int p2), .val (.int p3), .val (.int p4), .val (.long q5), .second, .val (.int p6), .val (.int (2 : Int32)), .unset, .unset, .unset, .unset, .unset, .unset, .unset, .unset, .unset]) rfl ?_
    show Steps p.tables e below (s₁.setTop (mkF m 8 #[.val (.int p1), .val (.int p2), .val (.int p3), .val (.int p4), .val (.long q5), .second, .val (.int p6), .val (.int (2 : Int32)), .unset, .unset, .unset, .unset, .unset, .unset, .unset, .unset, .unset] [])) _
    refine XS.lload X0.here hx rfl (hb hby at_8) rfl ?_
    show Steps p.tables e below (s₁.setTop (mkF m 10 #[.val (.int p1), .val (.int p2), .val (.int p3), .val (.int p4), .val (.long q5), .second, .val (.int p6), .val (.int (2 : Int32)), .unset, .unset, .unset, .unset, .unset, .unset, .unset, .unset, .unset] [(.long q5)])) _
    refine X0.ldc2Long hx hown (mvT hZ (hw _ (List.mem_of_getElem? (i := 1) rfl))) (g := (mkF m 10 #[.val (.int p1), .val (.int p2), .val (.int p3), .val (.int p4), .val (.long q5), .second, .val (.int p6), .val (.int (2 : Int32)), .unset, .unset, .unset, .unset, .unset, .unset, .unset, .unset, .unset] [(.long q5)])) rfl (hb hby at_10) _ ?_
    show Steps p.tables e below (s₁.setTop (mkF m 13 #[.val (.int p1), .val (.int p2), .val (.int p3), .val (.int p4), .val (.long q5), .second, .val (.int p6), .val (.int (2 : Int32)), .unset, .unset, .unset, .unset, .unset, .unset, .unset, .unset, .unset] [(.long (255 : Int64)), (.long q5)])) _
    refine XS.land X0.here hx rfl (hb hby at_13) rfl ?_
    show Steps p.tables e below (s₁.setTop (mkF m 14 #[.val (.int p1), .val (.int p2), .val (.int p3), .val (.int p4), .val (.long q5), .second, .val (.int p6), .val (.int (2 : Int32)), .unset, .unset, .unset, .unset, .unset, .unset, .unset, .unset, .unset] [(.long (q5 &&& (255 : Int64)))])) _
    refine XS.l2i X0.here hx rfl (hb hby at_14) rfl ?_
    show Steps p.tables e below (s₁.setTop (mkF m 15 #[.val (.int p1), .val (.int p2), .val (.int p3), .val (.int p4), .val (.long q5), .second, .val (.int p6), .val (.int (2 : Int32)), .unset, .unset, .unset, .unset, .unset, .unset, .unset, .unset, .unset] [(.int ((q5 &&& (255 : Int64)).toInt32))])) _
    refine XS.i2c X0.here hx rfl (hb hby at_15) rfl ?_
    show Steps p.tables e below (s₁.setTop (mkF m 16 #[.val (.int p1), .val (.int p2), .val (.int p3), .val (.int p4), .val (.long q5), .second, .val (.int p6), .val (.int (2 : Int32)), .unset, .unset, .unset, .unset, .unset, .unset, .unset, .unset, .unset] [(.int (own_t0 q5))])) _
    refine XS.istore X0.here hx rfl (hb hby at_16) rfl (l' := #[.val (.int p1), .val (.int p2), .val (.int p3), .val (.int p4), .val (.long q5), .second, .val (.int p6), .val (.int (2 : Int32)), .val (.int (own_t0 q5)), .unset, .unset, .unset, .unset, .unset, .unset, .unset, .unset]) rfl ?_
    show Steps p.tables e below (s₁.setTop (mkF m 18 #[.val (.int p1), .val (.int p2), .val (.int p3), .val (.int p4), .val (.long q5), .second, .val (.int p6), .val (.int (2 : Int32)), .val (.int (own_t0 q5)), .unset, .unset, .unset, .unset, .unset, .unset, .unset, .unset] [])) _
    refine XS.lload X0.here hx rfl (hb hby at_18) rfl ?_
    show Steps p.tables e below (s₁.setTop (mkF m 20 #[.val (.int p1), .val (.int p2), .val (.int p3), .val (.int p4), .val (.long q5), .second, .val (.int p6), .val (.int (2 : Int32)), .val (.int (own_t0 q5)), .unset, .unset, .unset, .unset, .unset, .unset, .unset, .unset] [(.long q5)])) _
    refine XS.bipush X0.here hx rfl (hb hby at_20) ?_
    show Steps p.tables e below (s₁.setTop (mkF m 22 #[.val (.int p1), .val (.int p2), .val (.int p3), .val (.int p4), .val (.long q5), .second, .val (.int p6), .val (.int (2 : Int32)), .val (.int (own_t0 q5)), .unset, .unset, .unset, .unset, .unset, .unset, .unset, .unset] [(.int (8 : Int32)), (.long q5)])) _
    refine XS.lushr X0.here hx rfl (hb hby at_22) rfl ?_
    show Steps p.tables e below (s₁.setTop (mkF m 23 #[.val (.int p1), .val (.int p2), .val (.int p3), .val (.int p4), .val (.long q5), .second, .val (.int p6), .val (.int (2 : Int32)), .val (.int (own_t0 q5)), .unset, .unset, .unset, .unset, .unset, .unset, .unset, .unset] [(.long ((q5.toUInt64 >>> ((8 : Int32) &&& 0x3f).toInt64.toUInt64).toInt64))])) _
    refine X0.ldc2Long hx hown (mvT hZ (hw _ (List.mem_of_getElem? (i := 1) rfl))) (g := (mkF m 23 #[.val (.int p1), .val (.int p2), .val (.int p3), .val (.int p4), .val (.long q5), .second, .val (.int p6), .val (.int (2 : Int32)), .val (.int (own_t0 q5)), .unset, .unset, .unset, .unset, .unset, .unset, .unset, .unset] [(.long ((q5.toUInt64 >>> ((8 : Int32) &&& 0x3f).toInt64.toUInt64).toInt64))])) rfl (hb hby at_23) _ ?_
    show Steps p.tables e below (s₁.setTop (mkF m 26 #[.val (.int p1), .val (.int p2), .val (.int p3), .val (.int p4), .val (.long q5), .second, .val (.int p6), .val (.int (2 : Int32)), .val (.int (own_t0 q5)), .unset, .unset, .unset, .unset, .unset, .unset, .unset, .unset] [(.long (255 : Int64)), (.long ((q5.toUInt64 >>> ((8 : Int32) &&& 0x3f).toInt64.toUInt64).toInt64))])) _
    refine XS.land X0.here hx rfl (hb hby at_26) rfl ?_
    show Steps p.tables e below (s₁.setTop (mkF m 27 #[.val (.int p1), .val (.int p2), .val (.int p3), .val (.int p4), .val (.long q5), .second, .val (.int p6), .val (.int (2 : Int32)), .val (.int (own_t0 q5)), .unset, .unset, .unset, .unset, .unset, .unset, .unset, .unset] [(.long (((q5.toUInt64 >>> ((8 : Int32) &&& 0x3f).toInt64.toUInt64).toInt64) &&& (255 : Int64)))])) _
    refine XS.l2i X0.here hx rfl (hb hby at_27) rfl ?_
    show Steps p.tables e below (s₁.setTop (mkF m 28 #[.val (.int p1), .val (.int p2), .val (.int p3), .val (.int p4), .val (.long q5), .second, .val (.int p6), .val (.int (2 : Int32)), .val (.int (own_t0 q5)), .unset, .unset, .unset, .unset, .unset, .unset, .unset, .unset] [(.int ((((q5.toUInt64 >>> ((8 : Int32) &&& 0x3f).toInt64.toUInt64).toInt64) &&& (255 : Int64)).toInt32))])) _
    refine XS.i2c X0.here hx rfl (hb hby at_28) rfl ?_
    show Steps p.tables e below (s₁.setTop (mkF m 29 #[.val (.int p1), .val (.int p2), .val (.int p3), .val (.int p4), .val (.long q5), .second, .val (.int p6), .val (.int (2 : Int32)), .val (.int (own_t0 q5)), .unset, .unset, .unset, .unset, .unset, .unset, .unset, .unset] [(.int (own_t1 q5 (8 : Int32)))])) _
    refine XS.istore X0.here hx rfl (hb hby at_29) rfl (l' := #[.val (.int p1), .val (.int p2), .val (.int p3), .val (.int p4), .val (.long q5), .second, .val (.int p6), .val (.int (2 : Int32)), .val (.int (own_t0 q5)), .val (.int (own_t1 q5 (8 : Int32))), .unset, .unset, .unset, .unset, .unset, .unset, .unset]) rfl ?_
    show Steps p.tables e below (s₁.setTop (mkF m 31 #[.val (.int p1), .val (.int p2), .val (.int p3), .val (.int p4), .val (.long q5), .second, .val (.int p6), .val (.int (2 : Int32)), .val (.int (own_t0 q5)), .val (.int (own_t1 q5 (8 : Int32))), .unset, .unset, .unset, .unset, .unset, .unset, .unset] [])) _
    refine XS.lload X0.here hx rfl (hb hby at_31) rfl ?_
    show Steps p.tables e below (s₁.setTop (mkF m 33 #[.val (.int p1), .val (.int p2), .val (.int p3), .val (.int p4), .val (.long q5), .second, .val (.int p6), .val (.int (2 : Int32)), .val (.int (own_t0 q5)), .val (.int (own_t1 q5 (8 : Int32))), .unset, .unset, .unset, .unset, .unset, .unset, .unset] [(.long q5)])) _
    refine XS.bipush X0.here hx rfl (hb hby at_33) ?_
    show Steps p.tables e below (s₁.setTop (mkF m 35 #[.val (.int p1), .val (.int p2), .val (.int p3), .val (.int p4), .val (.long q5), .second, .val (.int p6), .val (.int (2 : Int32)), .val (.int (own_t0 q5)), .val (.int (own_t1 q5 (8 : Int32))), .unset, .unset, .unset, .unset, .unset, .unset, .unset] [(.int (16 : Int32)), (.long q5)])) _
    refine XS.lushr X0.here hx rfl (hb hby at_35) rfl ?_
    show Steps p.tables e below (s₁.setTop (mkF m 36 #[.val (.int p1), .val (.int p2), .val (.int p3), .val (.int p4), .val (.long q5), .second, .val (.int p6), .val (.int (2 : Int32)), .val (.int (own_t0 q5)), .val (.int (own_t1 q5 (8 : Int32))), .unset, .unset, .unset, .unset, .unset, .unset, .unset] [(.long ((q5.toUInt64 >>> ((16 : Int32) &&& 0x3f).toInt64.toUInt64).toInt64))])) _
    refine X0.ldc2Long hx hown (mvT hZ (hw _ (List.mem_of_getElem? (i := 1) rfl))) (g := (mkF m 36 #[.val (.int p1), .val (.int p2), .val (.int p3), .val (.int p4), .val (.long q5), .second, .val (.int p6), .val (.int (2 : Int32)), .val (.int (own_t0 q5)), .val (.int (own_t1 q5 (8 : Int32))), .unset, .unset, .unset, .unset, .unset, .unset, .unset] [(.long ((q5.toUInt64 >>> ((16 : Int32) &&& 0x3f).toInt64.toUInt64).toInt64))])) rfl (hb hby at_36) _ ?_
    show Steps p.tables e below (s₁.setTop (mkF m 39 #[.val (.int p1), .val (.int p2), .val (.int p3), .val (.int p4), .val (.long q5), .second, .val (.int p6), .val (.int (2 : Int32)), .val (.int (own_t0 q5)), .val (.int (own_t1 q5 (8 : Int32))), .unset, .unset, .unset, .unset, .unset, .unset, .unset] [(.long (255 : Int64)), (.long ((q5.toUInt64 >>> ((16 : Int32) &&& 0x3f).toInt64.toUInt64).toInt64))])) _
    refine XS.land X0.here hx rfl (hb hby at_39) rfl ?_
    show Steps p.tables e below (s₁.setTop (mkF m 40 #[.val (.int p1), .val (.int p2), .val (.int p3), .val (.int p4), .val (.long q5), .second, .val (.int p6), .val (.int (2 : Int32)), .val (.int (own_t0 q5)), .val (.int (own_t1 q5 (8 : Int32))), .unset, .unset, .unset, .unset, .unset, .unset, .unset] [(.long (((q5.toUInt64 >>> ((16 : Int32) &&& 0x3f).toInt64.toUInt64).toInt64) &&& (255 : Int64)))])) _
    refine XS.l2i X0.here hx rfl (hb hby at_40) rfl ?_
    show Steps p.tables e below (s₁.setTop (mkF m 41 #[.val (.int p1), .val (.int p2), .val (.int p3), .val (.int p4), .val (.long q5), .second, .val (.int p6), .val (.int (2 : Int32)), .val (.int (own_t0 q5)), .val (.int (own_t1 q5 (8 : Int32))), .unset, .unset, .unset, .unset, .unset, .unset, .unset] [(.int ((((q5.toUInt64 >>> ((16 : Int32) &&& 0x3f).toInt64.toUInt64).toInt64) &&& (255 : Int64)).toInt32))])) _
    refine XS.i2c X0.here hx rfl (hb hby at_41) rfl ?_
    show Steps p.tables e below (s₁.setTop (mkF m 42 #[.val (.int p1), .val (.int p2), .val (.int p3), .val (.int p4), .val (.long q5), .second, .val (.int p6), .val (.int (2 : Int32)), .val (.int (own_t0 q5)), .val (.int (own_t1 q5 (8 : Int32))), .unset, .unset, .unset, .unset, .unset, .unset, .unset] [(.int (own_t1 q5 (16 : Int32)))])) _
    refine XS.istore X0.here hx rfl (hb hby at_42) rfl (l' := #[.val (.int p1), .val (.int p2), .val (.int p3), .val (.int p4), .val (.long q5), .second, .val (.int p6), .val (.int (2 : Int32)), .val (.int (own_t0 q5)), .val (.int (own_t1 q5 (8 : Int32))), .val (.int (own_t1 q5 (16 : Int32))), .unset, .unset, .unset, .unset, .unset, .unset]) rfl ?_
    show Steps p.tables e below (s₁.setTop (mkF m 44 #[.val (.int p1), .val (.int p2), .val (.int p3), .val (.int p4), .val (.long q5), .second, .val (.int p6), .val (.int (2 : Int32)), .val (.int (own_t0 q5)), .val (.int (own_t1 q5 (8 : Int32))), .val (.int (own_t1 q5 (16 : Int32))), .unset, .unset, .unset, .unset, .unset, .unset] [])) _
    refine XS.iconst X0.here hx rfl (hb hby at_44) ?_
    show Steps p.tables e below (s₁.setTop (mkF m 45 #[.val (.int p1), .val (.int p2), .val (.int p3), .val (.int p4), .val (.long q5), .second, .val (.int p6), .val (.int (2 : Int32)), .val (.int (own_t0 q5)), .val (.int (own_t1 q5 (8 : Int32))), .val (.int (own_t1 q5 (16 : Int32))), .unset, .unset, .unset, .unset, .unset, .unset] [(.int (1 : Int32))])) _
    refine XS.iconst X0.here hx rfl (hb hby at_45) ?_
    show Steps p.tables e below (s₁.setTop (mkF m 46 #[.val (.int p1), .val (.int p2), .val (.int p3), .val (.int p4), .val (.long q5), .second, .val (.int p6), .val (.int (2 : Int32)), .val (.int (own_t0 q5)), .val (.int (own_t1 q5 (8 : Int32))), .val (.int (own_t1 q5 (16 : Int32))), .unset, .unset, .unset, .unset, .unset, .unset] [(.int (2 : Int32)), (.int (1 : Int32))])) _
    refine XS.iload X0.here hx rfl (hb hby at_46) rfl ?_
    show Steps p.tables e below (s₁.setTop (mkF m 48 #[.val (.int p1), .val (.int p2), .val (.int p3), .val (.int p4), .val (.long q5), .second, .val (.int p6), .val (.int (2 : Int32)), .val (.int (own_t0 q5)), .val (.int (own_t1 q5 (8 : Int32))), .val (.int (own_t1 q5 (16 : Int32))), .unset, .unset, .unset, .unset, .unset, .unset] [(.int p6), (.int (2 : Int32)), (.int (1 : Int32))])) _
    refine XS.iconst X0.here hx rfl (hb hby at_48) ?_
    show Steps p.tables e below (s₁.setTop (mkF m 49 #[.val (.int p1), .val (.int p2), .val (.int p3), .val (.int p4), .val (.long q5), .second, .val (.int p6), .val (.int (2 : Int32)), .val (.int (own_t0 q5)), .val (.int (own_t1 q5 (8 : Int32))), .val (.int (own_t1 q5 (16 : Int32))), .unset, .unset, .unset, .unset, .unset, .unset] [(.int (3 : Int32)), (.int p6), (.int (2 : Int32)), (.int (1 : Int32))])) _
    refine XS.iand X0.here hx rfl (hb hby at_49) rfl ?_
    show Steps p.tables e below (s₁.setTop (mkF m 50 #[.val (.int p1), .val (.int p2), .val (.int p3), .val (.int p4), .val (.long q5), .second, .val (.int p6), .val (.int (2 : Int32)), .val (.int (own_t0 q5)), .val (.int (own_t1 q5 (8 : Int32))), .val (.int (own_t1 q5 (16 : Int32))), .unset, .unset, .unset, .unset, .unset, .unset] [(.int (own_a3 p6)), (.int (2 : Int32)), (.int (1 : Int32))])) _
    refine st1 _ ?_
    show Steps p.tables e below (T1.setTop (mkF m 53 #[.val (.int p1), .val (.int p2), .val (.int p3), .val (.int p4), .val (.long q5), .second, .val (.int p6), .val (.int (2 : Int32)), .val (.int (own_t0 q5)), .val (.int (own_t1 q5 (8 : Int32))), .val (.int (own_t1 q5 (16 : Int32))), .unset, .unset, .unset, .unset, .unset, .unset] [(.int (2 : Int32)), (.int (1 : Int32))])) _
    refine XS.iadd X1.here hx rfl (hb hby at_53) rfl ?_
    show Steps p.tables e below (T1.setTop (mkF m 54 #[.val (.int p1), .val (.int p2), .val (.int p3), .val (.int p4), .val (.long q5), .second, .val (.int p6), .val (.int (2 : Int32)), .val (.int (own_t0 q5)), .val (.int (own_t1 q5 (8 : Int32))), .val (.int (own_t1 q5 (16 : Int32))), .unset, .unset, .unset, .unset, .unset, .unset] [(.int (3 : Int32))])) _
    refine XS.istore X1.here hx rfl (hb hby at_54) rfl (l' := #[.val (.int p1), .val (.int p2), .val (.int p3), .val (.int p4), .val (.long q5), .second, .val (.int p6), .val (.int (2 : Int32)), .val (.int (own_t0 q5)), .val (.int (own_t1 q5 (8 : Int32))), .val (.int (own_t1 q5 (16 : Int32))), .val (.int (3 : Int32)), .unset, .unset, .unset, .unset, .unset]) rfl ?_
    show Steps p.tables e below (T1.setTop (mkF m 56 #[.val (.int p1), .val (.int p2), .val (.int p3), .val (.int p4), .val (.long q5), .second, .val (.int p6), .val (.int (2 : Int32)), .val (.int (own_t0 q5)), .val (.int (own_t1 q5 (8 : Int32))), .val (.int (own_t1 q5 (16 : Int32))), .val (.int (3 : Int32)), .unset, .unset, .unset, .unset, .unset] [])) _
    refine XS.iload X1.here hx rfl (hb hby at_56) rfl ?_
    show Steps p.tables e below (T1.setTop (mkF m 58 #[.val (.int p1), .val (.int p2), .val (.int p3), .val (.int p4), .val (.long q5), .second, .val (.int p6), .val (.int (2 : Int32)), .val (.int (own_t0 q5)), .val (.int (own_t1 q5 (8 : Int32))), .val (.int (own_t1 q5 (16 : Int32))), .val (.int (3 : Int32)), .unset, .unset, .unset, .unset, .unset] [(.int (3 : Int32))])) _
    refine XS.iconst X1.here hx rfl (hb hby at_58) ?_
    show Steps p.tables e below (T1.setTop (mkF m 59 #[.val (.int p1), .val (.int p2), .val (.int p3), .val (.int p4), .val (.long q5), .second, .val (.int p6), .val (.int (2 : Int32)), .val (.int (own_t0 q5)), .val (.int (own_t1 q5 (8 : Int32))), .val (.int (own_t1 q5 (16 : Int32))), .val (.int (3 : Int32)), .unset, .unset, .unset, .unset, .unset] [(.int (1 : Int32)), (.int (3 : Int32))])) _
    refine XS.icmpYes X1.here hx rfl (pc0 := 59) (pc' := 75) rfl (hb hby at_59) rfl (feq (by decide : ¬ ((3 : Int32) = (1 : Int32)))).2 (by decide) (by decide) ?_
    show Steps p.tables e below (T1.setTop (mkF m 75 #[.val (.int p1), .val (.int p2), .val (.int p3), .val (.int p4), .val (.long q5), .second, .val (.int p6), .val (.int (2 : Int32)), .val (.int (own_t0 q5)), .val (.int (own_t1 q5 (8 : Int32))), .val (.int (own_t1 q5 (16 : Int32))), .val (.int (3 : Int32)), .unset, .unset, .unset, .unset, .unset] [])) _
    refine XS.iload X1.here hx rfl (hb hby at_75) rfl ?_
    show Steps p.tables e below (T1.setTop (mkF m 77 #[.val (.int p1), .val (.int p2), .val (.int p3), .val (.int p4), .val (.long q5), .second, .val (.int p6), .val (.int (2 : Int32)), .val (.int (own_t0 q5)), .val (.int (own_t1 q5 (8 : Int32))), .val (.int (own_t1 q5 (16 : Int32))), .val (.int (3 : Int32)), .unset, .unset, .unset, .unset, .unset] [(.int (3 : Int32))])) _
    refine XS.iconst X1.here hx rfl (hb hby at_77) ?_
    show Steps p.tables e below (T1.setTop (mkF m 78 #[.val (.int p1), .val (.int p2), .val (.int p3), .val (.int p4), .val (.long q5), .second, .val (.int p6), .val (.int (2 : Int32)), .val (.int (own_t0 q5)), .val (.int (own_t1 q5 (8 : Int32))), .val (.int (own_t1 q5 (16 : Int32))), .val (.int (3 : Int32)), .unset, .unset, .unset, .unset, .unset] [(.int (2 : Int32)), (.int (3 : Int32))])) _
    refine XS.icmpYes X1.here hx rfl (pc0 := 78) (pc' := 99) rfl (hb hby at_78) rfl (feq (by decide : ¬ ((3 : Int32) = (2 : Int32)))).2 (by decide) (by decide) ?_
    show Steps p.tables e below (T1.setTop (mkF m 99 #[.val (.int p1), .val (.int p2), .val (.int p3), .val (.int p4), .val (.long q5), .second, .val (.int p6), .val (.int (2 : Int32)), .val (.int (own_t0 q5)), .val (.int (own_t1 q5 (8 : Int32))), .val (.int (own_t1 q5 (16 : Int32))), .val (.int (3 : Int32)), .unset, .unset, .unset, .unset, .unset] [])) _
    refine XS.iconst X1.here hx rfl (hb hby at_99) ?_
    show Steps p.tables e below (T1.setTop (mkF m 100 #[.val (.int p1), .val (.int p2), .val (.int p3), .val (.int p4), .val (.long q5), .second, .val (.int p6), .val (.int (2 : Int32)), .val (.int (own_t0 q5)), .val (.int (own_t1 q5 (8 : Int32))), .val (.int (own_t1 q5 (16 : Int32))), .val (.int (3 : Int32)), .unset, .unset, .unset, .unset, .unset] [(.int (3 : Int32))])) _
    refine st2 _ ?_
    show Steps p.tables e below (T2.setTop (mkF m 102 #[.val (.int p1), .val (.int p2), .val (.int p3), .val (.int p4), .val (.long q5), .second, .val (.int p6), .val (.int (2 : Int32)), .val (.int (own_t0 q5)), .val (.int (own_t1 q5 (8 : Int32))), .val (.int (own_t1 q5 (16 : Int32))), .val (.int (3 : Int32)), .unset, .unset, .unset, .unset, .unset] [(.ref b2)])) _
    refine XS.dup X2.here hx rfl (hb hby at_102) rfl rfl ?_
    show Steps p.tables e below (T2.setTop (mkF m 103 #[.val (.int p1), .val (.int p2), .val (.int p3), .val (.int p4), .val (.long q5), .second, .val (.int p6), .val (.int (2 : Int32)), .val (.int (own_t0 q5)), .val (.int (own_t1 q5 (8 : Int32))), .val (.int (own_t1 q5 (16 : Int32))), .val (.int (3 : Int32)), .unset, .unset, .unset, .unset, .unset] [(.ref b2), (.ref b2)])) _
    refine XS.iconst X2.here hx rfl (hb hby at_103) ?_
    show Steps p.tables e below (T2.setTop (mkF m 104 #[.val (.int p1), .val (.int p2), .val (.int p3), .val (.int p4), .val (.long q5), .second, .val (.int p6), .val (.int (2 : Int32)), .val (.int (own_t0 q5)), .val (.int (own_t1 q5 (8 : Int32))), .val (.int (own_t1 q5 (16 : Int32))), .val (.int (3 : Int32)), .unset, .unset, .unset, .unset, .unset] [(.int (0 : Int32)), (.ref b2), (.ref b2)])) _
    refine XS.iload X2.here hx rfl (hb hby at_104) rfl ?_
    show Steps p.tables e below (T2.setTop (mkF m 106 #[.val (.int p1), .val (.int p2), .val (.int p3), .val (.int p4), .val (.long q5), .second, .val (.int p6), .val (.int (2 : Int32)), .val (.int (own_t0 q5)), .val (.int (own_t1 q5 (8 : Int32))), .val (.int (own_t1 q5 (16 : Int32))), .val (.int (3 : Int32)), .unset, .unset, .unset, .unset, .unset] [(.int (own_t0 q5)), (.int (0 : Int32)), (.ref b2), (.ref b2)])) _
    refine st6 _ ?_
    show Steps p.tables e below (T6.setTop (mkF m 107 #[.val (.int p1), .val (.int p2), .val (.int p3), .val (.int p4), .val (.long q5), .second, .val (.int p6), .val (.int (2 : Int32)), .val (.int (own_t0 q5)), .val (.int (own_t1 q5 (8 : Int32))), .val (.int (own_t1 q5 (16 : Int32))), .val (.int (3 : Int32)), .unset, .unset, .unset, .unset, .unset] [(.ref b2)])) _
    refine XS.dup X6.here hx rfl (hb hby at_107) rfl rfl ?_
    show Steps p.tables e below (T6.setTop (mkF m 108 #[.val (.int p1), .val (.int p2), .val (.int p3), .val (.int p4), .val (.long q5), .second, .val (.int p6), .val (.int (2 : Int32)), .val (.int (own_t0 q5)), .val (.int (own_t1 q5 (8 : Int32))), .val (.int (own_t1 q5 (16 : Int32))), .val (.int (3 : Int32)), .unset, .unset, .unset, .unset, .unset] [(.ref b2), (.ref b2)])) _
    refine XS.iconst X6.here hx rfl (hb hby at_108) ?_
    show Steps p.tables e below (T6.setTop (mkF m 109 #[.val (.int p1), .val (.int p2), .val (.int p3), .val (.int p4), .val (.long q5), .second, .val (.int p6), .val (.int (2 : Int32)), .val (.int (own_t0 q5)), .val (.int (own_t1 q5 (8 : Int32))), .val (.int (own_t1 q5 (16 : Int32))), .val (.int (3 : Int32)), .unset, .unset, .unset, .unset, .unset] [(.int (1 : Int32)), (.ref b2), (.ref b2)])) _
    refine XS.iload X6.here hx rfl (hb hby at_109) rfl ?_
    show Steps p.tables e below (T6.setTop (mkF m 111 #[.val (.int p1), .val (.int p2), .val (.int p3), .val (.int p4), .val (.long q5), .second, .val (.int p6), .val (.int (2 : Int32)), .val (.int (own_t0 q5)), .val (.int (own_t1 q5 (8 : Int32))), .val (.int (own_t1 q5 (16 : Int32))), .val (.int (3 : Int32)), .unset, .unset, .unset, .unset, .unset] [(.int (own_t1 q5 (8 : Int32))), (.int (1 : Int32)), (.ref b2), (.ref b2)])) _
    refine st11 _ ?_
    show Steps p.tables e below (T11.setTop (mkF m 112 #[.val (.int p1), .val (.int p2), .val (.int p3), .val (.int p4), .val (.long q5), .second, .val (.int p6), .val (.int (2 : Int32)), .val (.int (own_t0 q5)), .val (.int (own_t1 q5 (8 : Int32))), .val (.int (own_t1 q5 (16 : Int32))), .val (.int (3 : Int32)), .unset, .unset, .unset, .unset, .unset] [(.ref b2)])) _
    refine XS.dup X11.here hx rfl (hb hby at_112) rfl rfl ?_
    show Steps p.tables e below (T11.setTop (mkF m 113 #[.val (.int p1), .val (.int p2), .val (.int p3), .val (.int p4), .val (.long q5), .second, .val (.int p6), .val (.int (2 : Int32)), .val (.int (own_t0 q5)), .val (.int (own_t1 q5 (8 : Int32))), .val (.int (own_t1 q5 (16 : Int32))), .val (.int (3 : Int32)), .unset, .unset, .unset, .unset, .unset] [(.ref b2), (.ref b2)])) _
    refine XS.iconst X11.here hx rfl (hb hby at_113) ?_
    show Steps p.tables e below (T11.setTop (mkF m 114 #[.val (.int p1), .val (.int p2), .val (.int p3), .val (.int p4), .val (.long q5), .second, .val (.int p6), .val (.int (2 : Int32)), .val (.int (own_t0 q5)), .val (.int (own_t1 q5 (8 : Int32))), .val (.int (own_t1 q5 (16 : Int32))), .val (.int (3 : Int32)), .unset, .unset, .unset, .unset, .unset] [(.int (2 : Int32)), (.ref b2), (.ref b2)])) _
    refine XS.iload X11.here hx rfl (hb hby at_114) rfl ?_
    show Steps p.tables e below (T11.setTop (mkF m 116 #[.val (.int p1), .val (.int p2), .val (.int p3), .val (.int p4), .val (.long q5), .second, .val (.int p6), .val (.int (2 : Int32)), .val (.int (own_t0 q5)), .val (.int (own_t1 q5 (8 : Int32))), .val (.int (own_t1 q5 (16 : Int32))), .val (.int (3 : Int32)), .unset, .unset, .unset, .unset, .unset] [(.int (own_t1 q5 (16 : Int32))), (.int (2 : Int32)), (.ref b2), (.ref b2)])) _
    refine st15 _ ?_
    show Steps p.tables e below (T15.setTop (mkF m 117 #[.val (.int p1), .val (.int p2), .val (.int p3), .val (.int p4), .val (.long q5), .second, .val (.int p6), .val (.int (2 : Int32)), .val (.int (own_t0 q5)), .val (.int (own_t1 q5 (8 : Int32))), .val (.int (own_t1 q5 (16 : Int32))), .val (.int (3 : Int32)), .unset, .unset, .unset, .unset, .unset] [(.ref b2)])) _
    refine XS.astore X15.here hx rfl (hb hby at_117) rfl rfl (l' := #[.val (.int p1), .val (.int p2), .val (.int p3), .val (.int p4), .val (.long q5), .second, .val (.int p6), .val (.int (2 : Int32)), .val (.int (own_t0 q5)), .val (.int (own_t1 q5 (8 : Int32))), .val (.int (own_t1 q5 (16 : Int32))), .val (.int (3 : Int32)), .val (.ref b2), .unset, .unset, .unset, .unset]) rfl ?_
    show Steps p.tables e below (T15.setTop (mkF m 119 #[.val (.int p1), .val (.int p2), .val (.int p3), .val (.int p4), .val (.long q5), .second, .val (.int p6), .val (.int (2 : Int32)), .val (.int (own_t0 q5)), .val (.int (own_t1 q5 (8 : Int32))), .val (.int (own_t1 q5 (16 : Int32))), .val (.int (3 : Int32)), .val (.ref b2), .unset, .unset, .unset, .unset] [])) _
    refine st18 _ ?_
    show Steps p.tables e below (T18.setTop (mkF m 122 #[.val (.int p1), .val (.int p2), .val (.int p3), .val (.int p4), .val (.long q5), .second, .val (.int p6), .val (.int (2 : Int32)), .val (.int (own_t0 q5)), .val (.int (own_t1 q5 (8 : Int32))), .val (.int (own_t1 q5 (16 : Int32))), .val (.int (3 : Int32)), .val (.ref b2), .unset, .unset, .unset, .unset] [(.ref b18)])) _
    refine XS.dup X18.here hx rfl (hb hby at_122) rfl rfl ?_
    show Steps p.tables e below (T18.setTop (mkF m 123 #[.val (.int p1), .val (.int p2), .val (.int p3), .val (.int p4), .val (.long q5), .second, .val (.int p6), .val (.int (2 : Int32)), .val (.int (own_t0 q5)), .val (.int (own_t1 q5 (8 : Int32))), .val (.int (own_t1 q5 (16 : Int32))), .val (.int (3 : Int32)), .val (.ref b2), .unset, .unset, .unset, .unset] [(.ref b18), (.ref b18)])) _
    refine XS.aload X18.here hx rfl (hb hby at_123) rfl rfl ?_
    show Steps p.tables e below (T18.setTop (mkF m 125 #[.val (.int p1), .val (.int p2), .val (.int p3), .val (.int p4), .val (.long q5), .second, .val (.int p6), .val (.int (2 : Int32)), .val (.int (own_t0 q5)), .val (.int (own_t1 q5 (8 : Int32))), .val (.int (own_t1 q5 (16 : Int32))), .val (.int (3 : Int32)), .val (.ref b2), .unset, .unset, .unset, .unset] [(.ref b2), (.ref b18), (.ref b18)])) _
    refine st31.trans ?_
    show Steps p.tables e below (T31.setTop (mkF m 128 #[.val (.int p1), .val (.int p2), .val (.int p3), .val (.int p4), .val (.long q5), .second, .val (.int p6), .val (.int (2 : Int32)), .val (.int (own_t0 q5)), .val (.int (own_t1 q5 (8 : Int32))), .val (.int (own_t1 q5 (16 : Int32))), .val (.int (3 : Int32)), .val (.ref b2), .unset, .unset, .unset, .unset] [(.ref b18)])) _
    refine XS.astore X31.here hx rfl (hb hby at_128) rfl rfl (l' := #[.val (.int p1), .val (.int p2), .val (.int p3), .val (.int p4), .val (.long q5), .second, .val (.int p6), .val (.int (2 : Int32)), .val (.int (own_t0 q5)), .val (.int (own_t1 q5 (8 : Int32))), .val (.int (own_t1 q5 (16 : Int32))), .val (.int (3 : Int32)), .val (.ref b2), .val (.ref b18), .unset, .unset, .unset]) rfl ?_
    show Steps p.tables e below (T31.setTop (mkF m 130 #[.val (.int p1), .val (.int p2), .val (.int p3), .val (.int p4), .val (.long q5), .second, .val (.int p6), .val (.int (2 : Int32)), .val (.int (own_t0 q5)), .val (.int (own_t1 q5 (8 : Int32))), .val (.int (own_t1 q5 (16 : Int32))), .val (.int (3 : Int32)), .val (.ref b2), .val (.ref b18), .unset, .unset, .unset] [])) _
    refine XS.iload X31.here hx rfl (hb hby at_130) rfl ?_
    show Steps p.tables e below (T31.setTop (mkF m 132 #[.val (.int p1), .val (.int p2), .val (.int p3), .val (.int p4), .val (.long q5), .second, .val (.int p6), .val (.int (2 : Int32)), .val (.int (own_t0 q5)), .val (.int (own_t1 q5 (8 : Int32))), .val (.int (own_t1 q5 (16 : Int32))), .val (.int (3 : Int32)), .val (.ref b2), .val (.ref b18), .unset, .unset, .unset] [(.int (2 : Int32))])) _
    refine XS.ifYes X31.here hx rfl (pc0 := 132) (pc' := 143) rfl (hb hby at_132) rfl ((if0 _ _).trans (feq (by decide : ¬ ((2 : Int32) = (0 : Int32)))).2) (by decide) (by decide) ?_
    show Steps p.tables e below (T31.setTop (mkF m 143 #[.val (.int p1), .val (.int p2), .val (.int p3), .val (.int p4), .val (.long q5), .second, .val (.int p6), .val (.int (2 : Int32)), .val (.int (own_t0 q5)), .val (.int (own_t1 q5 (8 : Int32))), .val (.int (own_t1 q5 (16 : Int32))), .val (.int (3 : Int32)), .val (.ref b2), .val (.ref b18), .unset, .unset, .unset] [])) _
    refine st33 _ ?_
    show Steps p.tables e below (T33.setTop (mkF m 146 #[.val (.int p1), .val (.int p2), .val (.int p3), .val (.int p4), .val (.long q5), .second, .val (.int p6), .val (.int (2 : Int32)), .val (.int (own_t0 q5)), .val (.int (own_t1 q5 (8 : Int32))), .val (.int (own_t1 q5 (16 : Int32))), .val (.int (3 : Int32)), .val (.ref b2), .val (.ref b18), .unset, .unset, .unset] [(.ref b33)])) _
    refine XS.dup X33.here hx rfl (hb hby at_146) rfl rfl ?_
    show Steps p.tables e below (T33.setTop (mkF m 147 #[.val (.int p1), .val (.int p2), .val (.int p3), .val (.int p4), .val (.long q5), .second, .val (.int p6), .val (.int (2 : Int32)), .val (.int (own_t0 q5)), .val (.int (own_t1 q5 (8 : Int32))), .val (.int (own_t1 q5 (16 : Int32))), .val (.int (3 : Int32)), .val (.ref b2), .val (.ref b18), .unset, .unset, .unset] [(.ref b33), (.ref b33)])) _
    refine XS.aload X33.here hx rfl (hb hby at_147) rfl rfl ?_
    show Steps p.tables e below (T33.setTop (mkF m 149 #[.val (.int p1), .val (.int p2), .val (.int p3), .val (.int p4), .val (.long q5), .second, .val (.int p6), .val (.int (2 : Int32)), .val (.int (own_t0 q5)), .val (.int (own_t1 q5 (8 : Int32))), .val (.int (own_t1 q5 (16 : Int32))), .val (.int (3 : Int32)), .val (.ref b2), .val (.ref b18), .unset, .unset, .unset] [(.ref b18), (.ref b33), (.ref b33)])) _
    refine XS.iload X33.here hx rfl (hb hby at_149) rfl ?_
    show Steps p.tables e below (T33.setTop (mkF m 151 #[.val (.int p1), .val (.int p2), .val (.int p3), .val (.int p4), .val (.long q5), .second, .val (.int p6), .val (.int (2 : Int32)), .val (.int (own_t0 q5)), .val (.int (own_t1 q5 (8 : Int32))), .val (.int (own_t1 q5 (16 : Int32))), .val (.int (3 : Int32)), .val (.ref b2), .val (.ref b18), .unset, .unset, .unset] [(.int (2 : Int32)), (.ref b18), (.ref b33), (.ref b33)])) _
    refine XS.iconst X33.here hx rfl (hb hby at_151) ?_
    show Steps p.tables e below (T33.setTop (mkF m 152 #[.val (.int p1), .val (.int p2), .val (.int p3), .val (.int p4), .val (.long q5), .second, .val (.int p6), .val (.int (2 : Int32)), .val (.int (own_t0 q5)), .val (.int (own_t1 q5 (8 : Int32))), .val (.int (own_t1 q5 (16 : Int32))), .val (.int (3 : Int32)), .val (.ref b2), .val (.ref b18), .unset, .unset, .unset] [(.int (1 : Int32)), (.int (2 : Int32)), (.ref b18), (.ref b33), (.ref b33)])) _
    refine XS.icmpYes X33.here hx rfl (pc0 := 152) (pc' := 159) rfl (hb hby at_152) rfl (feq (by decide : ¬ ((2 : Int32) = (1 : Int32)))).2 (by decide) (by decide) ?_
    show Steps p.tables e below (T33.setTop (mkF m 159 #[.val (.int p1), .val (.int p2), .val (.int p3), .val (.int p4), .val (.long q5), .second, .val (.int p6), .val (.int (2 : Int32)), .val (.int (own_t0 q5)), .val (.int (own_t1 q5 (8 : Int32))), .val (.int (own_t1 q5 (16 : Int32))), .val (.int (3 : Int32)), .val (.ref b2), .val (.ref b18), .unset, .unset, .unset] [(.ref b18), (.ref b33), (.ref b33)])) _
    refine XS.iconst X33.here hx rfl (hb hby at_159) ?_
    show Steps p.tables e below (T33.setTop (mkF m 160 #[.val (.int p1), .val (.int p2), .val (.int p3), .val (.int p4), .val (.long q5), .second, .val (.int p6), .val (.int (2 : Int32)), .val (.int (own_t0 q5)), .val (.int (own_t1 q5 (8 : Int32))), .val (.int (own_t1 q5 (16 : Int32))), .val (.int (3 : Int32)), .val (.ref b2), .val (.ref b18), .unset, .unset, .unset] [(.int (0 : Int32)), (.ref b18), (.ref b33), (.ref b33)])) _
    refine st44.trans ?_
    show Steps p.tables e below (T44.setTop (mkF m 163 #[.val (.int p1), .val (.int p2), .val (.int p3), .val (.int p4), .val (.long q5), .second, .val (.int p6), .val (.int (2 : Int32)), .val (.int (own_t0 q5)), .val (.int (own_t1 q5 (8 : Int32))), .val (.int (own_t1 q5 (16 : Int32))), .val (.int (3 : Int32)), .val (.ref b2), .val (.ref b18), .unset, .unset, .unset] [(.ref b33)])) _
    refine st46 _ ?_
    show Steps p.tables e below (T46.setTop (mkF m 166 #[.val (.int p1), .val (.int p2), .val (.int p3), .val (.int p4), .val (.long q5), .second, .val (.int p6), .val (.int (2 : Int32)), .val (.int (own_t0 q5)), .val (.int (own_t1 q5 (8 : Int32))), .val (.int (own_t1 q5 (16 : Int32))), .val (.int (3 : Int32)), .val (.ref b2), .val (.ref b18), .unset, .unset, .unset] [(.ref b1_46)])) _
    refine XS.astore X46.here hx rfl (hb hby at_166) rfl rfl (l' := #[.val (.int p1), .val (.int p2), .val (.int p3), .val (.int p4), .val (.long q5), .second, .val (.int p6), .val (.int (2 : Int32)), .val (.int (own_t0 q5)), .val (.int (own_t1 q5 (8 : Int32))), .val (.int (own_t1 q5 (16 : Int32))), .val (.int (3 : Int32)), .val (.ref b2), .val (.ref b18), .val (.ref b1_46), .unset, .unset]) rfl ?_
    show Steps p.tables e below (T46.setTop (mkF m 168 #[.val (.int p1), .val (.int p2), .val (.int p3), .val (.int p4), .val (.long q5), .second, .val (.int p6), .val (.int (2 : Int32)), .val (.int (own_t0 q5)), .val (.int (own_t1 q5 (8 : Int32))), .val (.int (own_t1 q5 (16 : Int32))), .val (.int (3 : Int32)), .val (.ref b2), .val (.ref b18), .val (.ref b1_46), .unset, .unset] [])) _
    refine st48 _ ?_
    show Steps p.tables e below (T48.setTop (mkF m 171 #[.val (.int p1), .val (.int p2), .val (.int p3), .val (.int p4), .val (.long q5), .second, .val (.int p6), .val (.int (2 : Int32)), .val (.int (own_t0 q5)), .val (.int (own_t1 q5 (8 : Int32))), .val (.int (own_t1 q5 (16 : Int32))), .val (.int (3 : Int32)), .val (.ref b2), .val (.ref b18), .val (.ref b1_46), .unset, .unset] [(.ref b48)])) _
    refine XS.dup X48.here hx rfl (hb hby at_171) rfl rfl ?_
    show Steps p.tables e below (T48.setTop (mkF m 172 #[.val (.int p1), .val (.int p2), .val (.int p3), .val (.int p4), .val (.long q5), .second, .val (.int p6), .val (.int (2 : Int32)), .val (.int (own_t0 q5)), .val (.int (own_t1 q5 (8 : Int32))), .val (.int (own_t1 q5 (16 : Int32))), .val (.int (3 : Int32)), .val (.ref b2), .val (.ref b18), .val (.ref b1_46), .unset, .unset] [(.ref b48), (.ref b48)])) _
    refine XS.iloadN X48.here hx rfl (hb hby at_172) rfl ?_
    show Steps p.tables e below (T48.setTop (mkF m 173 #[.val (.int p1), .val (.int p2), .val (.int p3), .val (.int p4), .val (.long q5), .second, .val (.int p6), .val (.int (2 : Int32)), .val (.int (own_t0 q5)), .val (.int (own_t1 q5 (8 : Int32))), .val (.int (own_t1 q5 (16 : Int32))), .val (.int (3 : Int32)), .val (.ref b2), .val (.ref b18), .val (.ref b1_46), .unset, .unset] [(.int p1), (.ref b48), (.ref b48)])) _
    refine XS.iloadN X48.here hx rfl (hb hby at_173) rfl ?_
    show Steps p.tables e below (T48.setTop (mkF m 174 #[.val (.int p1), .val (.int p2), .val (.int p3), .val (.int p4), .val (.long q5), .second, .val (.int p6), .val (.int (2 : Int32)), .val (.int (own_t0 q5)), .val (.int (own_t1 q5 (8 : Int32))), .val (.int (own_t1 q5 (16 : Int32))), .val (.int (3 : Int32)), .val (.ref b2), .val (.ref b18), .val (.ref b1_46), .unset, .unset] [(.int p2), (.int p1), (.ref b48), (.ref b48)])) _
    refine XS.iloadN X48.here hx rfl (hb hby at_174) rfl ?_
    show Steps p.tables e below (T48.setTop (mkF m 175 #[.val (.int p1), .val (.int p2), .val (.int p3), .val (.int p4), .val (.long q5), .second, .val (.int p6), .val (.int (2 : Int32)), .val (.int (own_t0 q5)), .val (.int (own_t1 q5 (8 : Int32))), .val (.int (own_t1 q5 (16 : Int32))), .val (.int (3 : Int32)), .val (.ref b2), .val (.ref b18), .val (.ref b1_46), .unset, .unset] [(.int p3), (.int p2), (.int p1), (.ref b48), (.ref b48)])) _
    refine XS.aload X48.here hx rfl (hb hby at_175) rfl rfl ?_
    show Steps p.tables e below (T48.setTop (mkF m 177 #[.val (.int p1), .val (.int p2), .val (.int p3), .val (.int p4), .val (.long q5), .second, .val (.int p6), .val (.int (2 : Int32)), .val (.int (own_t0 q5)), .val (.int (own_t1 q5 (8 : Int32))), .val (.int (own_t1 q5 (16 : Int32))), .val (.int (3 : Int32)), .val (.ref b2), .val (.ref b18), .val (.ref b1_46), .unset, .unset] [(.ref b1_46), (.int p3), (.int p2), (.int p1), (.ref b48), (.ref b48)])) _
    refine st55.trans ?_
    show Steps p.tables e below (T55.setTop (mkF m 180 #[.val (.int p1), .val (.int p2), .val (.int p3), .val (.int p4), .val (.long q5), .second, .val (.int p6), .val (.int (2 : Int32)), .val (.int (own_t0 q5)), .val (.int (own_t1 q5 (8 : Int32))), .val (.int (own_t1 q5 (16 : Int32))), .val (.int (3 : Int32)), .val (.ref b2), .val (.ref b18), .val (.ref b1_46), .unset, .unset] [(.ref b48)])) _
    refine XS.astore X55.here hx rfl (hb hby at_180) rfl rfl (l' := #[.val (.int p1), .val (.int p2), .val (.int p3), .val (.int p4), .val (.long q5), .second, .val (.int p6), .val (.int (2 : Int32)), .val (.int (own_t0 q5)), .val (.int (own_t1 q5 (8 : Int32))), .val (.int (own_t1 q5 (16 : Int32))), .val (.int (3 : Int32)), .val (.ref b2), .val (.ref b18), .val (.ref b1_46), .val (.ref b48), .unset]) rfl ?_
    show Steps p.tables e below (T55.setTop (mkF m 182 #[.val (.int p1), .val (.int p2), .val (.int p3), .val (.int p4), .val (.long q5), .second, .val (.int p6), .val (.int (2 : Int32)), .val (.int (own_t0 q5)), .val (.int (own_t1 q5 (8 : Int32))), .val (.int (own_t1 q5 (16 : Int32))), .val (.int (3 : Int32)), .val (.ref b2), .val (.ref b18), .val (.ref b1_46), .val (.ref b48), .unset] [])) _
    refine XS.iload X55.here hx rfl (hb hby at_182) rfl ?_
    show Steps p.tables e below (T55.setTop (mkF m 184 #[.val (.int p1), .val (.int p2), .val (.int p3), .val (.int p4), .val (.long q5), .second, .val (.int p6), .val (.int (2 : Int32)), .val (.int (own_t0 q5)), .val (.int (own_t1 q5 (8 : Int32))), .val (.int (own_t1 q5 (16 : Int32))), .val (.int (3 : Int32)), .val (.ref b2), .val (.ref b18), .val (.ref b1_46), .val (.ref b48), .unset] [(.int (2 : Int32))])) _
    refine XS.iconst X55.here hx rfl (hb hby at_184) ?_
    show Steps p.tables e below (T55.setTop (mkF m 185 #[.val (.int p1), .val (.int p2), .val (.int p3), .val (.int p4), .val (.long q5), .second, .val (.int p6), .val (.int (2 : Int32)), .val (.int (own_t0 q5)), .val (.int (own_t1 q5 (8 : Int32))), .val (.int (own_t1 q5 (16 : Int32))), .val (.int (3 : Int32)), .val (.ref b2), .val (.ref b18), .val (.ref b1_46), .val (.ref b48), .unset] [(.int (1 : Int32)), (.int (2 : Int32))])) _
    refine XS.icmpNo X55.here hx rfl (hb hby at_185) rfl (feq (by decide : ¬ ((2 : Int32) = (1 : Int32)))).1 ?_
    show Steps p.tables e below (T55.setTop (mkF m 188 #[.val (.int p1), .val (.int p2), .val (.int p3), .val (.int p4), .val (.long q5), .second, .val (.int p6), .val (.int (2 : Int32)), .val (.int (own_t0 q5)), .val (.int (own_t1 q5 (8 : Int32))), .val (.int (own_t1 q5 (16 : Int32))), .val (.int (3 : Int32)), .val (.ref b2), .val (.ref b18), .val (.ref b1_46), .val (.ref b48), .unset] [])) _
    refine XS.iconst X55.here hx rfl (hb hby at_188) ?_
    show Steps p.tables e below (T55.setTop (mkF m 189 #[.val (.int p1), .val (.int p2), .val (.int p3), .val (.int p4), .val (.long q5), .second, .val (.int p6), .val (.int (2 : Int32)), .val (.int (own_t0 q5)), .val (.int (own_t1 q5 (8 : Int32))), .val (.int (own_t1 q5 (16 : Int32))), .val (.int (3 : Int32)), .val (.ref b2), .val (.ref b18), .val (.ref b1_46), .val (.ref b48), .unset] [(.int (1 : Int32))])) _
    refine XS.goto X55.here hx rfl (pc0 := 189) (pc' := 193) rfl (hb hby at_189) (by decide) (by decide) ?_
    show Steps p.tables e below (T55.setTop (mkF m 193 #[.val (.int p1), .val (.int p2), .val (.int p3), .val (.int p4), .val (.long q5), .second, .val (.int p6), .val (.int (2 : Int32)), .val (.int (own_t0 q5)), .val (.int (own_t1 q5 (8 : Int32))), .val (.int (own_t1 q5 (16 : Int32))), .val (.int (3 : Int32)), .val (.ref b2), .val (.ref b18), .val (.ref b1_46), .val (.ref b48), .unset] [(.int (1 : Int32))])) _
    refine XS.istore X55.here hx rfl (hb hby at_193) rfl (l' := #[.val (.int p1), .val (.int p2), .val (.int p3), .val (.int p4), .val (.long q5), .second, .val (.int p6), .val (.int (2 : Int32)), .val (.int (own_t0 q5)), .val (.int (own_t1 q5 (8 : Int32))), .val (.int (own_t1 q5 (16 : Int32))), .val (.int (3 : Int32)), .val (.ref b2), .val (.ref b18), .val (.ref b1_46), .val (.ref b48), .val (.int (1 : Int32))]) rfl ?_
    show Steps p.tables e below (T55.setTop (mkF m 195 #[.val (.int p1), .val (.int p2), .val (.int p3), .val (.int p4), .val (.long q5), .second, .val (.int p6), .val (.int (2 : Int32)), .val (.int (own_t0 q5)), .val (.int (own_t1 q5 (8 : Int32))), .val (.int (own_t1 q5 (16 : Int32))), .val (.int (3 : Int32)), .val (.ref b2), .val (.ref b18), .val (.ref b1_46), .val (.ref b48), .val (.int (1 : Int32))] [])) _
    refine XS.aload X55.here hx rfl (hb hby at_195) rfl rfl ?_
    show Steps p.tables e below (T55.setTop (mkF m 197 #[.val (.int p1), .val (.int p2), .val (.int p3), .val (.int p4), .val (.long q5), .second, .val (.int p6), .val (.int (2 : Int32)), .val (.int (own_t0 q5)), .val (.int (own_t1 q5 (8 : Int32))), .val (.int (own_t1 q5 (16 : Int32))), .val (.int (3 : Int32)), .val (.ref b2), .val (.ref b18), .val (.ref b1_46), .val (.ref b48), .val (.int (1 : Int32))] [(.ref b48)])) _
    refine st61.trans ?_
    show Steps p.tables e below (T61.setTop (mkF m 200 #[.val (.int p1), .val (.int p2), .val (.int p3), .val (.int p4), .val (.long q5), .second, .val (.int p6), .val (.int (2 : Int32)), .val (.int (own_t0 q5)), .val (.int (own_t1 q5 (8 : Int32))), .val (.int (own_t1 q5 (16 : Int32))), .val (.int (3 : Int32)), .val (.ref b2), .val (.ref b18), .val (.ref b1_46), .val (.ref b48), .val (.int (1 : Int32))] [(.int (1 : Int32))])) _
    refine XS.iload X61.here hx rfl (hb hby at_200) rfl ?_
    show Steps p.tables e below (T61.setTop (mkF m 202 #[.val (.int p1), .val (.int p2), .val (.int p3), .val (.int p4), .val (.long q5), .second, .val (.int p6), .val (.int (2 : Int32)), .val (.int (own_t0 q5)), .val (.int (own_t1 q5 (8 : Int32))), .val (.int (own_t1 q5 (16 : Int32))), .val (.int (3 : Int32)), .val (.ref b2), .val (.ref b18), .val (.ref b1_46), .val (.ref b48), .val (.int (1 : Int32))] [(.int (1 : Int32)), (.int (1 : Int32))])) _
    refine XS.icmpNo X61.here hx rfl (hb hby at_202) rfl (teq (rfl : (1 : Int32) = (1 : Int32))).2 ?_
    show Steps p.tables e below (T61.setTop (mkF m 205 #[.val (.int p1), .val (.int p2), .val (.int p3), .val (.int p4), .val (.long q5), .second, .val (.int p6), .val (.int (2 : Int32)), .val (.int (own_t0 q5)), .val (.int (own_t1 q5 (8 : Int32))), .val (.int (own_t1 q5 (16 : Int32))), .val (.int (3 : Int32)), .val (.ref b2), .val (.ref b18), .val (.ref b1_46), .val (.ref b48), .val (.int (1 : Int32))] [])) _
    refine XS.iconst X61.here hx rfl (hb hby at_205) ?_
    show Steps p.tables e below (T61.setTop (mkF m 206 #[.val (.int p1), .val (.int p2), .val (.int p3), .val (.int p4), .val (.long q5), .second, .val (.int p6), .val (.int (2 : Int32)), .val (.int (own_t0 q5)), .val (.int (own_t1 q5 (8 : Int32))), .val (.int (own_t1 q5 (16 : Int32))), .val (.int (3 : Int32)), .val (.ref b2), .val (.ref b18), .val (.ref b1_46), .val (.ref b48), .val (.int (1 : Int32))] [(.int (1 : Int32))])) _
    refine XS.goto X61.here hx rfl (pc0 := 206) (pc' := 210) rfl (hb hby at_206) (by decide) (by decide) ?_
    show Steps p.tables e below (T61.setTop (mkF m 210 #[.val (.int p1), .val (.int p2), .val (.int p3), .val (.int p4), .val (.long q5), .second, .val (.int p6), .val (.int (2 : Int32)), .val (.int (own_t0 q5)), .val (.int (own_t1 q5 (8 : Int32))), .val (.int (own_t1 q5 (16 : Int32))), .val (.int (3 : Int32)), .val (.ref b2), .val (.ref b18), .val (.ref b1_46), .val (.ref b48), .val (.int (1 : Int32))] [(.int (1 : Int32))])) _
    exact retN X61 hx (t := .boolean) Bd.returns (by simp) (hb hby at_210) hr
  · show own_Qlaw h0 n0 _ T61.heap _
    exact ⟨rfl, N61⟩
set_option maxRecDepth 65536 in
theorem own_law (l : Launch) (Z : State) (a0 : Array Value) (hw : ∀ d ∈ tables_1, d.before a0 Z = true) (ws : List Jvm.Cond) (G1 : Int32) (k_EMPTY : Addr) (gl : own_Glob Z G1 k_EMPTY) (p1 p2 p3 p4 : Int32) (q5 : Int64) (p6 : Int32) (h0 : Heap) (n0 : Nat) (Z0 : n0 ≤ h0.size) (X00 : Old Z n0 h0) :
    MetFree l x (head1 (Jvm.Cond.code x code maxLocals ret :: ws) room_1) (fun a U => a = #[(.int p1), (.int p2), (.int p3), (.int p4), (.long q5), (.int p6)] ∧ Z.Warmed39 U.vm ∧ U.heap = h0) (fun _ _ _ _ _ => True) (fun _ U o U' => ∃ v L, o = .returned v ∧ own_Qlaw h0 n0 v U'.heap L ∧ ReturnedEndW U o U' L room_1.cells room_1.slots) := by
  rcases own_a3c p6 with hn | hn | hn | hn
  · rcases own_kdc p4 with hk | hk | hk
    · exact own_law10 l Z a0 hw ws G1 k_EMPTY gl p1 p2 p3 p4 q5 p6 h0 n0 Z0 X00 hk hn
    · exact own_law11 l Z a0 hw ws G1 k_EMPTY gl p1 p2 p3 p4 q5 p6 h0 n0 Z0 X00 hk hn
    · exact own_law12 l Z a0 hw ws G1 k_EMPTY gl p1 p2 p3 p4 q5 p6 h0 n0 Z0 X00 hk hn
  · rcases own_kdc p4 with hk | hk | hk
    · exact own_law20 l Z a0 hw ws G1 k_EMPTY gl p1 p2 p3 p4 q5 p6 h0 n0 Z0 X00 hk hn
    · exact own_law21 l Z a0 hw ws G1 k_EMPTY gl p1 p2 p3 p4 q5 p6 h0 n0 Z0 X00 hk hn
    · exact own_law22 l Z a0 hw ws G1 k_EMPTY gl p1 p2 p3 p4 q5 p6 h0 n0 Z0 X00 hk hn
  · rcases own_kdc p4 with hk | hk | hk
    · exact own_law30 l Z a0 hw ws G1 k_EMPTY gl p1 p2 p3 p4 q5 p6 h0 n0 Z0 X00 hk (by rw [hn]; decide)
    · exact own_law31 l Z a0 hw ws G1 k_EMPTY gl p1 p2 p3 p4 q5 p6 h0 n0 Z0 X00 hk (by rw [hn]; decide)
    · exact own_law32 l Z a0 hw ws G1 k_EMPTY gl p1 p2 p3 p4 q5 p6 h0 n0 Z0 X00 hk (by rw [hn]; decide)
  · rcases own_kdc p4 with hk | hk | hk
    · exact own_law30 l Z a0 hw ws G1 k_EMPTY gl p1 p2 p3 p4 q5 p6 h0 n0 Z0 X00 hk (by rw [hn]; decide)
    · exact own_law31 l Z a0 hw ws G1 k_EMPTY gl p1 p2 p3 p4 q5 p6 h0 n0 Z0 X00 hk (by rw [hn]; decide)
    · exact own_law32 l Z a0 hw ws G1 k_EMPTY gl p1 p2 p3 p4 q5 p6 h0 n0 Z0 X00 hk (by rw [hn]; decide)
set_option maxRecDepth 65536 in
set_option maxHeartbeats 40000000 in
theorem comes_1 {Post : Tables → Env → Array Value → State → Outcome → State → Prop} (hpost : ∀ tb e args s v u, (limb_1_1.after args s (.returned v) u = true ∧ limb_1_2.after args s (.returned v) u = true ∧ True) → ReturnedEndW s (.returned v) u (Jvm.fieldLocs frame_1_writes args s ++ Jvm.arrayLocs frame_1_arrays args s ++ Jvm.staticLocs frame_1_statics s) 24 1152 → Post tb e args s (.returned v) u) :
    ArmFor flags0 classFile x code maxLocals ret World_1 tables_1 room_1 Calls_1 rest_1 Pre_1 Post := by
  intro l hfl _ _ p e ha hc hk s m args below hf hA hF happ hP
  obtain ⟨hcalls, hrest, hpre⟩ := hP
  obtain ⟨-, -, -, hnamed, -, -, -, hat⟩ := (Spec.applies_iff hf).mp happ
  obtain ⟨hg, hn⟩ := and_e (Cond.before_iff.mp (show (Jvm.Cond.and given_1 narrow_1).before args s = true from hpre))
  obtain ⟨cj1, cj2⟩ := and_e hg
  obtain ⟨cj3, cj4⟩ := and_e cj2
  obtain ⟨cj5, cj6⟩ := and_e cj4
  obtain ⟨cj7, cj8⟩ := and_e cj6
  obtain ⟨cj9, cj10⟩ := and_e cj8
  obtain ⟨cj11, cj12⟩ := and_e cj10
  obtain ⟨w0, w1, w2, w3, w4, w5, rfl⟩ : ∃ w0 w1 w2 w3 w4 w5 : Value, args = #[w0, w1, w2, w3, w4, w5] := by
    have hs : args.size = 6 := by simpa [Cond.value, given_1] using cj1
    obtain ⟨L⟩ := args
    match L, hs with
    | [w0, w1, w2, w3, w4, w5], _ => exact ⟨w0, w1, w2, w3, w4, w5, rfl⟩
  have hw := fun d (hd : d ∈ tables_1) => atoms_spec (ws := Jvm.Cond.code x code maxLocals ret :: tables_1) hat d (List.mem_cons_of_mem _ hd)
  have hfit : Fit s := fun {y c} hc i hi => by
    obtain ⟨ha, rfl⟩ := Array.getElem?_eq_some_iff.mp hc
    have q := List.all_eq_true.mp ((Array.all_eq_true_iff_forall_mem.mp hF) _ (Array.getElem_mem ha)) i (List.mem_range.mpr hi)
    simpa [Array.getElem?_eq_getElem hi] using q
  obtain ⟨hsets, hown0⟩ := atoms_of _ (rest_1_c_eq ▸ (show rest_1_c.before _ s = true from hrest))
  have hr0 := Cond.before_iff.mp hown0
  obtain ⟨i0, ei0⟩ := is_v cj3
  obtain rfl : w0 = (.int i0) := Option.some.inj ei0
  obtain ⟨i1, ei1⟩ := is_v cj5
  obtain rfl : w1 = (.int i1) := Option.some.inj ei1
  obtain ⟨i2, ei2⟩ := is_v cj7
  obtain rfl : w2 = (.int i2) := Option.some.inj ei2
  obtain ⟨i3, ei3⟩ := is_v cj9
  obtain rfl : w3 = (.int i3) := Option.some.inj ei3
  obtain ⟨i4, ei4⟩ := isL_v cj11
  obtain rfl : w4 = (.long i4) := Option.some.inj ei4
  obtain ⟨i5, ei5⟩ := is_v cj12
  obtain rfl : w5 = (.int i5) := Option.some.inj ei5
  obtain ⟨G1, eG1⟩ := is_v (Cond.before_iff.mp (hsets _ (List.mem_of_getElem? (i := 1) rfl)))
  have O_CS : Sta s s.heap "java/lang/String" "COMPACT_STRINGS" "Z" (.int G1) := Sta.start eG1 (Or.inl (hsets _ (List.mem_of_getElem? (i := 0) rfl)))
  have P_CS : ¬ (G1 = (0 : Int32)) := gotF (Cond.eq_ints eG1 (Term.int_eval (0))) (not_v (Cond.before_iff.mp (hsets _ (List.mem_of_getElem? (i := 2) rfl))))
  obtain ⟨k_EMPTY, ev_EMPTY⟩ := exa_v (Cond.before_iff.mp (hsets _ (List.mem_of_getElem? (i := 11) rfl)))
  have E_EMPTY : Exa s s.heap k_EMPTY "java/util/Optional" := Exa.start ev_EMPTY (Cond.before_iff.mp (hsets _ (List.mem_of_getElem? (i := 11) rfl)))
  have O_EMPTY : Sta s s.heap "java/util/Optional" "EMPTY" "Ljava/util/Optional;" (.ref k_EMPTY) := Sta.start ev_EMPTY (Or.inl (hsets _ (List.mem_of_getElem? (i := 10) rfl)))
  have F_EMPTY : Fld s s.heap k_EMPTY "java/util/Optional" "value" "Ljava/lang/Object;" .null := Fld.start ((fld_at ev_EMPTY).symm.trans (null_v (Cond.before_iff.mp (hsets _ (List.mem_of_getElem? (i := 12) rfl)))))
  obtain ⟨n, o, h1, h2, h3, _, L, rfl, ⟨rfl, N⟩, hq⟩ := own_law l s _ hw tables_1 G1 k_EMPTY ⟨O_CS, P_CS, O_EMPTY, E_EMPTY, F_EMPTY⟩ i0 i1 i2 i3 i4 i5 s.heap s.heap.size (Nat.le_refl _) (Old.start s) p e ha hc hk s m _ below hf ((Spec.applies_iff_loose hf).mp happ).1 ⟨rfl, State.Warmed39.refl s, rfl⟩ trivial
  refine ⟨n, _, h1, h2, h3, hpost _ _ _ _ _ _ ⟨Cond.after_iff.mpr rfl, Cond.after_iff.mpr (eq_i res_at (Term.int_eval (1)) rfl), trivial⟩ ⟨hq.1, hq.2.1, hq.2.2.1, (hq.2.2.2.sift fun y hy => Or.inr (N y hy)).mono (by decide) (by decide)⟩⟩
theorem main_1_1 : Claimed_1_1 := comes_1 fun _ _ _ _ _ _ h hF => ⟨h.1, hF⟩
theorem main_1_2 : Claimed_1_2 := comes_1 fun _ _ _ _ _ _ h hF => ⟨h.2.1, hF⟩
end Jvm.Pilot.@@N@@
namespace Jvm.Pilot.@@N@@
open Jvm Jvm.ClassFile Sem Op Lib Jvm.Free Jvm.Stand Jvm.Pilot.@@N@@.Jvm.D
/-! MADE BY PROGRAM (witnessworld.py) out of the Statement's table words and the real class files: 25 classes; the members and pool entries that the words name. The judged class is class 1, her method 1. -/
namespace start1
open Jvm.ClassFile
def u (s : String) : CpInfo := .utf8 (stringToUtf16 s)
/-- a pool by its gaps: so many unusable entries, then the entry; so many at the end -/
def gap : Nat → List CpInfo → List CpInfo
  | 0, r => r
  | n + 1, r => .unusable :: gap n r
def poolList (es : List (Nat × CpInfo)) (last : Nat) : List CpInfo := es.foldr (fun e r => gap e.1 (e.2 :: r)) (gap last [])
def pool (es : List (Nat × CpInfo)) (last : Nat) : Array CpInfo := ⟨poolList es last⟩
def fileOf (pool : Array CpInfo) (this : Nat) (attrs : Array Attribute := #[]) (ms : Array MethodInfo := #[]) (fl : Nat := 33) (sup : Nat := 0) (ifs : Array Nat := #[]) (fds : Array FieldInfo := #[]) : ClassFile where
  minorVersion := 0
  majorVersion := 65
  constantPool := pool
  accessFlags := fl
  thisClass := this
  superClass := sup
  interfaces := ifs
  fields := fds
  methods := ms
  attributes := attrs
def plain (name : String) (sup : Option ClassId) : Class where
  name := name
  kind := .ordinary
  loader := none
  accessFlags := 33
  super := sup
  interfaces := #[]
  cf := none
  fields := #[]
  methods := #[]
  instanceTypes := #[]
  staticTypes := #[]
  resolved := #[]
  callSites := []
  init := .initialized
  statics := none
  mirror := none

def pool0 : Array CpInfo := pool [(5, u "<init>"), (0, u "()V"), (1, .class_ 10), (1, u "java/lang/Object")] 113

def k0c0 : Code := { maxStack := 0, maxLocals := 1, code := object_method_1_code, exceptionTable := #[], attributes := #[] }
def k0m0 : Method := { name := "<init>", desc := "()V", sig := { parameters := [], returnType := none }, accessFlags := 1, code := some k0c0 }
/-- java/lang/Object -/
def k0 : Class := { plain "java/lang/Object" none with
  accessFlags := 33
  interfaces := #[]
  cf := some (fileOf pool0 8 #[] #[{ accessFlags := 1, nameIndex := 5, descriptorIndex := 6, attributes := #[] }] 33 0 #[] #[])
  fields := #[]
  methods := #[k0m0]
  instanceTypes := #[]
  staticTypes := #[]
  resolved := Array.replicate 124 none
  statics := none }

def pool1 : Array CpInfo := pool [(2, .class_ 4), (1, u "java/lang/Object"), (0, u "<init>"), (0, u "()V"), (0, .integer 2147483647), (0, .long 255), (1, .methodref 11 12), (0, .class_ 13), (0, .nameAndType 14 15), (0, u "java/lang/Math"), (0, u "min"), (0, u "(II)I"), (0, .class_ 17), (0, u "java/lang/String"), (0, .methodref 16 19), (0, .nameAndType 5 20), (0, u "([C)V"), (0, .methodref 22 23), (0, .class_ 24), (0, .nameAndType 25 26), (0, u "java/util/Optional"), (0, u "empty"), (0, u "()Ljava/util/Optional;"), (0, .class_ 28), (0, u "com/example/leftmost/leftmost/grammar/Symbol"), (0, .methodref 27 30), (0, .nameAndType 5 31), (0, u "(Ljava/lang/String;Z)V"), (0, .methodref 22 33), (0, .nameAndType 34 35), (0, u "of"), (0, u "(Ljava/lang/Object;)Ljava/util/Optional;"), (0, .class_ 37), (0, u "com/example/leftmost/leftmost/tree/ParseTree$Node"), (0, .methodref 36 39), (0, .nameAndType 5 40), (0, u "(IIILjava/util/Optional;)V"), (0, .methodref 36 42), (0, .nameAndType 43 44), (0, u "isLeaf"), (0, u "()Z"), (0, .class_ 46), (0, u "com/example/leftmost/leftmost/tree/NodeIsLeafPinLaw"), (2, u "law"), (0, u "(IIIIJI)Z")] 9

def k1m0 : Method := { name := "<init>", desc := "()V", sig := { parameters := [], returnType := none }, accessFlags := 2, code := none }
def k1c1 : Code := { maxStack := 6, maxLocals := 17, code := code, exceptionTable := #[], attributes := #[] }
def k1m1 : Method := { name := "law", desc := "(IIIIJI)Z", sig := { parameters := [.int, .int, .int, .int, .long, .int], returnType := some .boolean }, accessFlags := 9, code := some k1c1 }
/-- com/example/leftmost/leftmost/tree/NodeIsLeafPinLaw -/
def k1 : Class := { plain "com/example/leftmost/leftmost/tree/NodeIsLeafPinLaw" (some 0) with
  accessFlags := 49
  interfaces := #[]
  cf := some (fileOf pool1 45 #[] #[{ accessFlags := 2, nameIndex := 5, descriptorIndex := 6, attributes := #[] }, { accessFlags := 9, nameIndex := 49, descriptorIndex := 50, attributes := #[] }] 49 2 #[] #[])
  fields := #[]
  methods := #[k1m0, k1m1]
  instanceTypes := #[]
  staticTypes := #[]
  resolved := Array.replicate 60 none
  statics := none }

def pool2 : Array CpInfo := pool [(1, .class_ 2), (0, u "java/lang/Math"), (1, .class_ 6), (1, u "java/lang/Object"), (0, u "<init>"), (0, u "()V"), (89, .class_ 100), (1, u "java/lang/Math$RandomNumberGeneratorHolder"), (71, u "negativeZeroFloatBits"), (0, u "J"), (2, u "negativeZeroDoubleBits"), (24, u "min"), (43, u "$assertionsDisabled"), (0, u "Z"), (88, u "(II)I"), (2, u "twoToTheDoubleScaleDown"), (0, u "D"), (4, u "twoToTheDoubleScaleUp"), (9, u "E"), (3, u "PI"), (2, u "TAU"), (2, u "DEGREES_TO_RADIANS"), (0, u "RADIANS_TO_DEGREES")] 94

def k2m0 : Method := { name := "<init>", desc := "()V", sig := { parameters := [], returnType := none }, accessFlags := 2, code := none }
def k2c1 : Code := { maxStack := 2, maxLocals := 2, code := jdk_29_method_69_code, exceptionTable := #[], attributes := #[] }
def k2m1 : Method := { name := "min", desc := "(II)I", sig := { parameters := [.int, .int], returnType := some .int }, accessFlags := 9, code := some k2c1 }
/-- java/lang/Math -/
def k2 : Class := { plain "java/lang/Math" (some 0) with
  accessFlags := 49
  interfaces := #[]
  cf := some (fileOf pool2 1 #[.nestMembers #[98]] #[{ accessFlags := 2, nameIndex := 7, descriptorIndex := 8, attributes := #[] }, { accessFlags := 9, nameIndex := 201, descriptorIndex := 335, attributes := #[] }] 49 4 #[] #[{ accessFlags := 25, nameIndex := 354, descriptorIndex := 339, attributes := #[] }, { accessFlags := 25, nameIndex := 358, descriptorIndex := 339, attributes := #[] }, { accessFlags := 25, nameIndex := 361, descriptorIndex := 339, attributes := #[] }, { accessFlags := 26, nameIndex := 364, descriptorIndex := 339, attributes := #[] }, { accessFlags := 26, nameIndex := 365, descriptorIndex := 339, attributes := #[] }, { accessFlags := 26, nameIndex := 172, descriptorIndex := 173, attributes := #[] }, { accessFlags := 26, nameIndex := 176, descriptorIndex := 173, attributes := #[] }, { accessFlags := 8, nameIndex := 344, descriptorIndex := 339, attributes := #[] }, { accessFlags := 8, nameIndex := 338, descriptorIndex := 339, attributes := #[] }, { accessFlags := 4120, nameIndex := 245, descriptorIndex := 246, attributes := #[] }])
  fields := #[{ name := "E", type := .double, accessFlags := 25, slot := 0, constantValue := 0 }, { name := "PI", type := .double, accessFlags := 25, slot := 1, constantValue := 0 }, { name := "TAU", type := .double, accessFlags := 25, slot := 2, constantValue := 0 }, { name := "DEGREES_TO_RADIANS", type := .double, accessFlags := 26, slot := 3, constantValue := 0 }, { name := "RADIANS_TO_DEGREES", type := .double, accessFlags := 26, slot := 4, constantValue := 0 }, { name := "negativeZeroFloatBits", type := .long, accessFlags := 26, slot := 5, constantValue := 0 }, { name := "negativeZeroDoubleBits", type := .long, accessFlags := 26, slot := 6, constantValue := 0 }, { name := "twoToTheDoubleScaleUp", type := .double, accessFlags := 8, slot := 7, constantValue := 0 }, { name := "twoToTheDoubleScaleDown", type := .double, accessFlags := 8, slot := 8, constantValue := 0 }, { name := "$assertionsDisabled", type := .boolean, accessFlags := 4120, slot := 9, constantValue := 0 }]
  methods := #[k2m0, k2m1]
  instanceTypes := #[]
  staticTypes := #[.double, .double, .double, .double, .double, .long, .long, .double, .double, .boolean]
  resolved := Array.replicate 460 none
  statics := none }

def pool3 : Array CpInfo := pool [(1, .class_ 2), (0, u "java/io/Serializable"), (0, .class_ 4), (0, u "java/lang/Object")] 2

/-- java/io/Serializable -/
def k3 : Class := { plain "java/io/Serializable" (some 0) with
  accessFlags := 1537
  interfaces := #[]
  cf := some (fileOf pool3 1 #[] #[] 1537 3 #[] #[])
  fields := #[]
  methods := #[]
  instanceTypes := #[]
  staticTypes := #[]
  resolved := Array.replicate 7 none
  statics := none }

def pool4 : Array CpInfo := pool [(1, .class_ 2), (0, u "java/lang/Comparable"), (0, .class_ 4), (0, u "java/lang/Object")] 7

/-- java/lang/Comparable -/
def k4 : Class := { plain "java/lang/Comparable" (some 0) with
  accessFlags := 1537
  interfaces := #[]
  cf := some (fileOf pool4 1 #[] #[] 1537 3 #[] #[])
  fields := #[]
  methods := #[]
  instanceTypes := #[]
  staticTypes := #[]
  resolved := Array.replicate 12 none
  statics := none }

def pool5 : Array CpInfo := pool [(2, .class_ 4), (1, u "java/lang/CharSequence"), (42, .class_ 48), (0, u "java/lang/CharSequence$1CodePointIterator"), (10, .class_ 60), (0, u "java/lang/CharSequence$1CharIterator"), (5, .class_ 67), (0, u "java/lang/Object")] 63

/-- java/lang/CharSequence -/
def k5 : Class := { plain "java/lang/CharSequence" (some 0) with
  accessFlags := 1537
  interfaces := #[]
  cf := some (fileOf pool5 2 #[.nestMembers #[47, 59]] #[] 1537 66 #[] #[])
  fields := #[]
  methods := #[]
  instanceTypes := #[]
  staticTypes := #[]
  resolved := Array.replicate 131 none
  statics := none }

def pool6 : Array CpInfo := pool [(1, .class_ 2), (0, u "java/lang/constant/Constable"), (0, .class_ 4), (0, u "java/lang/Object")] 6

/-- java/lang/constant/Constable -/
def k6 : Class := { plain "java/lang/constant/Constable" (some 0) with
  accessFlags := 1537
  interfaces := #[]
  cf := some (fileOf pool6 1 #[] #[] 1537 3 #[] #[])
  fields := #[]
  methods := #[]
  instanceTypes := #[]
  staticTypes := #[]
  resolved := Array.replicate 11 none
  statics := none }

def pool7 : Array CpInfo := pool [(1, .class_ 2), (0, u "java/lang/constant/ConstantDesc"), (0, .class_ 4), (0, u "java/lang/Object")] 32

/-- java/lang/constant/ConstantDesc -/
def k7 : Class := { plain "java/lang/constant/ConstantDesc" (some 0) with
  accessFlags := 1537
  interfaces := #[]
  cf := some (fileOf pool7 1 #[] #[] 1537 3 #[] #[])
  fields := #[]
  methods := #[]
  instanceTypes := #[]
  staticTypes := #[]
  resolved := Array.replicate 37 none
  statics := none }

def pool8 : Array CpInfo := pool [(1, .methodref 2 3), (0, .class_ 4), (0, .nameAndType 5 6), (0, u "java/lang/Object"), (0, u "<init>"), (0, u "()V"), (2, .fieldref 10 11), (0, .class_ 12), (0, .nameAndType 13 14), (0, u "java/lang/String"), (0, u "value"), (0, u "[B"), (0, .fieldref 10 16), (0, .nameAndType 17 18), (0, u "coder"), (0, u "B"), (2, u "hash"), (0, u "I"), (2, u "hashIsZero"), (0, u "Z"), (0, .methodref 10 28), (0, .nameAndType 5 29), (0, u "([CIILjava/lang/Void;)V"), (8, .fieldref 10 39), (0, .nameAndType 40 26), (0, u "COMPACT_STRINGS"), (1, .class_ 44), (1, u "java/lang/StringUTF16"), (0, u "compress"), (1, .methodref 42 48), (0, .nameAndType 49 50), (0, u "coderFromArrayLen"), (0, u "([BI)B"), (91, u "()Z"), (34, .methodref 42 178), (0, .nameAndType 45 179), (0, u "([CII)[B"), (395, .class_ 576), (0, u "java/lang/CharSequence"), (22, u "CASE_INSENSITIVE_ORDER"), (0, u "Ljava/util/Comparator;"), (91, u "isEmpty"), (317, u "([C)V"), (90, u "serialPersistentFields"), (0, u "[Ljava/io/ObjectStreamField;"), (0, .class_ 1104), (0, u "java/lang/String$CaseInsensitiveComparator"), (1, .class_ 1107), (0, u "java/io/Serializable"), (0, .class_ 1109), (0, u "java/lang/Comparable"), (0, .class_ 1111), (0, u "java/lang/constant/Constable"), (0, .class_ 1113), (0, u "java/lang/constant/ConstantDesc"), (2, u "serialVersionUID"), (0, u "J"), (3, u "REPL"), (0, u "C"), (2, u "LATIN1"), (1, u "UTF16")] 323

def k8m0 : Method := { name := "<init>", desc := "()V", sig := { parameters := [], returnType := none }, accessFlags := 1, code := none }
def k8c1 : Code := { maxStack := 5, maxLocals := 2, code := jdk_42_method_3_code, exceptionTable := #[], attributes := #[] }
def k8m1 : Method := { name := "<init>", desc := "([C)V", sig := { parameters := [(.array .char)], returnType := none }, accessFlags := 1, code := some k8c1 }
def k8c2 : Code := { maxStack := 1, maxLocals := 1, code := jdk_42_method_55_code, exceptionTable := #[], attributes := #[] }
def k8m2 : Method := { name := "isEmpty", desc := "()Z", sig := { parameters := [], returnType := some .boolean }, accessFlags := 1, code := some k8c2 }
def k8c3 : Code := { maxStack := 4, maxLocals := 6, code := jdk_42_method_149_code, exceptionTable := #[], attributes := #[] }
def k8m3 : Method := { name := "<init>", desc := "([CIILjava/lang/Void;)V", sig := { parameters := [(.array .char), .int, .int, (.object "java/lang/Void")], returnType := none }, accessFlags := 2, code := some k8c3 }
/-- java/lang/String -/
def k8 : Class := { plain "java/lang/String" (some 0) with
  accessFlags := 49
  interfaces := #[3, 4, 5, 6, 7]
  cf := some (fileOf pool8 10 #[.nestMembers #[1103]] #[{ accessFlags := 1, nameIndex := 5, descriptorIndex := 6, attributes := #[] }, { accessFlags := 1, nameIndex := 5, descriptorIndex := 1010, attributes := #[] }, { accessFlags := 1, nameIndex := 692, descriptorIndex := 142, attributes := #[] }, { accessFlags := 2, nameIndex := 5, descriptorIndex := 29, attributes := #[] }] 49 2 #[1106, 1108, 575, 1110, 1112] #[{ accessFlags := 18, nameIndex := 13, descriptorIndex := 14, attributes := #[] }, { accessFlags := 18, nameIndex := 17, descriptorIndex := 18, attributes := #[] }, { accessFlags := 2, nameIndex := 21, descriptorIndex := 22, attributes := #[] }, { accessFlags := 2, nameIndex := 25, descriptorIndex := 26, attributes := #[] }, { accessFlags := 26, nameIndex := 1116, descriptorIndex := 1117, attributes := #[] }, { accessFlags := 24, nameIndex := 40, descriptorIndex := 26, attributes := #[] }, { accessFlags := 26, nameIndex := 1101, descriptorIndex := 1102, attributes := #[] }, { accessFlags := 26, nameIndex := 1121, descriptorIndex := 1122, attributes := #[] }, { accessFlags := 25, nameIndex := 599, descriptorIndex := 600, attributes := #[] }, { accessFlags := 24, nameIndex := 1125, descriptorIndex := 18, attributes := #[] }, { accessFlags := 24, nameIndex := 1127, descriptorIndex := 18, attributes := #[] }])
  fields := #[{ name := "value", type := (.array .byte), accessFlags := 18, slot := 0, constantValue := 0 }, { name := "coder", type := .byte, accessFlags := 18, slot := 1, constantValue := 0 }, { name := "hash", type := .int, accessFlags := 2, slot := 2, constantValue := 0 }, { name := "hashIsZero", type := .boolean, accessFlags := 2, slot := 3, constantValue := 0 }, { name := "serialVersionUID", type := .long, accessFlags := 26, slot := 0, constantValue := 0 }, { name := "COMPACT_STRINGS", type := .boolean, accessFlags := 24, slot := 1, constantValue := 0 }, { name := "serialPersistentFields", type := (.array (.object "java/io/ObjectStreamField")), accessFlags := 26, slot := 2, constantValue := 0 }, { name := "REPL", type := .char, accessFlags := 26, slot := 3, constantValue := 0 }, { name := "CASE_INSENSITIVE_ORDER", type := (.object "java/util/Comparator"), accessFlags := 25, slot := 4, constantValue := 0 }, { name := "LATIN1", type := .byte, accessFlags := 24, slot := 5, constantValue := 0 }, { name := "UTF16", type := .byte, accessFlags := 24, slot := 6, constantValue := 0 }]
  methods := #[k8m0, k8m1, k8m2, k8m3]
  instanceTypes := #[(.array .byte), .byte, .int, .boolean]
  staticTypes := #[.long, .boolean, (.array (.object "java/io/ObjectStreamField")), .char, (.object "java/util/Comparator"), .byte, .byte]
  resolved := Array.replicate 1451 none
  statics := some 0 }

def pool9 : Array CpInfo := pool [(6, .class_ 8), (1, u "java/lang/Object"), (0, u "<init>"), (0, u "()V"), (1, .class_ 14), (1, u "java/lang/StringUTF16"), (31, u "$assertionsDisabled"), (0, u "Z"), (13, u "HI_BYTE_SHIFT"), (0, u "I"), (2, u "LO_BYTE_SHIFT"), (49, .methodref 12 116), (0, .nameAndType 117 118), (0, u "compress"), (0, u "([CI[BII)I"), (3, u "([CII)[B"), (138, u "coderFromArrayLen"), (0, u "([BI)B"), (106, .class_ 371), (1, u "java/lang/StringUTF16$LinesSpliterator"), (58, u "MAX_LENGTH"), (196, .class_ 628), (0, u "java/lang/StringUTF16$CodePointsSpliterator"), (0, .class_ 630), (0, u "java/lang/StringUTF16$CharsSpliterator")] 4

def k9m0 : Method := { name := "<init>", desc := "()V", sig := { parameters := [], returnType := none }, accessFlags := 0, code := none }
def k9c1 : Code := { maxStack := 2, maxLocals := 2, code := jdk_52_method_15_code, exceptionTable := #[], attributes := #[] }
def k9m1 : Method := { name := "coderFromArrayLen", desc := "([BI)B", sig := { parameters := [(.array .byte), .int], returnType := some .byte }, accessFlags := 8, code := some k9c1 }
def k9c2 : Code := { maxStack := 5, maxLocals := 6, code := jdk_52_method_16_code, exceptionTable := #[], attributes := #[] }
def k9m2 : Method := { name := "compress", desc := "([CII)[B", sig := { parameters := [(.array .char), .int, .int], returnType := some (.array .byte) }, accessFlags := 9, code := some k9c2 }
def k9c3 : Code := { maxStack := 3, maxLocals := 7, code := jdk_52_method_21_code, exceptionTable := #[], attributes := #[] }
def k9m3 : Method := { name := "compress", desc := "([CI[BII)I", sig := { parameters := [(.array .char), .int, (.array .byte), .int, .int], returnType := some .int }, accessFlags := 9, code := some k9c3 }
/-- java/lang/StringUTF16 -/
def k9 : Class := { plain "java/lang/StringUTF16" (some 0) with
  accessFlags := 48
  interfaces := #[]
  cf := some (fileOf pool9 12 #[.nestMembers #[627, 629, 369]] #[{ accessFlags := 0, nameIndex := 9, descriptorIndex := 10, attributes := #[] }, { accessFlags := 8, nameIndex := 261, descriptorIndex := 262, attributes := #[] }, { accessFlags := 9, nameIndex := 117, descriptorIndex := 122, attributes := #[] }, { accessFlags := 9, nameIndex := 117, descriptorIndex := 118, attributes := #[] }] 48 6 #[] #[{ accessFlags := 26, nameIndex := 61, descriptorIndex := 62, attributes := #[] }, { accessFlags := 26, nameIndex := 65, descriptorIndex := 62, attributes := #[] }, { accessFlags := 24, nameIndex := 430, descriptorIndex := 62, attributes := #[] }, { accessFlags := 4120, nameIndex := 46, descriptorIndex := 47, attributes := #[] }])
  fields := #[{ name := "HI_BYTE_SHIFT", type := .int, accessFlags := 26, slot := 0, constantValue := 0 }, { name := "LO_BYTE_SHIFT", type := .int, accessFlags := 26, slot := 1, constantValue := 0 }, { name := "MAX_LENGTH", type := .int, accessFlags := 24, slot := 2, constantValue := 0 }, { name := "$assertionsDisabled", type := .boolean, accessFlags := 4120, slot := 3, constantValue := 0 }]
  methods := #[k9m0, k9m1, k9m2, k9m3]
  instanceTypes := #[]
  staticTypes := #[.int, .int, .int, .boolean]
  resolved := Array.replicate 635 none
  statics := none }

def pool10 : Array CpInfo := pool [(1, .methodref 2 3), (0, .class_ 4), (0, .nameAndType 5 6), (0, u "java/lang/Object"), (0, u "<init>"), (0, u "()V"), (0, .class_ 8), (0, u "java/lang/Record")] 13

def k10c0 : Code := { maxStack := 1, maxLocals := 1, code := jdk_30_method_1_code, exceptionTable := #[], attributes := #[] }
def k10m0 : Method := { name := "<init>", desc := "()V", sig := { parameters := [], returnType := none }, accessFlags := 4, code := some k10c0 }
/-- java/lang/Record -/
def k10 : Class := { plain "java/lang/Record" (some 0) with
  accessFlags := 1057
  interfaces := #[]
  cf := some (fileOf pool10 7 #[] #[{ accessFlags := 4, nameIndex := 5, descriptorIndex := 6, attributes := #[] }] 1057 2 #[] #[])
  fields := #[]
  methods := #[k10m0]
  instanceTypes := #[]
  staticTypes := #[]
  resolved := Array.replicate 22 none
  statics := none }

def pool11 : Array CpInfo := pool [(1, .methodref 2 3), (0, .class_ 4), (0, .nameAndType 5 6), (0, u "java/lang/Record"), (0, u "<init>"), (0, u "()V"), (0, .string 8), (0, u "name"), (0, .methodref 10 11), (0, .class_ 12), (0, .nameAndType 13 14), (0, u "java/util/Objects"), (0, u "requireNonNull"), (0, u "(Ljava/lang/Object;Ljava/lang/String;)Ljava/lang/Object;"), (0, .methodref 16 17), (0, .class_ 18), (0, .nameAndType 19 20), (0, u "java/lang/String"), (0, u "isEmpty"), (0, u "()Z"), (7, .fieldref 29 30), (0, .class_ 31), (0, .nameAndType 8 32), (0, u "com/example/leftmost/leftmost/grammar/Symbol"), (0, u "Ljava/lang/String;"), (0, .fieldref 29 34), (0, .nameAndType 35 36), (0, u "isVariable"), (0, u "Z"), (2, u "(Ljava/lang/String;Z)V"), (71, u "END_OF_INPUT"), (0, u "Lcom/example/leftmost/leftmost/grammar/Symbol;")] 39

def k11c0 : Code := { maxStack := 3, maxLocals := 3, code := prog_16_method_1_code, exceptionTable := #[], attributes := #[] }
def k11m0 : Method := { name := "<init>", desc := "(Ljava/lang/String;Z)V", sig := { parameters := [(.object "java/lang/String"), .boolean], returnType := none }, accessFlags := 1, code := some k11c0 }
def k11c1 : Code := { maxStack := 1, maxLocals := 1, code := prog_16_method_11_code, exceptionTable := #[], attributes := #[] }
def k11m1 : Method := { name := "isVariable", desc := "()Z", sig := { parameters := [], returnType := some .boolean }, accessFlags := 1, code := some k11c1 }
/-- com/example/leftmost/leftmost/grammar/Symbol -/
def k11 : Class := { plain "com/example/leftmost/leftmost/grammar/Symbol" (some 10) with
  accessFlags := 49
  interfaces := #[]
  cf := some (fileOf pool11 29 #[] #[{ accessFlags := 1, nameIndex := 5, descriptorIndex := 39, attributes := #[] }, { accessFlags := 1, nameIndex := 35, descriptorIndex := 20, attributes := #[] }] 49 2 #[] #[{ accessFlags := 18, nameIndex := 8, descriptorIndex := 32, attributes := #[] }, { accessFlags := 18, nameIndex := 35, descriptorIndex := 36, attributes := #[] }, { accessFlags := 25, nameIndex := 111, descriptorIndex := 112, attributes := #[] }])
  fields := #[{ name := "name", type := (.object "java/lang/String"), accessFlags := 18, slot := 0, constantValue := 0 }, { name := "isVariable", type := .boolean, accessFlags := 18, slot := 1, constantValue := 0 }, { name := "END_OF_INPUT", type := (.object "com/example/leftmost/leftmost/grammar/Symbol"), accessFlags := 25, slot := 0, constantValue := 0 }]
  methods := #[k11m0, k11m1]
  instanceTypes := #[(.object "java/lang/String"), .boolean]
  staticTypes := #[(.object "com/example/leftmost/leftmost/grammar/Symbol")]
  resolved := Array.replicate 152 none
  statics := none }

def pool12 : Array CpInfo := pool [(2, .class_ 4), (1, u "java/lang/Object"), (0, u "<init>"), (0, u "()V"), (35, .class_ 44), (1, u "java/util/Objects"), (0, u "requireNonNull"), (0, u "(Ljava/lang/Object;)Ljava/lang/Object;"), (47, u "(Ljava/lang/Object;Ljava/lang/String;)Ljava/lang/Object;")] 89

def k12m0 : Method := { name := "<init>", desc := "()V", sig := { parameters := [], returnType := none }, accessFlags := 2, code := none }
def k12c1 : Code := { maxStack := 2, maxLocals := 1, code := jdk_31_method_10_code, exceptionTable := #[], attributes := #[] }
def k12m1 : Method := { name := "requireNonNull", desc := "(Ljava/lang/Object;)Ljava/lang/Object;", sig := { parameters := [(.object "java/lang/Object")], returnType := some (.object "java/lang/Object") }, accessFlags := 9, code := some k12c1 }
def k12c2 : Code := { maxStack := 3, maxLocals := 2, code := jdk_31_method_11_code, exceptionTable := #[], attributes := #[] }
def k12m2 : Method := { name := "requireNonNull", desc := "(Ljava/lang/Object;Ljava/lang/String;)Ljava/lang/Object;", sig := { parameters := [(.object "java/lang/Object"), (.object "java/lang/String")], returnType := some (.object "java/lang/Object") }, accessFlags := 9, code := some k12c2 }
/-- java/util/Objects -/
def k12 : Class := { plain "java/util/Objects" (some 0) with
  accessFlags := 49
  interfaces := #[]
  cf := some (fileOf pool12 42 #[] #[{ accessFlags := 2, nameIndex := 5, descriptorIndex := 6, attributes := #[] }, { accessFlags := 9, nameIndex := 45, descriptorIndex := 46, attributes := #[] }, { accessFlags := 9, nameIndex := 45, descriptorIndex := 94, attributes := #[] }] 49 2 #[] #[])
  fields := #[]
  methods := #[k12m0, k12m1, k12m2]
  instanceTypes := #[]
  staticTypes := #[]
  resolved := Array.replicate 184 none
  statics := none }

def pool13 : Array CpInfo := pool [(1, .fieldref 2 3), (0, .class_ 4), (0, .nameAndType 5 6), (0, u "java/util/Optional"), (0, u "EMPTY"), (0, u "Ljava/util/Optional;"), (0, .methodref 8 9), (0, .class_ 10), (0, .nameAndType 11 12), (0, u "java/lang/Object"), (0, u "<init>"), (0, u "()V"), (0, .fieldref 2 14), (0, .nameAndType 15 16), (0, u "value"), (0, u "Ljava/lang/Object;"), (0, .methodref 18 19), (0, .class_ 20), (0, .nameAndType 21 22), (0, u "java/util/Objects"), (0, u "requireNonNull"), (0, u "(Ljava/lang/Object;)Ljava/lang/Object;"), (0, .methodref 2 24), (0, .nameAndType 11 25), (0, u "(Ljava/lang/Object;)V"), (19, u "isEmpty"), (0, u "()Z"), (8, u "empty"), (0, u "()Ljava/util/Optional;"), (8, u "(Ljava/lang/Object;)Ljava/util/Optional;"), (7, u "get"), (0, u "()Ljava/lang/Object;"), (7, u "of")] 104

def k13c0 : Code := { maxStack := 1, maxLocals := 1, code := jdk_32_method_1_code, exceptionTable := #[], attributes := #[] }
def k13m0 : Method := { name := "empty", desc := "()Ljava/util/Optional;", sig := { parameters := [], returnType := some (.object "java/util/Optional") }, accessFlags := 9, code := some k13c0 }
def k13c1 : Code := { maxStack := 2, maxLocals := 2, code := jdk_32_method_2_code, exceptionTable := #[], attributes := #[] }
def k13m1 : Method := { name := "<init>", desc := "(Ljava/lang/Object;)V", sig := { parameters := [(.object "java/lang/Object")], returnType := none }, accessFlags := 2, code := some k13c1 }
def k13c2 : Code := { maxStack := 3, maxLocals := 1, code := jdk_32_method_3_code, exceptionTable := #[], attributes := #[] }
def k13m2 : Method := { name := "of", desc := "(Ljava/lang/Object;)Ljava/util/Optional;", sig := { parameters := [(.object "java/lang/Object")], returnType := some (.object "java/util/Optional") }, accessFlags := 9, code := some k13c2 }
def k13c3 : Code := { maxStack := 3, maxLocals := 1, code := jdk_32_method_5_code, exceptionTable := #[], attributes := #[] }
def k13m3 : Method := { name := "get", desc := "()Ljava/lang/Object;", sig := { parameters := [], returnType := some (.object "java/lang/Object") }, accessFlags := 1, code := some k13c3 }
def k13c4 : Code := { maxStack := 1, maxLocals := 1, code := jdk_32_method_7_code, exceptionTable := #[], attributes := #[] }
def k13m4 : Method := { name := "isEmpty", desc := "()Z", sig := { parameters := [], returnType := some .boolean }, accessFlags := 1, code := some k13c4 }
/-- java/util/Optional -/
def k13 : Class := { plain "java/util/Optional" (some 0) with
  accessFlags := 49
  interfaces := #[]
  cf := some (fileOf pool13 2 #[] #[{ accessFlags := 9, nameIndex := 55, descriptorIndex := 56, attributes := #[] }, { accessFlags := 2, nameIndex := 11, descriptorIndex := 25, attributes := #[] }, { accessFlags := 9, nameIndex := 82, descriptorIndex := 65, attributes := #[] }, { accessFlags := 1, nameIndex := 73, descriptorIndex := 74, attributes := #[] }, { accessFlags := 1, nameIndex := 45, descriptorIndex := 46, attributes := #[] }] 49 8 #[] #[{ accessFlags := 26, nameIndex := 5, descriptorIndex := 6, attributes := #[] }, { accessFlags := 18, nameIndex := 15, descriptorIndex := 16, attributes := #[] }])
  fields := #[{ name := "EMPTY", type := (.object "java/util/Optional"), accessFlags := 26, slot := 0, constantValue := 0 }, { name := "value", type := (.object "java/lang/Object"), accessFlags := 18, slot := 0, constantValue := 0 }]
  methods := #[k13m0, k13m1, k13m2, k13m3, k13m4]
  instanceTypes := #[(.object "java/lang/Object")]
  staticTypes := #[(.object "java/util/Optional")]
  resolved := Array.replicate 187 none
  statics := some 1 }

def pool14 : Array CpInfo := pool [(1, .methodref 2 3), (0, .class_ 4), (0, .nameAndType 5 6), (0, u "java/lang/Record"), (0, u "<init>"), (0, u "()V"), (0, .fieldref 8 9), (0, .class_ 10), (0, .nameAndType 11 12), (0, u "com/example/leftmost/leftmost/tree/ParseTree$Node"), (0, u "index"), (0, u "I"), (0, .fieldref 8 14), (0, .nameAndType 15 12), (0, u "parent"), (0, .fieldref 8 17), (0, .nameAndType 18 12), (0, u "depth"), (0, .fieldref 8 20), (0, .nameAndType 21 22), (0, u "symbol"), (0, u "Ljava/util/Optional;"), (0, .methodref 24 25), (0, .class_ 26), (0, .nameAndType 27 28), (0, u "java/util/Optional"), (0, u "isEmpty"), (0, u "()Z"), (0, .methodref 24 30), (0, .nameAndType 31 32), (0, u "get"), (0, u "()Ljava/lang/Object;"), (0, .class_ 34), (0, u "com/example/leftmost/leftmost/grammar/Symbol"), (0, .methodref 33 36), (0, .nameAndType 37 28), (0, u "isVariable"), (21, u "(IIILjava/util/Optional;)V"), (4, u "isLeaf"), (11, .class_ 77), (0, u "com/example/leftmost/leftmost/tree/ParseTree")] 22

def k14c0 : Code := { maxStack := 2, maxLocals := 5, code := prog_64_method_1_code, exceptionTable := #[], attributes := #[] }
def k14m0 : Method := { name := "<init>", desc := "(IIILjava/util/Optional;)V", sig := { parameters := [.int, .int, .int, (.object "java/util/Optional")], returnType := none }, accessFlags := 1, code := some k14c0 }
def k14c1 : Code := { maxStack := 1, maxLocals := 1, code := prog_64_method_2_code, exceptionTable := #[], attributes := #[] }
def k14m1 : Method := { name := "isLeaf", desc := "()Z", sig := { parameters := [], returnType := some .boolean }, accessFlags := 1, code := some k14c1 }
/-- com/example/leftmost/leftmost/tree/ParseTree$Node -/
def k14 : Class := { plain "com/example/leftmost/leftmost/tree/ParseTree$Node" (some 10) with
  accessFlags := 49
  interfaces := #[]
  cf := some (fileOf pool14 8 #[.nestHost 76] #[{ accessFlags := 1, nameIndex := 5, descriptorIndex := 59, attributes := #[] }, { accessFlags := 1, nameIndex := 64, descriptorIndex := 28, attributes := #[] }] 49 2 #[] #[{ accessFlags := 18, nameIndex := 11, descriptorIndex := 12, attributes := #[] }, { accessFlags := 18, nameIndex := 15, descriptorIndex := 12, attributes := #[] }, { accessFlags := 18, nameIndex := 18, descriptorIndex := 12, attributes := #[] }, { accessFlags := 18, nameIndex := 21, descriptorIndex := 22, attributes := #[] }])
  fields := #[{ name := "index", type := .int, accessFlags := 18, slot := 0, constantValue := 0 }, { name := "parent", type := .int, accessFlags := 18, slot := 1, constantValue := 0 }, { name := "depth", type := .int, accessFlags := 18, slot := 2, constantValue := 0 }, { name := "symbol", type := (.object "java/util/Optional"), accessFlags := 18, slot := 3, constantValue := 0 }]
  methods := #[k14m0, k14m1]
  instanceTypes := #[.int, .int, .int, (.object "java/util/Optional")]
  staticTypes := #[]
  resolved := Array.replicate 100 none
  statics := none }

def pool15 : Array CpInfo := pool [(4, .class_ 6), (1, u "java/lang/Object"), (0, u "<init>"), (0, u "()V"), (5, .class_ 16), (1, u "java/lang/StringLatin1"), (104, u "$assertionsDisabled"), (0, u "Z"), (98, .class_ 223), (1, u "java/lang/StringLatin1$LinesSpliterator"), (166, .class_ 391), (0, u "java/lang/StringLatin1$CharsSpliterator")] 3

def k15m0 : Method := { name := "<init>", desc := "()V", sig := { parameters := [], returnType := none }, accessFlags := 0, code := none }
/-- java/lang/StringLatin1 -/
def k15 : Class := { plain "java/lang/StringLatin1" (some 0) with
  accessFlags := 48
  interfaces := #[]
  cf := some (fileOf pool15 14 #[.nestMembers #[390, 221]] #[{ accessFlags := 0, nameIndex := 7, descriptorIndex := 8, attributes := #[] }] 48 4 #[] #[{ accessFlags := 4120, nameIndex := 121, descriptorIndex := 122, attributes := #[] }])
  fields := #[{ name := "$assertionsDisabled", type := .boolean, accessFlags := 4120, slot := 0, constantValue := 0 }]
  methods := #[k15m0]
  instanceTypes := #[]
  staticTypes := #[.boolean]
  resolved := Array.replicate 395 none
  statics := none }

def pool16 : Array CpInfo := pool [(2, .class_ 4), (1, u "java/lang/Object"), (0, u "<init>"), (0, u "()V"), (17, .class_ 26), (1, u "jdk/internal/util/Preconditions"), (28, .class_ 56), (0, u "jdk/internal/util/Preconditions$4"), (57, .class_ 115), (0, u "jdk/internal/util/Preconditions$1"), (7, u "SIOOBE_FORMATTER"), (0, u "Ljava/util/function/BiFunction;"), (0, .class_ 126), (0, u "jdk/internal/util/Preconditions$2"), (3, u "AIOOBE_FORMATTER"), (0, .class_ 132), (0, u "jdk/internal/util/Preconditions$3"), (3, u "IOOBE_FORMATTER")] 57

def k16m0 : Method := { name := "<init>", desc := "()V", sig := { parameters := [], returnType := none }, accessFlags := 1, code := none }
/-- jdk/internal/util/Preconditions -/
def k16 : Class := { plain "jdk/internal/util/Preconditions" (some 0) with
  accessFlags := 33
  interfaces := #[]
  cf := some (fileOf pool16 24 #[.nestMembers #[55, 131, 125, 114]] #[{ accessFlags := 1, nameIndex := 5, descriptorIndex := 6, attributes := #[] }] 33 2 #[] #[{ accessFlags := 25, nameIndex := 123, descriptorIndex := 124, attributes := #[] }, { accessFlags := 25, nameIndex := 130, descriptorIndex := 124, attributes := #[] }, { accessFlags := 25, nameIndex := 136, descriptorIndex := 124, attributes := #[] }])
  fields := #[{ name := "SIOOBE_FORMATTER", type := (.object "java/util/function/BiFunction"), accessFlags := 25, slot := 0, constantValue := 0 }, { name := "AIOOBE_FORMATTER", type := (.object "java/util/function/BiFunction"), accessFlags := 25, slot := 1, constantValue := 0 }, { name := "IOOBE_FORMATTER", type := (.object "java/util/function/BiFunction"), accessFlags := 25, slot := 2, constantValue := 0 }]
  methods := #[k16m0]
  instanceTypes := #[]
  staticTypes := #[(.object "java/util/function/BiFunction"), (.object "java/util/function/BiFunction"), (.object "java/util/function/BiFunction")]
  resolved := Array.replicate 194 none
  statics := some 2 }

def pool17 : Array CpInfo := pool [(9, u "<init>"), (6, .class_ 18), (1, u "java/lang/Object"), (0, u "()V"), (1, .class_ 23), (1, u "jdk/internal/util/ArraysSupport"), (0, u "LOG2_ARRAY_LONG_INDEX_SCALE"), (0, u "I"), (2, u "U"), (0, u "Ljdk/internal/misc/Unsafe;"), (8, u "BIG_ENDIAN"), (0, u "Z"), (8, u "LOG2_BYTE_BIT_SIZE"), (4, u "LOG2_ARRAY_INT_INDEX_SCALE"), (54, u "JLA"), (0, u "Ljdk/internal/access/JavaLangAccess;"), (11, u "LOG2_ARRAY_BOOLEAN_INDEX_SCALE"), (9, u "LOG2_ARRAY_BYTE_INDEX_SCALE"), (5, u "LOG2_ARRAY_CHAR_INDEX_SCALE"), (5, u "LOG2_ARRAY_SHORT_INDEX_SCALE"), (18, u "LOG2_ARRAY_FLOAT_INDEX_SCALE"), (24, u "LOG2_ARRAY_DOUBLE_INDEX_SCALE"), (89, u "T_BOOLEAN"), (2, u "T_CHAR"), (1, u "T_FLOAT"), (1, u "T_DOUBLE"), (1, u "T_BYTE"), (1, u "T_SHORT"), (1, u "T_INT"), (1, u "T_LONG"), (1, u "SOFT_MAX_ARRAY_LENGTH")] 83

def k17m0 : Method := { name := "<init>", desc := "()V", sig := { parameters := [], returnType := none }, accessFlags := 2, code := none }
/-- jdk/internal/util/ArraysSupport -/
def k17 : Class := { plain "jdk/internal/util/ArraysSupport" (some 0) with
  accessFlags := 33
  interfaces := #[]
  cf := some (fileOf pool17 21 #[] #[{ accessFlags := 2, nameIndex := 9, descriptorIndex := 19, attributes := #[] }] 33 16 #[] #[{ accessFlags := 24, nameIndex := 28, descriptorIndex := 29, attributes := #[] }, { accessFlags := 26, nameIndex := 38, descriptorIndex := 39, attributes := #[] }, { accessFlags := 25, nameIndex := 121, descriptorIndex := 25, attributes := #[] }, { accessFlags := 25, nameIndex := 131, descriptorIndex := 25, attributes := #[] }, { accessFlags := 25, nameIndex := 137, descriptorIndex := 25, attributes := #[] }, { accessFlags := 25, nameIndex := 143, descriptorIndex := 25, attributes := #[] }, { accessFlags := 25, nameIndex := 53, descriptorIndex := 25, attributes := #[] }, { accessFlags := 25, nameIndex := 24, descriptorIndex := 25, attributes := #[] }, { accessFlags := 25, nameIndex := 162, descriptorIndex := 25, attributes := #[] }, { accessFlags := 25, nameIndex := 187, descriptorIndex := 25, attributes := #[] }, { accessFlags := 26, nameIndex := 48, descriptorIndex := 25, attributes := #[] }, { accessFlags := 25, nameIndex := 277, descriptorIndex := 25, attributes := #[] }, { accessFlags := 25, nameIndex := 280, descriptorIndex := 25, attributes := #[] }, { accessFlags := 25, nameIndex := 282, descriptorIndex := 25, attributes := #[] }, { accessFlags := 25, nameIndex := 284, descriptorIndex := 25, attributes := #[] }, { accessFlags := 25, nameIndex := 286, descriptorIndex := 25, attributes := #[] }, { accessFlags := 25, nameIndex := 288, descriptorIndex := 25, attributes := #[] }, { accessFlags := 25, nameIndex := 290, descriptorIndex := 25, attributes := #[] }, { accessFlags := 25, nameIndex := 292, descriptorIndex := 25, attributes := #[] }, { accessFlags := 26, nameIndex := 108, descriptorIndex := 109, attributes := #[] }, { accessFlags := 25, nameIndex := 294, descriptorIndex := 25, attributes := #[] }])
  fields := #[{ name := "U", type := (.object "jdk/internal/misc/Unsafe"), accessFlags := 24, slot := 0, constantValue := 0 }, { name := "BIG_ENDIAN", type := .boolean, accessFlags := 26, slot := 1, constantValue := 0 }, { name := "LOG2_ARRAY_BOOLEAN_INDEX_SCALE", type := .int, accessFlags := 25, slot := 2, constantValue := 0 }, { name := "LOG2_ARRAY_BYTE_INDEX_SCALE", type := .int, accessFlags := 25, slot := 3, constantValue := 0 }, { name := "LOG2_ARRAY_CHAR_INDEX_SCALE", type := .int, accessFlags := 25, slot := 4, constantValue := 0 }, { name := "LOG2_ARRAY_SHORT_INDEX_SCALE", type := .int, accessFlags := 25, slot := 5, constantValue := 0 }, { name := "LOG2_ARRAY_INT_INDEX_SCALE", type := .int, accessFlags := 25, slot := 6, constantValue := 0 }, { name := "LOG2_ARRAY_LONG_INDEX_SCALE", type := .int, accessFlags := 25, slot := 7, constantValue := 0 }, { name := "LOG2_ARRAY_FLOAT_INDEX_SCALE", type := .int, accessFlags := 25, slot := 8, constantValue := 0 }, { name := "LOG2_ARRAY_DOUBLE_INDEX_SCALE", type := .int, accessFlags := 25, slot := 9, constantValue := 0 }, { name := "LOG2_BYTE_BIT_SIZE", type := .int, accessFlags := 26, slot := 10, constantValue := 0 }, { name := "T_BOOLEAN", type := .int, accessFlags := 25, slot := 11, constantValue := 0 }, { name := "T_CHAR", type := .int, accessFlags := 25, slot := 12, constantValue := 0 }, { name := "T_FLOAT", type := .int, accessFlags := 25, slot := 13, constantValue := 0 }, { name := "T_DOUBLE", type := .int, accessFlags := 25, slot := 14, constantValue := 0 }, { name := "T_BYTE", type := .int, accessFlags := 25, slot := 15, constantValue := 0 }, { name := "T_SHORT", type := .int, accessFlags := 25, slot := 16, constantValue := 0 }, { name := "T_INT", type := .int, accessFlags := 25, slot := 17, constantValue := 0 }, { name := "T_LONG", type := .int, accessFlags := 25, slot := 18, constantValue := 0 }, { name := "JLA", type := (.object "jdk/internal/access/JavaLangAccess"), accessFlags := 26, slot := 19, constantValue := 0 }, { name := "SOFT_MAX_ARRAY_LENGTH", type := .int, accessFlags := 25, slot := 20, constantValue := 0 }]
  methods := #[k17m0]
  instanceTypes := #[]
  staticTypes := #[(.object "jdk/internal/misc/Unsafe"), .boolean, .int, .int, .int, .int, .int, .int, .int, .int, .int, .int, .int, .int, .int, .int, .int, .int, .int, (.object "jdk/internal/access/JavaLangAccess"), .int]
  resolved := Array.replicate 378 none
  statics := none }

def pool18 : Array CpInfo := pool [(1, u "java/lang/Cloneable"), (0, .class_ 1), (0, u "java/lang/Object"), (0, .class_ 3)] 3

/-- java/lang/Cloneable -/
def k18 : Class := { plain "java/lang/Cloneable" (some 0) with
  accessFlags := 1537
  interfaces := #[]
  cf := some (fileOf pool18 2 #[] #[] 1537 4 #[] #[])
  fields := #[]
  methods := #[]
  instanceTypes := #[]
  staticTypes := #[]
  resolved := Array.replicate 8 none
  statics := none }

/-- the primitive byte -/
def k19 : Class := { plain "byte" none with kind := .primitive 'B', accessFlags := 0x411 }
/-- [B -/
def k20 : Class := { plain "[B" (some 0) with kind := .array 19 .byte, interfaces := #[18, 3], accessFlags := 1041 }

/-- the primitive char -/
def k21 : Class := { plain "char" none with kind := .primitive 'C', accessFlags := 0x411 }
/-- [C -/
def k22 : Class := { plain "[C" (some 0) with kind := .array 21 .char, interfaces := #[18, 3], accessFlags := 1041 }

/-- the primitive int -/
def k23 : Class := { plain "int" none with kind := .primitive 'I', accessFlags := 0x411 }
/-- [I -/
def k24 : Class := { plain "[I" (some 0) with kind := .array 23 .int, interfaces := #[18, 3], accessFlags := 1041 }

def heap : Heap := #[{ cls := 8, slots := #[.long 0, .int 1, .null, .int 0, .null, .int 0, .int 0], vm := .statics 8 },
  { cls := 13, slots := #[.ref 3], vm := .statics 13 },
  { cls := 16, slots := #[.null, .null, .null], vm := .statics 16 },
  { cls := 13, slots := #[.null], vm := .none }]
def classes : Array Class := #[k0, k1, k2, k3, k4, k5, k6, k7, k8, k9, k10, k11, k12, k13, k14, k15, k16, k17, k18, k19, k20, k21, k22, k23, k24]
def interned : List (Array UInt16 × Addr) := []
def slotsUsed : Nat := 12
def theMethod : MethodId := ⟨1, 1⟩
def args0 : Array Value := #[.int 5, .int 6, .int 7, .int 8, .long 9, .int 10]
def aboutOver (below : List Frame) : State where
  vm := { classes := classes, interned := interned.toArray }
  heap := heap
  slotsUsed := slotsUsed
  threads := #[{ frames := .invoking theMethod args0 :: below }]
def below0 : List Frame := [.native { method := ⟨0, 0⟩, args := #[] }]
def about1 : State := aboutOver below0
def p0 : Program := .bare "" "" ""
def e0 : Env := launch0.env 0 0 0
theorem w_frames : about1.frames = Frame.invoking theMethod args0 :: below0 := rfl
set_option maxRecDepth 65536 in
theorem w_args : argsFit about1.vm theMethod args0 = true := by decide +kernel
set_option maxRecDepth 65536 in
theorem w_heap : heapFits about1 = true := by decide +kernel
set_option maxRecDepth 65536 in
theorem w_runnable : about1.curStatus? = some .runnable := by decide +kernel
set_option maxRecDepth 65536 in
theorem w_alone : about1.alone = true := by decide +kernel
set_option maxRecDepth 65536 in
theorem w_named : about1.methodNamed? x = some theMethod := by decide +kernel
set_option maxRecDepth 65536 in
theorem w_hears : about1.hears theMethod below0 = true := by decide +kernel
set_option maxRecDepth 65536 in
theorem w_ripe : about1.ripe theMethod args0 below0 = true := by decide +kernel
theorem w_running : about1.status = .running := rfl
set_option maxRecDepth 65536 in
theorem w_room : about1.hasRoom e0.platform room_1 = true :=
  launch0.hasRoom_least _ room_1 (by decide +kernel) (by decide +kernel) (by decide +kernel) (by decide +kernel) (by decide +kernel) (by decide +kernel)
theorem allAtoms_all (ts : List Jvm.Cond) (a : Array Jvm.Value) (st : Jvm.State) : (allAtoms ts).before a st = ts.all (fun c => c.before a st) := by
  induction ts with
  | nil => rfl
  | cons c t ih =>
    show (Jvm.Cond.and c (allAtoms t)).before a st = _
    rw [Jvm.Cond.before_and, ih, List.all_cons]
def words1 : List Jvm.Cond := Jvm.Cond.code x code maxLocals ret :: tables_1
/-- a 'code' word, met by the world's own term for the bytes: nothing is compared byte by byte -/
theorem code_word {y : MethodName} {bytes : ByteArray} {mx : Nat} {rt : Option FieldType} {a : Array Value} {s : State} {m : MethodId} {meth : Method} {c : Code} (h1 : s.methodNamed? y = some m) (h2 : s.vm.method? m = some meth) (h3 : meth.code = some c) (h4 : c.code = bytes)
    (h5 : (c.maxLocals == mx && c.exceptionTable.isEmpty && decide (c.maxStack ≤ mostOperands) && decide (meth.sig.returnType = rt) && !meth.locks && decide (parseMethodDescriptor y.desc = some meth.sig)) = true) : (Jvm.Cond.code y bytes mx rt).before a s = true := by
  simp only [Bool.and_eq_true, beq_iff_eq, Bool.not_eq_true', decide_eq_true_eq] at h5
  obtain ⟨⟨⟨⟨⟨g1, g2⟩, g3⟩, g4⟩, g5⟩, g6⟩ := h5
  simp [Cond.before, Cond.holds, Cond.value, h1, h2, h3, h4, g1, g2, g3, g4, g5, g6]
def isCode : Jvm.Cond → Bool
  | .code _ _ _ _ => true
  | _ => false
theorem all_split {L : List Jvm.Cond} {P : Jvm.Cond → Bool} (h1 : L.all (fun c => isCode c || P c) = true) (h2 : ∀ c ∈ L.filter isCode, P c = true) : L.all P = true := by
  refine List.all_eq_true.mpr fun c hc => ?_
  have h := List.all_eq_true.mp h1 c hc
  rcases Bool.eq_false_or_eq_true (isCode c) with hi | hi
  · exact h2 c (List.mem_filter.mpr ⟨hc, hi⟩)
  · simpa [hi] using h
set_option maxRecDepth 65536 in
theorem w_c0 : (Jvm.Cond.code x code maxLocals ret).before args0 about1 = true := code_word (m := ⟨1, 1⟩) (meth := k1m1) (c := k1c1) (by decide +kernel) rfl rfl rfl (by decide +kernel)
set_option maxRecDepth 65536 in
theorem w_c1 : (Jvm.Cond.code ({ cls := "java/lang/Math", name := "min", desc := "(II)I" } : Jvm.MethodName) jdk_29_method_69_code (2 : Nat) (Option.some Jvm.ClassFile.FieldType.int)).before args0 about1 = true := code_word (m := ⟨2, 1⟩) (meth := k2m1) (c := k2c1) (by decide +kernel) rfl rfl rfl (by decide +kernel)
set_option maxRecDepth 65536 in
theorem w_c2 : (Jvm.Cond.code ({ cls := "java/lang/String", name := "<init>", desc := "([C)V" } : Jvm.MethodName) jdk_42_method_3_code (2 : Nat) (Option.none : Option Jvm.ClassFile.FieldType)).before args0 about1 = true := code_word (m := ⟨8, 1⟩) (meth := k8m1) (c := k8c1) (by decide +kernel) rfl rfl rfl (by decide +kernel)
set_option maxRecDepth 65536 in
theorem w_c3 : (Jvm.Cond.code ({ cls := "java/lang/String", name := "<init>", desc := "([CIILjava/lang/Void;)V" } : Jvm.MethodName) jdk_42_method_149_code (6 : Nat) (Option.none : Option Jvm.ClassFile.FieldType)).before args0 about1 = true := code_word (m := ⟨8, 3⟩) (meth := k8m3) (c := k8c3) (by decide +kernel) rfl rfl rfl (by decide +kernel)
set_option maxRecDepth 65536 in
theorem w_c4 : (Jvm.Cond.code ({ cls := "java/lang/Object", name := "<init>", desc := "()V" } : Jvm.MethodName) object_method_1_code (1 : Nat) (Option.none : Option Jvm.ClassFile.FieldType)).before args0 about1 = true := code_word (m := ⟨0, 0⟩) (meth := k0m0) (c := k0c0) (by decide +kernel) rfl rfl rfl (by decide +kernel)
set_option maxRecDepth 65536 in
theorem w_c5 : (Jvm.Cond.code ({ cls := "java/lang/StringUTF16", name := "compress", desc := "([CII)[B" } : Jvm.MethodName) jdk_52_method_16_code (6 : Nat) (Option.some (Jvm.ClassFile.FieldType.array Jvm.ClassFile.FieldType.byte))).before args0 about1 = true := code_word (m := ⟨9, 2⟩) (meth := k9m2) (c := k9c2) (by decide +kernel) rfl rfl rfl (by decide +kernel)
set_option maxRecDepth 65536 in
theorem w_c6 : (Jvm.Cond.code ({ cls := "java/lang/StringUTF16", name := "compress", desc := "([CI[BII)I" } : Jvm.MethodName) jdk_52_method_21_code (7 : Nat) (Option.some Jvm.ClassFile.FieldType.int)).before args0 about1 = true := code_word (m := ⟨9, 3⟩) (meth := k9m3) (c := k9c3) (by decide +kernel) rfl rfl rfl (by decide +kernel)
set_option maxRecDepth 65536 in
theorem w_c7 : (Jvm.Cond.code ({ cls := "java/lang/StringUTF16", name := "coderFromArrayLen", desc := "([BI)B" } : Jvm.MethodName) jdk_52_method_15_code (2 : Nat) (Option.some Jvm.ClassFile.FieldType.byte)).before args0 about1 = true := code_word (m := ⟨9, 1⟩) (meth := k9m1) (c := k9c1) (by decide +kernel) rfl rfl rfl (by decide +kernel)
set_option maxRecDepth 65536 in
theorem w_c8 : (Jvm.Cond.code ({ cls := "com/example/leftmost/leftmost/grammar/Symbol", name := "<init>", desc := "(Ljava/lang/String;Z)V" } : Jvm.MethodName) prog_16_method_1_code (3 : Nat) (Option.none : Option Jvm.ClassFile.FieldType)).before args0 about1 = true := code_word (m := ⟨11, 0⟩) (meth := k11m0) (c := k11c0) (by decide +kernel) rfl rfl rfl (by decide +kernel)
set_option maxRecDepth 65536 in
theorem w_c9 : (Jvm.Cond.code ({ cls := "java/lang/Record", name := "<init>", desc := "()V" } : Jvm.MethodName) jdk_30_method_1_code (1 : Nat) (Option.none : Option Jvm.ClassFile.FieldType)).before args0 about1 = true := code_word (m := ⟨10, 0⟩) (meth := k10m0) (c := k10c0) (by decide +kernel) rfl rfl rfl (by decide +kernel)
set_option maxRecDepth 65536 in
theorem w_c10 : (Jvm.Cond.code ({ cls := "java/util/Objects", name := "requireNonNull", desc := "(Ljava/lang/Object;Ljava/lang/String;)Ljava/lang/Object;" } : Jvm.MethodName) jdk_31_method_11_code (2 : Nat) (Option.some (Jvm.ClassFile.FieldType.object "java/lang/Object"))).before args0 about1 = true := code_word (m := ⟨12, 2⟩) (meth := k12m2) (c := k12c2) (by decide +kernel) rfl rfl rfl (by decide +kernel)
set_option maxRecDepth 65536 in
theorem w_c11 : (Jvm.Cond.code ({ cls := "java/lang/String", name := "isEmpty", desc := "()Z" } : Jvm.MethodName) jdk_42_method_55_code (1 : Nat) (Option.some Jvm.ClassFile.FieldType.boolean)).before args0 about1 = true := code_word (m := ⟨8, 2⟩) (meth := k8m2) (c := k8c2) (by decide +kernel) rfl rfl rfl (by decide +kernel)
set_option maxRecDepth 65536 in
theorem w_c12 : (Jvm.Cond.code ({ cls := "java/util/Optional", name := "of", desc := "(Ljava/lang/Object;)Ljava/util/Optional;" } : Jvm.MethodName) jdk_32_method_3_code (1 : Nat) (Option.some (Jvm.ClassFile.FieldType.object "java/util/Optional"))).before args0 about1 = true := code_word (m := ⟨13, 2⟩) (meth := k13m2) (c := k13c2) (by decide +kernel) rfl rfl rfl (by decide +kernel)
set_option maxRecDepth 65536 in
theorem w_c13 : (Jvm.Cond.code ({ cls := "java/util/Objects", name := "requireNonNull", desc := "(Ljava/lang/Object;)Ljava/lang/Object;" } : Jvm.MethodName) jdk_31_method_10_code (1 : Nat) (Option.some (Jvm.ClassFile.FieldType.object "java/lang/Object"))).before args0 about1 = true := code_word (m := ⟨12, 1⟩) (meth := k12m1) (c := k12c1) (by decide +kernel) rfl rfl rfl (by decide +kernel)
set_option maxRecDepth 65536 in
theorem w_c14 : (Jvm.Cond.code ({ cls := "java/util/Optional", name := "<init>", desc := "(Ljava/lang/Object;)V" } : Jvm.MethodName) jdk_32_method_2_code (2 : Nat) (Option.none : Option Jvm.ClassFile.FieldType)).before args0 about1 = true := code_word (m := ⟨13, 1⟩) (meth := k13m1) (c := k13c1) (by decide +kernel) rfl rfl rfl (by decide +kernel)
set_option maxRecDepth 65536 in
theorem w_c15 : (Jvm.Cond.code ({ cls := "com/example/leftmost/leftmost/tree/ParseTree$Node", name := "<init>", desc := "(IIILjava/util/Optional;)V" } : Jvm.MethodName) prog_64_method_1_code (5 : Nat) (Option.none : Option Jvm.ClassFile.FieldType)).before args0 about1 = true := code_word (m := ⟨14, 0⟩) (meth := k14m0) (c := k14c0) (by decide +kernel) rfl rfl rfl (by decide +kernel)
set_option maxRecDepth 65536 in
theorem w_c16 : (Jvm.Cond.code ({ cls := "com/example/leftmost/leftmost/tree/ParseTree$Node", name := "isLeaf", desc := "()Z" } : Jvm.MethodName) prog_64_method_2_code (1 : Nat) (Option.some Jvm.ClassFile.FieldType.boolean)).before args0 about1 = true := code_word (m := ⟨14, 1⟩) (meth := k14m1) (c := k14c1) (by decide +kernel) rfl rfl rfl (by decide +kernel)
set_option maxRecDepth 65536 in
theorem w_c17 : (Jvm.Cond.code ({ cls := "java/util/Optional", name := "isEmpty", desc := "()Z" } : Jvm.MethodName) jdk_32_method_7_code (1 : Nat) (Option.some Jvm.ClassFile.FieldType.boolean)).before args0 about1 = true := code_word (m := ⟨13, 4⟩) (meth := k13m4) (c := k13c4) (by decide +kernel) rfl rfl rfl (by decide +kernel)
set_option maxRecDepth 65536 in
theorem w_c18 : (Jvm.Cond.code ({ cls := "java/util/Optional", name := "get", desc := "()Ljava/lang/Object;" } : Jvm.MethodName) jdk_32_method_5_code (1 : Nat) (Option.some (Jvm.ClassFile.FieldType.object "java/lang/Object"))).before args0 about1 = true := code_word (m := ⟨13, 3⟩) (meth := k13m3) (c := k13c3) (by decide +kernel) rfl rfl rfl (by decide +kernel)
set_option maxRecDepth 65536 in
theorem w_c19 : (Jvm.Cond.code ({ cls := "com/example/leftmost/leftmost/grammar/Symbol", name := "isVariable", desc := "()Z" } : Jvm.MethodName) prog_16_method_11_code (1 : Nat) (Option.some Jvm.ClassFile.FieldType.boolean)).before args0 about1 = true := code_word (m := ⟨11, 1⟩) (meth := k11m1) (c := k11c1) (by decide +kernel) rfl rfl rfl (by decide +kernel)
set_option maxRecDepth 65536 in
theorem w_c20 : (Jvm.Cond.code ({ cls := "java/util/Optional", name := "empty", desc := "()Ljava/util/Optional;" } : Jvm.MethodName) jdk_32_method_1_code (1 : Nat) (Option.some (Jvm.ClassFile.FieldType.object "java/util/Optional"))).before args0 about1 = true := code_word (m := ⟨13, 0⟩) (meth := k13m0) (c := k13c0) (by decide +kernel) rfl rfl rfl (by decide +kernel)
def codes1 : List Jvm.Cond := [Jvm.Cond.code x code maxLocals ret, Jvm.Cond.code ({ cls := "java/lang/Math", name := "min", desc := "(II)I" } : Jvm.MethodName) jdk_29_method_69_code (2 : Nat) (Option.some Jvm.ClassFile.FieldType.int), Jvm.Cond.code ({ cls := "java/lang/String", name := "<init>", desc := "([C)V" } : Jvm.MethodName) jdk_42_method_3_code (2 : Nat) (Option.none : Option Jvm.ClassFile.FieldType), Jvm.Cond.code ({ cls := "java/lang/String", name := "<init>", desc := "([CIILjava/lang/Void;)V" } : Jvm.MethodName) jdk_42_method_149_code (6 : Nat) (Option.none : Option Jvm.ClassFile.FieldType), Jvm.Cond.code ({ cls := "java/lang/Object", name := "<init>", desc := "()V" } : Jvm.MethodName) object_method_1_code (1 : Nat) (Option.none : Option Jvm.ClassFile.FieldType), Jvm.Cond.code ({ cls := "java/lang/StringUTF16", name := "compress", desc := "([CII)[B" } : Jvm.MethodName) jdk_52_method_16_code (6 : Nat) (Option.some (Jvm.ClassFile.FieldType.array Jvm.ClassFile.FieldType.byte)), Jvm.Cond.code ({ cls := "java/lang/StringUTF16", name := "compress", desc := "([CI[BII)I" } : Jvm.MethodName) jdk_52_method_21_code (7 : Nat) (Option.some Jvm.ClassFile.FieldType.int), Jvm.Cond.code ({ cls := "java/lang/StringUTF16", name := "coderFromArrayLen", desc := "([BI)B" } : Jvm.MethodName) jdk_52_method_15_code (2 : Nat) (Option.some Jvm.ClassFile.FieldType.byte), Jvm.Cond.code ({ cls := "com/example/leftmost/leftmost/grammar/Symbol", name := "<init>", desc := "(Ljava/lang/String;Z)V" } : Jvm.MethodName) prog_16_method_1_code (3 : Nat) (Option.none : Option Jvm.ClassFile.FieldType), Jvm.Cond.code ({ cls := "java/lang/Record", name := "<init>", desc := "()V" } : Jvm.MethodName) jdk_30_method_1_code (1 : Nat) (Option.none : Option Jvm.ClassFile.FieldType), Jvm.Cond.code ({ cls := "java/util/Objects", name := "requireNonNull", desc := "(Ljava/lang/Object;Ljava/lang/String;)Ljava/lang/Object;" } : Jvm.MethodName) jdk_31_method_11_code (2 : Nat) (Option.some (Jvm.ClassFile.FieldType.object "java/lang/Object")), Jvm.Cond.code ({ cls := "java/lang/String", name := "isEmpty", desc := "()Z" } : Jvm.MethodName) jdk_42_method_55_code (1 : Nat) (Option.some Jvm.ClassFile.FieldType.boolean), Jvm.Cond.code ({ cls := "java/util/Optional", name := "of", desc := "(Ljava/lang/Object;)Ljava/util/Optional;" } : Jvm.MethodName) jdk_32_method_3_code (1 : Nat) (Option.some (Jvm.ClassFile.FieldType.object "java/util/Optional")), Jvm.Cond.code ({ cls := "java/util/Objects", name := "requireNonNull", desc := "(Ljava/lang/Object;)Ljava/lang/Object;" } : Jvm.MethodName) jdk_31_method_10_code (1 : Nat) (Option.some (Jvm.ClassFile.FieldType.object "java/lang/Object")), Jvm.Cond.code ({ cls := "java/util/Optional", name := "<init>", desc := "(Ljava/lang/Object;)V" } : Jvm.MethodName) jdk_32_method_2_code (2 : Nat) (Option.none : Option Jvm.ClassFile.FieldType), Jvm.Cond.code ({ cls := "com/example/leftmost/leftmost/tree/ParseTree$Node", name := "<init>", desc := "(IIILjava/util/Optional;)V" } : Jvm.MethodName) prog_64_method_1_code (5 : Nat) (Option.none : Option Jvm.ClassFile.FieldType), Jvm.Cond.code ({ cls := "com/example/leftmost/leftmost/tree/ParseTree$Node", name := "isLeaf", desc := "()Z" } : Jvm.MethodName) prog_64_method_2_code (1 : Nat) (Option.some Jvm.ClassFile.FieldType.boolean), Jvm.Cond.code ({ cls := "java/util/Optional", name := "isEmpty", desc := "()Z" } : Jvm.MethodName) jdk_32_method_7_code (1 : Nat) (Option.some Jvm.ClassFile.FieldType.boolean), Jvm.Cond.code ({ cls := "java/util/Optional", name := "get", desc := "()Ljava/lang/Object;" } : Jvm.MethodName) jdk_32_method_5_code (1 : Nat) (Option.some (Jvm.ClassFile.FieldType.object "java/lang/Object")), Jvm.Cond.code ({ cls := "com/example/leftmost/leftmost/grammar/Symbol", name := "isVariable", desc := "()Z" } : Jvm.MethodName) prog_16_method_11_code (1 : Nat) (Option.some Jvm.ClassFile.FieldType.boolean), Jvm.Cond.code ({ cls := "java/util/Optional", name := "empty", desc := "()Ljava/util/Optional;" } : Jvm.MethodName) jdk_32_method_1_code (1 : Nat) (Option.some (Jvm.ClassFile.FieldType.object "java/util/Optional"))]
set_option maxRecDepth 65536 in
theorem codes_eq : words1.filter isCode = codes1 := rfl
theorem w_codes : ∀ c ∈ words1.filter isCode, c.before args0 about1 = true := by
  rw [codes_eq]
  intro c hc
  simp only [codes1, List.mem_cons, List.not_mem_nil, or_false] at hc
  rcases hc with rfl | rfl | rfl | rfl | rfl | rfl | rfl | rfl | rfl | rfl | rfl | rfl | rfl | rfl | rfl | rfl | rfl | rfl | rfl | rfl | rfl
  · exact w_c0
  · exact w_c1
  · exact w_c2
  · exact w_c3
  · exact w_c4
  · exact w_c5
  · exact w_c6
  · exact w_c7
  · exact w_c8
  · exact w_c9
  · exact w_c10
  · exact w_c11
  · exact w_c12
  · exact w_c13
  · exact w_c14
  · exact w_c15
  · exact w_c16
  · exact w_c17
  · exact w_c18
  · exact w_c19
  · exact w_c20
set_option maxRecDepth 65536 in
theorem w_t1 : (words1.take 24).all (fun c => isCode c || c.before args0 about1) = true := by decide +kernel
set_option maxRecDepth 65536 in
theorem w_t2 : ((words1.drop 24).take 24).all (fun c => isCode c || c.before args0 about1) = true := by decide +kernel
set_option maxRecDepth 65536 in
theorem w_t3 : (((words1.drop 24).drop 24).take 24).all (fun c => isCode c || c.before args0 about1) = true := by decide +kernel
set_option maxRecDepth 65536 in
theorem w_t4 : ((((words1.drop 24).drop 24).drop 24).take 24).all (fun c => isCode c || c.before args0 about1) = true := by decide +kernel
set_option maxRecDepth 65536 in
theorem w_t5 : (((((words1.drop 24).drop 24).drop 24).drop 24).take 24).all (fun c => isCode c || c.before args0 about1) = true := by decide +kernel
set_option maxRecDepth 65536 in
theorem w_t6 : (((((words1.drop 24).drop 24).drop 24).drop 24).drop 24).all (fun c => isCode c || c.before args0 about1) = true := by decide +kernel
theorem w_tables : (allAtoms (Jvm.Cond.code x code maxLocals ret :: tables_1)).before args0 about1 = true := by
  rw [allAtoms_all]
  show words1.all (fun c => c.before args0 about1) = true
  refine all_split ?_ w_codes
  rw [← List.take_append_drop 24 words1, List.all_append, w_t1, ← List.take_append_drop 24 (words1.drop 24), List.all_append, w_t2, ← List.take_append_drop 24 ((words1.drop 24).drop 24), List.all_append, w_t3, ← List.take_append_drop 24 (((words1.drop 24).drop 24).drop 24), List.all_append, w_t4, ← List.take_append_drop 24 ((((words1.drop 24).drop 24).drop 24).drop 24), List.all_append, w_t5, w_t6]
  rfl
set_option maxRecDepth 65536 in
theorem w_rest : rest_1_c.before args0 about1 = true := by decide +kernel
set_option maxRecDepth 65536 in
theorem w_case : (Jvm.Cond.and given_1 narrow_1).before args0 about1 = true := by decide +kernel
theorem w_applies : (headSpec (Jvm.Cond.code x code maxLocals ret :: tables_1) room_1).applies x e0.platform about1 = true :=
  (Spec.applies_iff w_frames).mpr ⟨w_running, w_runnable, w_alone, w_named, w_hears, w_ripe, w_room, w_tables⟩
theorem atStart : AtStart classFile x code maxLocals ret World_1 tables_1 room_1 Calls_1 rest_1 Pre_1 launch0 p0 e0 about1 theMethod args0 below0 :=
  ⟨lists_1, trivial, launch0.admits_env _ _ _, launch0.least_env, fairChoices_fair.cas, fairChoices_fair.clock, w_frames, w_args, w_heap, w_applies, trivial, w_rest, w_case⟩
end start1
theorem witness_1 : WitnessClaimed_1 := ⟨start1.p0, start1.e0, start1.about1, start1.theMethod, start1.args0, start1.below0, start1.atStart⟩
end Jvm.Pilot.@@N@@
