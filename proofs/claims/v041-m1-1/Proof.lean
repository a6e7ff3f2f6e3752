import JvmDerived
import JvmDerived.Pilot.@@N@@Statement
import JvmDerived.Pilot.@@N@@Code
set_option linter.unusedVariables false
set_option linter.unusedSimpArgs false
namespace Jvm.RoadKit
open Sem ClassFile Op Lib Jvm.Stand Jvm.Free Jvm.LawKit
section New
variable {p : Program} {l : Launch} {e : Env} {R : Room} {s : State} {m : MethodId} {args : Array Value} {below : List Frame} {meth : Method} {c : Code} {T : State} {locs : List Loc} {cells slots : Nat}
theorem retI (X : Stand p l e R s m args below meth c T locs cells slots) (hx : p.tables.exec = Jvm.exec) {pc : Nat} {Ls : Array Slot} {z : Int32} {rest : List Value} (hret : meth.sig.returnType = some .int) (hd : decode c.code pc = .ok (.ireturn, 1)) {fs : List Frame}
    (hl : ∀ (f : JFrame) (acts : List Action), f.method = m → f.locked = none → f.entered = [] → (doReturn e (T.setTop f) acts (some (.int z))).1 = T.setFrames fs) : Steps p.tables e below (T.setTop (mkF m pc Ls (.int z :: rest))) (T.setFrames fs) := by
  have hm' : T.vm.method? m = some meth := X.method'
  have hn : narrow .int (.int z) = .int z := rfl
  show Steps p.tables e below (T.setTop { method := m, pc := pc, locals := Ls, stack := _ :: rest, locked := none }) _
  jvm_step X.here [X.here.top, hx, hd, hm', hret, hn]
  first | (intro acts; rw [hl _ acts rfl rfl rfl]) | rw [hl _ _ rfl rfl rfl]
  exact Steps.refl _
end New
end Jvm.RoadKit
/- laws to paste: Road.backV, Road.chN, Road.codOf (cut by pick.py; bodies as the Statement names them) -/
namespace Jvm.Pilot.@@N@@
namespace StrChars
open Jvm Sem ClassFile Op Lib Jvm.Stand Jvm.Free.XT Jvm.Free.ALB Jvm.Free.JM Jvm.Free
open Jvm.Lib.Cold (StaticIs)
/-- a char array whose places are chars -/
def Ch (a : Addr) (A : Cell) (U : State) : Prop := Arr .char a A U ∧ Typed .char A
theorem Ch.mv {a : Addr} {A : Cell} {U U' : State} (h : Ch a A U) (hal : U.vm.Alike U'.vm) (hh : U'.heap = U.heap) : Ch a A U' := ⟨h.1.mv hal hh, h.2⟩
theorem Ch.keep {a : Addr} {A : Cell} {U U' : State} (h : Ch a A U) (hal : U.vm.Alike U'.vm) (hk : U'.heap[a]? = some A) : Ch a A U' := ⟨h.1.keep hal hk, h.2⟩
/-- what place i of a char[]'s cell holds -/
def cv (A : Cell) (i : Nat) : Int32 := match A.slots[i]? with | some (.int x) => x | _ => 0
theorem Ch.get {a : Addr} {A : Cell} {U : State} (h : Ch a A U) {i : Nat} (hi : i < A.slots.size) : A.slots[i]? = some (.int (cv A i)) := by
  have e := Array.getElem?_eq_getElem hi
  have f := h.2 i _ e
  unfold cv; rw [e]
  generalize A.slots[i] = v at f
  cases v <;> simp [fits] at f ⊢
/-- the byte that i2b leaves of a char -/
def lo8 (x : Int32) : Int32 := x.toInt8.toInt32
theorem fits_lo8 (y : Int32) : fits .byte (.int (lo8 y)) = true := by
  have h1 := y.toInt8.le_toInt
  have h2 := y.toInt8.toInt_lt
  simp only [lo8, fits, Bool.and_eq_true, decide_eq_true_eq, Int32.le_iff_toInt_le, Int8.toInt_toInt32, show (-128 : Int32).toInt = -128 from by decide, show (127 : Int32).toInt = 127 from by decide]
  omega
/-- A' is A but that each place j of lo .. hi - 1 holds f j -/
def Laid (A A' : Cell) (lo hi : Nat) (f : Nat → Value) : Prop := A'.cls = A.cls ∧ A'.vm = A.vm ∧ A'.slots.size = A.slots.size ∧ ∀ i, A'.slots[i]? = if lo ≤ i ∧ i < hi then some (f i) else A.slots[i]?
theorem Laid.zero (A : Cell) (lo : Nat) (f : Nat → Value) : Laid A A lo (lo + 0) f := ⟨rfl, rfl, rfl, fun i => by rw [if_neg (by omega)]⟩
theorem Laid.step {A Ak : Cell} {lo k : Nat} {f : Nat → Value} {v : Value} (h : Laid A Ak lo k f) (hlo : lo ≤ k) (hk : k < Ak.slots.size) (hv : v = f k) : Laid A (Ak.setSlot k v) lo (k + 1) f := by
  refine ⟨h.1, h.2.1, by simpa [Cell.setSlot] using h.2.2.1, fun i => ?_⟩
  by_cases e : k = i
  · subst e; rw [Cell.slots_setSlot_self v hk, if_pos (by omega), hv]
  · rw [Cell.slots_setSlot_ne v e, h.2.2.2 i]
    by_cases q : lo ≤ i ∧ i < k
    · rw [if_pos q, if_pos (by omega)]
    · rw [if_neg q, if_neg (by omega)]
def U16 : String := "java/lang/StringUTF16"
namespace Cmp5
def yN : MethodName := ⟨"java/lang/StringUTF16", "compress", "([CI[BII)I"⟩
abbrev yB : ByteArray := jdk_52_method_21_code
theorem d0 : decode yB 0 = .ok (.iconst 0, 1) := by decide +kernel
theorem d1 : decode yB 1 = .ok (.istore 5, 2) := by decide +kernel
theorem d3 : decode yB 3 = .ok (.iload 5, 2) := by decide +kernel
theorem d5 : decode yB 5 = .ok (.iload 4, 2) := by decide +kernel
theorem d7 : decode yB 7 = .ok (.if_icmp (.ge) 37, 3) := by decide +kernel
theorem d10 : decode yB 10 = .ok (.aload_n 0, 1) := by decide +kernel
theorem d11 : decode yB 11 = .ok (.iload_n 1, 1) := by decide +kernel
theorem d12 : decode yB 12 = .ok (.caload, 1) := by decide +kernel
theorem d13 : decode yB 13 = .ok (.istore 6, 2) := by decide +kernel
theorem d15 : decode yB 15 = .ok (.iload 6, 2) := by decide +kernel
theorem d17 : decode yB 17 = .ok (.sipush 255, 3) := by decide +kernel
theorem d20 : decode yB 20 = .ok (.if_icmp (.le) 6, 3) := by decide +kernel
theorem d26 : decode yB 26 = .ok (.aload_n 2, 1) := by decide +kernel
theorem d27 : decode yB 27 = .ok (.iload_n 3, 1) := by decide +kernel
theorem d28 : decode yB 28 = .ok (.iload 6, 2) := by decide +kernel
theorem d30 : decode yB 30 = .ok (.i2b, 1) := by decide +kernel
theorem d31 : decode yB 31 = .ok (.bastore, 1) := by decide +kernel
theorem d32 : decode yB 32 = .ok (.iinc 1 1, 3) := by decide +kernel
theorem d35 : decode yB 35 = .ok (.iinc 3 1, 3) := by decide +kernel
theorem d38 : decode yB 38 = .ok (.iinc 5 1, 3) := by decide +kernel
theorem d41 : decode yB 41 = .ok (.goto (-38), 3) := by decide +kernel
theorem d44 : decode yB 44 = .ok (.iload 4, 2) := by decide +kernel
theorem d46 : decode yB 46 = .ok (.ireturn, 1) := by decide +kernel
def site : List Cond := []
def tab : Cond := tabOf yN yB 7 (some .int) site
def P (b : Addr) (A : Cell) (d : Addr) (B : Cell) (o q len : Nat) (args : Array Value) (s : State) : Prop := args = #[.ref b, .int (Int32.ofNat o), .ref d, .int (Int32.ofNat q), .int (Int32.ofNat len)] ∧ Ch b A s ∧ Arr .byte d B s ∧ b ≠ d ∧ o + len ≤ A.slots.size ∧ q + len ≤ B.slots.size ∧ ∀ i, i < len → ¬ 255 < cv A (o + i)
def E (b : Addr) (A : Cell) (d : Addr) (B : Cell) (o q len : Nat) (r : Option Value) (s u : State) : Prop := r = some (.int (Int32.ofNat len)) ∧ ∃ B', Put d B' s u ∧ Laid B B' q (q + len) (fun j => Value.int (lo8 (cv A (o + (j - q)))))
/-- no char of the range above 255: len; the places written hold each char's low byte -/
theorem law (l : Launch) (b : Addr) (A : Cell) (d : Addr) (B : Cell) (o q len : Nat) : Law l yN 5 5 0 0 yB 7 (some .int) site (P b A d B o q len) (E b A d B o q len) (copyLocs d q len) 0 0 := by
  refine Law.of_walk (plainFor_of_name (by decide +kernel)) (by decide +kernel) (by decide +kernel) (by decide) (fun _ _ h => by rw [h.1]; rfl) (fun _ U U' hal hh h => ⟨h.1, h.2.1.mv hal hh, h.2.2.1.mv hal hh, h.2.2.2⟩) (fun r U U' V V' h1 hal h2 h => ⟨h.1, h.2.elim fun B' q => ⟨B', q.1.mv h1 h2, q.2⟩⟩) ?_
  intro p e s m args below meth c s₁ X0 hexec hbytes hml hret hlk hnm hown hh0 W hP
  obtain ⟨rfl, hA, hB, hne, l1, l2, hp⟩ := hP
  have c1 : Steps p.tables e below (s₁.setTop (entryFrame m #[.ref b, .int (Int32.ofNat o), .ref d, .int (Int32.ofNat q), .int (Int32.ofNat len)] 7)) (s₁.setTop (mkF m 0 #[.val (.ref b), .val (.int (Int32.ofNat o)), .val (.ref d), .val (.int (Int32.ofNat q)), .val (.int (Int32.ofNat len)), .unset, .unset] [])) := entry rfl
  have hA0 := hA.1.mv X0.warmed.alike hh0
  have hB0 := hB.mv X0.warmed.alike hh0
  have a31 := hA.1.2.2.2
  have c2 : Steps p.tables e below (s₁.setTop (entryFrame m #[.ref b, .int (Int32.ofNat o), .ref d, .int (Int32.ofNat q), .int (Int32.ofNat len)] 7)) (s₁.setTop (mkF m 3 #[.val (.ref b), .val (.int (Int32.ofNat o)), .val (.ref d), .val (.int (Int32.ofNat q)), .val (.int (Int32.ofNat len)), .val (.int 0), .unset] [])) := c1.trans (by
    refine iconstV X0.here hexec rfl 0 (hb hbytes d0) (by decide) ?_
    refine XS.istore X0.here hexec rfl (hb hbytes d1) rfl rfl ?_
    exact Steps.refl _)
  have loop : ∀ (r i : Nat), i + r = len → ∀ (z : Slot), (z = .unset ∨ ∃ w, z = .val w ∧ w.category = 1) → ∀ (Tl : State) (Bk : Cell), Stand p l e { frames := 0, locals := 0, cells := 0, slots := 0 } s m #[.ref b, .int (Int32.ofNat o), .ref d, .int (Int32.ofNat q), .int (Int32.ofNat len)] below meth c Tl ([] ++ copyLocs d q i) 0 0 → Put d Bk s₁ Tl → Laid B Bk q (q + i) (fun j => Value.int (lo8 (cv A (o + (j - q))))) →
      Steps p.tables e below (s₁.setTop (entryFrame m #[.ref b, .int (Int32.ofNat o), .ref d, .int (Int32.ofNat q), .int (Int32.ofNat len)] 7)) (Tl.setTop (mkF m 3 #[.val (.ref b), .val (.int (Int32.ofNat (o + i))), .val (.ref d), .val (.int (Int32.ofNat (q + i))), .val (.int (Int32.ofNat len)), .val (.int (Int32.ofNat i)), z] [])) → ∃ (T' : State) (B' : Cell) (z' : Slot), Stand p l e { frames := 0, locals := 0, cells := 0, slots := 0 } s m #[.ref b, .int (Int32.ofNat o), .ref d, .int (Int32.ofNat q), .int (Int32.ofNat len)] below meth c T' ([] ++ copyLocs d q len) 0 0 ∧ Put d B' s₁ T' ∧ Laid B B' q (q + len) (fun j => Value.int (lo8 (cv A (o + (j - q))))) ∧
      Steps p.tables e below (s₁.setTop (entryFrame m #[.ref b, .int (Int32.ofNat o), .ref d, .int (Int32.ofNat q), .int (Int32.ofNat len)] 7)) (T'.setTop (mkF m 3 #[.val (.ref b), .val (.int (Int32.ofNat (o + len))), .val (.ref d), .val (.int (Int32.ofNat (q + len))), .val (.int (Int32.ofNat len)), .val (.int (Int32.ofNat len)), z'] [])) := by
    intro r
    induction r with
    | zero =>
      intro i hi z hz Tl Bk Xl pl fl cl
      have hil : i = len := by omega
      rw [hil] at Xl fl cl
      exact ⟨Tl, Bk, z, Xl, pl, fl, cl⟩
    | succ r ih =>
      intro i hi z hz Tl Bk Xl pl fl cl
      have all := X0.warmed.alike.symm.trans Xl.warmed.alike
      have hAl := hA0.keep all (pl.other hne hA0.1)
      have hBk := hB0.like all pl.1 fl.1 fl.2.1 fl.2.2.1
      have hlt : q + i < Bk.slots.size := by rw [fl.2.2.1]; omega
      have c3 : Steps p.tables e below (s₁.setTop (entryFrame m #[.ref b, .int (Int32.ofNat o), .ref d, .int (Int32.ofNat q), .int (Int32.ofNat len)] 7)) (Tl.setTop (mkF m 12 #[.val (.ref b), .val (.int (Int32.ofNat (o + i))), .val (.ref d), .val (.int (Int32.ofNat (q + i))), .val (.int (Int32.ofNat len)), .val (.int (Int32.ofNat i)), z] [.int (Int32.ofNat (o + i)), .ref b])) := cl.trans (by
        refine XS.iload Xl.here hexec rfl (hb hbytes d3) rfl ?_
        refine XS.iload Xl.here hexec rfl (hb hbytes d5) rfl ?_
        refine XS.icmpNo Xl.here hexec rfl (hb hbytes d7) rfl (ii_ge_f (lt32 (by omega) (by omega))) ?_
        refine XS.aloadN Xl.here hexec rfl (hb hbytes d10) rfl rfl ?_
        refine XS.iloadN Xl.here hexec rfl (hb hbytes d11) rfl ?_
        exact Steps.refl _)
      have c4 : Steps p.tables e below (s₁.setTop (entryFrame m #[.ref b, .int (Int32.ofNat o), .ref d, .int (Int32.ofNat q), .int (Int32.ofNat len)] 7)) (Tl.setTop (mkF m 13 #[.val (.ref b), .val (.int (Int32.ofNat (o + i))), .val (.ref d), .val (.int (Int32.ofNat (q + i))), .val (.int (Int32.ofNat len)), .val (.int (Int32.ofNat i)), z] [.int (cv A (o + i))])) := c3.trans (by
        refine Xl.aget hexec hAl rfl (hA.get (i := o + i) (by omega)) rfl rfl (hb hbytes d12) ?_
        exact Steps.refl _)
      have c5 : Steps p.tables e below (s₁.setTop (entryFrame m #[.ref b, .int (Int32.ofNat o), .ref d, .int (Int32.ofNat q), .int (Int32.ofNat len)] 7)) (Tl.setTop (mkF m 15 #[.val (.ref b), .val (.int (Int32.ofNat (o + i))), .val (.ref d), .val (.int (Int32.ofNat (q + i))), .val (.int (Int32.ofNat len)), .val (.int (Int32.ofNat i)), .val (.int (cv A (o + i)))] [])) := c4.trans (by
        refine XS.istoreS Xl.here hexec rfl (hb hbytes d13) rfl rfl hz ?_
        exact Steps.refl _)
      have c6 : Steps p.tables e below (s₁.setTop (entryFrame m #[.ref b, .int (Int32.ofNat o), .ref d, .int (Int32.ofNat q), .int (Int32.ofNat len)] 7)) (Tl.setTop (mkF m 31 #[.val (.ref b), .val (.int (Int32.ofNat (o + i))), .val (.ref d), .val (.int (Int32.ofNat (q + i))), .val (.int (Int32.ofNat len)), .val (.int (Int32.ofNat i)), .val (.int (cv A (o + i)))] [.int (lo8 (cv A (o + i))), .int (Int32.ofNat (q + i)), .ref d])) := c5.trans (by
        refine XS.iload Xl.here hexec rfl (hb hbytes d15) rfl ?_
        refine sipushV Xl.here hexec rfl 255 (hb hbytes d17) (by decide) ?_
        refine XS.icmpYes Xl.here hexec rfl (pc0 := 20) rfl (hb hbytes d20) rfl (ii_le_t (hp i (by omega))) (by decide) rfl ?_
        refine XS.aloadN Xl.here hexec rfl (hb hbytes d26) rfl rfl ?_
        refine XS.iloadN Xl.here hexec rfl (hb hbytes d27) rfl ?_
        refine XS.iload Xl.here hexec rfl (hb hbytes d28) rfl ?_
        refine i2b Xl.here hexec rfl (hb hbytes d30) rfl ?_
        exact Steps.refl _)
      obtain ⟨T7, X7, p7, st7⟩ := Xl.aput hexec hBk rfl hlt rfl (fits_lo8 (cv A (o + i))) (g := (mkF m 31 #[.val (.ref b), .val (.int (Int32.ofNat (o + i))), .val (.ref d), .val (.int (Int32.ofNat (q + i))), .val (.int (Int32.ofNat len)), .val (.int (Int32.ofNat i)), .val (.int (cv A (o + i)))] [.int (lo8 (cv A (o + i))), .int (Int32.ofNat (q + i)), .ref d])) rfl (rest := []) rfl (hb hbytes d31)
      have c8 : Steps p.tables e below (s₁.setTop (entryFrame m #[.ref b, .int (Int32.ofNat o), .ref d, .int (Int32.ofNat q), .int (Int32.ofNat len)] 7)) (T7.setTop (mkF m 32 #[.val (.ref b), .val (.int (Int32.ofNat (o + i))), .val (.ref d), .val (.int (Int32.ofNat (q + i))), .val (.int (Int32.ofNat len)), .val (.int (Int32.ofNat i)), .val (.int (cv A (o + i)))] [])) := c6.trans (st7 _ (Steps.refl _))
      have c9 : Steps p.tables e below (s₁.setTop (entryFrame m #[.ref b, .int (Int32.ofNat o), .ref d, .int (Int32.ofNat q), .int (Int32.ofNat len)] 7)) (T7.setTop (mkF m 3 #[.val (.ref b), .val (.int (Int32.ofNat (o + i) + 1)), .val (.ref d), .val (.int (Int32.ofNat (q + i) + 1)), .val (.int (Int32.ofNat len)), .val (.int (Int32.ofNat i + 1)), .val (.int (cv A (o + i)))] [])) := c8.trans (by
        refine iincV X7.here hexec rfl 1 (hb hbytes d32) (by decide) rfl rfl ?_
        refine iincV X7.here hexec rfl 1 (hb hbytes d35) (by decide) rfl rfl ?_
        refine iincV X7.here hexec rfl 1 (hb hbytes d38) (by decide) rfl rfl ?_
        refine XS.goto X7.here hexec rfl (pc0 := 41) rfl (hb hbytes d41) (by decide) rfl ?_
        exact Steps.refl _)
      have c10 : Steps p.tables e below (s₁.setTop (entryFrame m #[.ref b, .int (Int32.ofNat o), .ref d, .int (Int32.ofNat q), .int (Int32.ofNat len)] 7)) (T7.setTop (mkF m 3 #[.val (.ref b), .val (.int (Int32.ofNat (o + (i + 1)))), .val (.ref d), .val (.int (Int32.ofNat (q + (i + 1)))), .val (.int (Int32.ofNat len)), .val (.int (Int32.ofNat (i + 1))), .val (.int (cv A (o + i)))] [])) := by
        have := c9
        rw [succ32, succ32, succ32] at this
        exact this
      exact ih (i + 1) (by omega) _ (Or.inr ⟨_, rfl, rfl⟩) T7 _ (by rw [copyLocs_step, ← List.append_assoc]; exact X7) (pl.trans p7) (fl.step (by omega) hlt (by simp)) c10
  obtain ⟨T9, B9, z9, X9, p9, f9, g9⟩ := loop len 0 (by omega) .unset (Or.inl rfl) s₁ B (by simpa [copyLocs] using X0) ⟨hB0.1, fun _ _ => rfl, rfl⟩ (Laid.zero _ _ _) c2
  have c11 : Steps p.tables e below (s₁.setTop (entryFrame m #[.ref b, .int (Int32.ofNat o), .ref d, .int (Int32.ofNat q), .int (Int32.ofNat len)] 7)) (T9.setTop (mkF m 46 #[.val (.ref b), .val (.int (Int32.ofNat (o + len))), .val (.ref d), .val (.int (Int32.ofNat (q + len))), .val (.int (Int32.ofNat len)), .val (.int (Int32.ofNat len)), z9] [.int (Int32.ofNat len)])) := g9.trans (by
    refine XS.iload X9.here hexec rfl (hb hbytes d3) rfl ?_
    refine XS.iload X9.here hexec rfl (hb hbytes d5) rfl ?_
    refine XS.icmpYes X9.here hexec rfl (pc0 := 7) rfl (hb hbytes d7) rfl (ii_ge_t (nlt32 (by omega) (Nat.le_refl _))) (by decide) rfl ?_
    refine XS.iload X9.here hexec rfl (hb hbytes d44) rfl ?_
    exact Steps.refl _)
  exact ⟨T9, some (.int (Int32.ofNat len)), _, _, _, X9, by simp, rfl, rfl, (fun h => by cases h), ⟨rfl, B9, p9.from hh0, f9⟩, fun fs hl => c11.trans (X9.ireturnOut hexec hret rfl (Or.inl rfl) (hb hbytes d46) hl)⟩
end Cmp5
namespace Cmp3
def yN : MethodName := ⟨"java/lang/StringUTF16", "compress", "([CII)[B"⟩
abbrev yB : ByteArray := jdk_52_method_16_code
theorem d0 : decode yB 0 = .ok (.iload_n 2, 1) := by decide +kernel
theorem d1 : decode yB 1 = .ok (.newarray .byte, 2) := by decide +kernel
theorem d3 : decode yB 3 = .ok (.astore_n 3, 1) := by decide +kernel
theorem d4 : decode yB 4 = .ok (.aload_n 0, 1) := by decide +kernel
theorem d5 : decode yB 5 = .ok (.iload_n 1, 1) := by decide +kernel
theorem d6 : decode yB 6 = .ok (.aload_n 3, 1) := by decide +kernel
theorem d7 : decode yB 7 = .ok (.iconst 0, 1) := by decide +kernel
theorem d8 : decode yB 8 = .ok (.iload_n 2, 1) := by decide +kernel
theorem d9 : decode yB 9 = .ok (.invokestatic 115, 3) := by decide +kernel
theorem d12 : decode yB 12 = .ok (.istore 4, 2) := by decide +kernel
theorem d14 : decode yB 14 = .ok (.iload 4, 2) := by decide +kernel
theorem d16 : decode yB 16 = .ok (.iload_n 2, 1) := by decide +kernel
theorem d17 : decode yB 17 = .ok (.if_icmp (.eq) 40, 3) := by decide +kernel
theorem d57 : decode yB 57 = .ok (.aload_n 3, 1) := by decide +kernel
theorem d58 : decode yB 58 = .ok (.areturn, 1) := by decide +kernel
def site : List Cond := [.arrayClass .byte, Cmp5.tab] ++ staticW U16 115 Cmp5.yN
def tab : Cond := tabOf yN yB 6 (some (.array .byte)) site
def P (b : Addr) (A : Cell) (o len : Nat) (args : Array Value) (s : State) : Prop := args = #[.ref b, .int (Int32.ofNat o), .int (Int32.ofNat len)] ∧ Ch b A s ∧ o + len ≤ A.slots.size ∧ len ≤ 536870912 ∧ ∀ i, i < len → ¬ 255 < cv A (o + i)
def E (b : Addr) (A : Cell) (o len : Nat) (r : Option Value) (s u : State) : Prop := NewArr .byte "[B" len (fun j => .int (lo8 (cv A (o + j)))) r s u ∧ u.heap.size = s.heap.size + 1
/-- no char of the range above 255: a new byte[] of their low bytes -/
theorem law (l : Launch) (b : Addr) (A : Cell) (o len : Nat) : Law l yN 3 3 1 18 yB 6 (some (.array .byte)) site (P b A o len) (E b A o len) [] 1 len := by
  refine Law.of_walk (plainFor_of_name (by decide +kernel)) (by decide +kernel) (by decide +kernel) (by decide) (fun _ _ h => by rw [h.1]; rfl) (fun _ U U' hal hh h => ⟨h.1, h.2.1.mv hal hh, h.2.2⟩) (fun r U U' V V' h1 hal h2 h => ⟨NewArr.mv r U U' V V' h1 hal h2 h.1, by rw [h1, h2]; exact h.2⟩) ?_
  intro p e s m args below meth c s₁ X0 hexec hbytes hml hret hlk hnm hown hh0 W hP
  obtain ⟨rfl, hA, l1, l2, hp⟩ := hP
  have a31 := hA.1.2.2.2
  have c1 : Steps p.tables e below (s₁.setTop (entryFrame m #[.ref b, .int (Int32.ofNat o), .int (Int32.ofNat len)] 6)) (s₁.setTop (mkF m 0 #[.val (.ref b), .val (.int (Int32.ofNat o)), .val (.int (Int32.ofNat len)), .unset, .unset, .unset] [])) := entry rfl
  have c2 : Steps p.tables e below (s₁.setTop (entryFrame m #[.ref b, .int (Int32.ofNat o), .int (Int32.ofNat len)] 6)) (s₁.setTop (mkF m 1 #[.val (.ref b), .val (.int (Int32.ofNat o)), .val (.int (Int32.ofNat len)), .unset, .unset, .unset] [.int (Int32.ofNat len)])) := c1.trans (by
    refine XS.iloadN X0.here hexec rfl (hb hbytes d0) rfl ?_
    exact Steps.refl _)
  obtain ⟨T3, B3, X3, ba3, bs3, bv3, bh3, bf3, st3⟩ := X0.anew hexec (atype := .byte) (wk W (.arrayClass .byte)) rfl (by show len * 1 ≤ _; omega) (by omega) (g := (mkF m 1 #[.val (.ref b), .val (.int (Int32.ofNat o)), .val (.int (Int32.ofNat len)), .unset, .unset, .unset] [.int (Int32.ofNat len)])) rfl (hb hbytes d1) (rest := []) rfl (Nat.le_refl _) (by show 0 + len ≤ len; omega)
  rw [hh0] at ba3 st3
  have kp3 : XT.Kept s T3 := (XT.Kept.of_eq hh0).push bh3
  have hA3 := hA.keep X3.warmed.alike (kp3 _ _ hA.1.1)
  have hne : b ≠ s.heap.size := hA.1.ne
  have c4 : Steps p.tables e below (s₁.setTop (entryFrame m #[.ref b, .int (Int32.ofNat o), .int (Int32.ofNat len)] 6)) (T3.setTop (mkF m 3 #[.val (.ref b), .val (.int (Int32.ofNat o)), .val (.int (Int32.ofNat len)), .unset, .unset, .unset] [.ref s.heap.size])) := c2.trans (st3 _ (Steps.refl _))
  have c5 : Steps p.tables e below (s₁.setTop (entryFrame m #[.ref b, .int (Int32.ofNat o), .int (Int32.ofNat len)] 6)) (T3.setTop (mkF m 9 #[.val (.ref b), .val (.int (Int32.ofNat o)), .val (.int (Int32.ofNat len)), .val (.ref s.heap.size), .unset, .unset] [.int (Int32.ofNat len), .int 0, .ref s.heap.size, .int (Int32.ofNat o), .ref b])) := c4.trans (by
    refine XS.astoreN X3.here hexec rfl (hb hbytes d3) rfl rfl rfl ?_
    refine XS.aloadN X3.here hexec rfl (hb hbytes d4) rfl rfl ?_
    refine XS.iloadN X3.here hexec rfl (hb hbytes d5) rfl ?_
    refine XS.aloadN X3.here hexec rfl (hb hbytes d6) rfl rfl ?_
    refine iconstV X3.here hexec rfl 0 (hb hbytes d7) (by decide) ?_
    refine XS.iloadN X3.here hexec rfl (hb hbytes d8) rfl ?_
    exact Steps.refl _)
  obtain ⟨v6, T6, X6, E6, g6⟩ := X3.callS hexec (Cmp5.law l b A s.heap.size B3 o 0 len) hown (wks W (staticW U16 115 Cmp5.yN)) (wk W Cmp5.tab) (W := 0) (Nat.le_of_ble_eq_true rfl) (Nat.le_of_ble_eq_true rfl) (Nat.le_refl _) (by show 0 + len + 0 ≤ len; omega) (g := (mkF m 9 #[.val (.ref b), .val (.int (Int32.ofNat o)), .val (.int (Int32.ofNat len)), .val (.ref s.heap.size), .unset, .unset] [.int (Int32.ofNat len), .int (Int32.ofNat 0), .ref s.heap.size, .int (Int32.ofNat o), .ref b])) rfl (by rw [hml]; rfl) c5 (argsL := [.ref b, .int (Int32.ofNat o), .ref s.heap.size, .int (Int32.ofNat 0), .int (Int32.ofNat len)]) (rest := []) rfl rfl (by show 2 * 0 + 0 ≤ _; decide) (hb hbytes d9) (⟨rfl, hA3, ba3, hne, l1, by rw [bs3]; simp, hp⟩)
  obtain ⟨rfl, B6, p6, f6⟩ := E6
  have c7 : Steps p.tables e below (s₁.setTop (entryFrame m #[.ref b, .int (Int32.ofNat o), .int (Int32.ofNat len)] 6)) (T6.setTop (mkF m 12 #[.val (.ref b), .val (.int (Int32.ofNat o)), .val (.int (Int32.ofNat len)), .val (.ref s.heap.size), .unset, .unset] [.int (Int32.ofNat len)])) := g6
  have c8 : Steps p.tables e below (s₁.setTop (entryFrame m #[.ref b, .int (Int32.ofNat o), .int (Int32.ofNat len)] 6)) (T6.setTop (mkF m 58 #[.val (.ref b), .val (.int (Int32.ofNat o)), .val (.int (Int32.ofNat len)), .val (.ref s.heap.size), .val (.int (Int32.ofNat len)), .unset] [.ref s.heap.size])) := c7.trans (by
    refine XS.istore X6.here hexec rfl (hb hbytes d12) rfl rfl ?_
    refine XS.iload X6.here hexec rfl (hb hbytes d14) rfl ?_
    refine XS.iloadN X6.here hexec rfl (hb hbytes d16) rfl ?_
    refine XS.icmpYes X6.here hexec rfl (pc0 := 17) rfl (hb hbytes d17) rfl (ii_eq_t rfl) (by decide) rfl ?_
    refine XS.aloadN X6.here hexec rfl (hb hbytes d57) rfl rfl ?_
    exact Steps.refl _)
  have X8 := X6.wide (L' := []) (cells' := 1) (slots' := len) (fun x hx hlt => by
    simp only [List.nil_append, copyLocs, List.mem_map, List.mem_range] at hx
    obtain ⟨i, -, rfl⟩ := hx
    exact absurd hlt (Nat.lt_irrefl _)) (Nat.le_refl _) (by omega)
  exact ⟨T6, some (.ref s.heap.size), _, _, _, X8, rfl, rfl, rfl, (fun h => by cases h), ⟨⟨rfl, B6, ba3.like (X3.warmed.alike.symm.trans X6.warmed.alike) p6.1 f6.1 f6.2.1 f6.2.2.1, f6.2.1.trans bv3, by rw [X6.warmed.alike.findClass, f6.1]; exact bf3, by rw [f6.2.2.1, bs3]; simp, fun j hj => by rw [f6.2.2.2 j, if_pos (by omega)]; rfl, kp3.put p6 (Nat.le_refl _)⟩, by rw [p6.2.2, bh3, hh0]; simp⟩, fun fs hl => c8.trans (X8.areturnOut hexec rfl hret rfl (hb hbytes d58) hl)⟩
end Cmp3
namespace CodL
def yN : MethodName := ⟨"java/lang/StringUTF16", "coderFromArrayLen", "([BI)B"⟩
abbrev yB : ByteArray := jdk_52_method_15_code
theorem d0 : decode yB 0 = .ok (.iload_n 1, 1) := by decide +kernel
theorem d1 : decode yB 1 = .ok (.aload_n 0, 1) := by decide +kernel
theorem d2 : decode yB 2 = .ok (.arraylength, 1) := by decide +kernel
theorem d3 : decode yB 3 = .ok (.isub, 1) := by decide +kernel
theorem d4 : decode yB 4 = .ok (.bipush 31, 2) := by decide +kernel
theorem d6 : decode yB 6 = .ok (.iushr, 1) := by decide +kernel
theorem d7 : decode yB 7 = .ok (.i2b, 1) := by decide +kernel
theorem d8 : decode yB 8 = .ok (.ireturn, 1) := by decide +kernel
def site : List Cond := []
def tab : Cond := tabOf yN yB 2 (some .byte) site
def P (d : Addr) (B : Cell) (args : Array Value) (s : State) : Prop := args = #[.ref d, .int (Int32.ofNat B.slots.size)] ∧ Arr .byte d B s
def E (r : Option Value) (s u : State) : Prop := XT.PureE (some (.int 0)) r s u
/-- an array as long as the number of chars: LATIN1 -/
theorem law (l : Launch) (d : Addr) (B : Cell) : Law l yN 2 2 0 0 yB 2 (some .byte) site (P d B) E [] 0 0 := by
  refine Law.of_walk (plainFor_of_name (by decide +kernel)) (by decide +kernel) (by decide +kernel) (by decide) (fun _ _ h => by rw [h.1]; rfl) (fun _ U U' hal hh h => ⟨h.1, h.2.mv hal hh⟩) (fun r U U' V V' h1 hal h2 h => XT.PureE.mv r U U' V V' h1 hal h2 h) ?_
  intro p e s m args below meth c s₁ X0 hexec hbytes hml hret hlk hnm hown hh0 W hP
  obtain ⟨rfl, hB⟩ := hP
  have hB0 := hB.mv X0.warmed.alike hh0
  have c1 : Steps p.tables e below (s₁.setTop (entryFrame m #[.ref d, .int (Int32.ofNat B.slots.size)] 2)) (s₁.setTop (mkF m 0 #[.val (.ref d), .val (.int (Int32.ofNat B.slots.size))] [])) := entry rfl
  have c2 : Steps p.tables e below (s₁.setTop (entryFrame m #[.ref d, .int (Int32.ofNat B.slots.size)] 2)) (s₁.setTop (mkF m 2 #[.val (.ref d), .val (.int (Int32.ofNat B.slots.size))] [.ref d, .int (Int32.ofNat B.slots.size)])) := c1.trans (by
    refine XS.iloadN X0.here hexec rfl (hb hbytes d0) rfl ?_
    refine XS.aloadN X0.here hexec rfl (hb hbytes d1) rfl rfl ?_
    exact Steps.refl _)
  have c3 : Steps p.tables e below (s₁.setTop (entryFrame m #[.ref d, .int (Int32.ofNat B.slots.size)] 2)) (s₁.setTop (mkF m 8 #[.val (.ref d), .val (.int (Int32.ofNat B.slots.size))] [.int (lo8 (ushr (Int32.ofNat B.slots.size - Int32.ofNat B.slots.size) 31))])) := c2.trans (by
    refine X0.alen hexec hB0 rfl rfl (hb hbytes d2) ?_
    refine XS.isub X0.here hexec rfl (hb hbytes d3) rfl ?_
    refine bipushV X0.here hexec rfl 31 (hb hbytes d4) (by decide) ?_
    refine iushr X0.here hexec rfl (hb hbytes d6) rfl ?_
    refine i2b X0.here hexec rfl (hb hbytes d7) rfl ?_
    exact Steps.refl _)
  have e0 : lo8 (ushr (Int32.ofNat B.slots.size - Int32.ofNat B.slots.size) 31) = 0 := by rw [Int32.sub_self]; decide
  rw [e0] at c3
  exact ⟨s₁, some (.int 0), _, _, _, X0, rfl, rfl, rfl, (fun h => by cases h), ⟨rfl, hh0⟩, fun fs hl => c3.trans (X0.ireturnOut hexec hret rfl (Or.inr (Or.inr (Or.inl rfl))) (hb hbytes d8) hl)⟩
end CodL
/-- the String at a is Latin-1 over a new byte[] (the heap's one new cell): the low bytes of the len chars of A from o on; every cell but a is kept -/
def Got (a : Addr) (D : Cell) (fV fC : Field) (A : Cell) (o len : Nat) (r : Option Value) (s u : State) : Prop := r = none ∧ ∃ D' V : Cell, Blank "java/lang/String" a D' u ∧ Same D D' [fV.slot, fC.slot] ∧ D'.slots[fV.slot]? = some (.ref s.heap.size) ∧ D'.slots[fC.slot]? = some (.int 0) ∧ Arr .byte s.heap.size V u ∧ V.vm = .none ∧ u.vm.findClass "[B" = some V.cls ∧ V.slots.size = len ∧ (∀ j, j < len → V.slots[j]? = some (.int (lo8 (cv A (o + j))))) ∧ (∀ (y : Addr) (c : Cell), y ≠ a → s.heap[y]? = some c → u.heap[y]? = some c) ∧ u.heap.size = s.heap.size + 1
theorem Got.mv {a : Addr} {D A : Cell} {fV fC : Field} {o len : Nat} : ∀ r (U U' V V' : State), U'.heap = U.heap → V.vm.Alike V'.vm → V'.heap = V.heap → Got a D fV fC A o len r U V → Got a D fV fC A o len r U' V' :=
  fun r U U' V V' h1 hal h2 ⟨e0, D', X, a1, a2, a3, a4, a5, a6, a7, a8, a9, a10, a11⟩ => ⟨e0, D', X, a1.mv hal h2, a2, by rw [h1]; exact a3, a4, by rw [h1]; exact a5.mv hal h2, a6, by rw [hal.findClass]; exact a7, a8, a9, by rw [h1, h2]; exact a10, by rw [h1, h2]; exact a11⟩
namespace New4
def yN : MethodName := ⟨"java/lang/String", "<init>", "([CIILjava/lang/Void;)V"⟩
abbrev yB : ByteArray := jdk_42_method_149_code
theorem d0 : decode yB 0 = .ok (.aload_n 0, 1) := by decide +kernel
theorem d1 : decode yB 1 = .ok (.invokespecial 1, 3) := by decide +kernel
theorem d4 : decode yB 4 = .ok (.iload_n 3, 1) := by decide +kernel
theorem d5 : decode yB 5 = .ok (.ifCond (.ne) 22, 3) := by decide +kernel
theorem d27 : decode yB 27 = .ok (.getstatic 38, 3) := by decide +kernel
theorem d30 : decode yB 30 = .ok (.ifCond (.eq) 28, 3) := by decide +kernel
theorem d33 : decode yB 33 = .ok (.aload_n 1, 1) := by decide +kernel
theorem d34 : decode yB 34 = .ok (.iload_n 2, 1) := by decide +kernel
theorem d35 : decode yB 35 = .ok (.iload_n 3, 1) := by decide +kernel
theorem d36 : decode yB 36 = .ok (.invokestatic 177, 3) := by decide +kernel
theorem d39 : decode yB 39 = .ok (.astore 5, 2) := by decide +kernel
theorem d41 : decode yB 41 = .ok (.aload_n 0, 1) := by decide +kernel
theorem d42 : decode yB 42 = .ok (.aload 5, 2) := by decide +kernel
theorem d44 : decode yB 44 = .ok (.iload_n 3, 1) := by decide +kernel
theorem d45 : decode yB 45 = .ok (.invokestatic 47, 3) := by decide +kernel
theorem d48 : decode yB 48 = .ok (.putfield 15, 3) := by decide +kernel
theorem d51 : decode yB 51 = .ok (.aload_n 0, 1) := by decide +kernel
theorem d52 : decode yB 52 = .ok (.aload 5, 2) := by decide +kernel
theorem d54 : decode yB 54 = .ok (.putfield 9, 3) := by decide +kernel
theorem d57 : decode yB 57 = .ok (.return_, 1) := by decide +kernel
def site : List Cond := [.fieldLink "java/lang/String" 38 "java/lang/String" "COMPACT_STRINGS" "Z", Cmp3.tab, CodL.tab, .laysFinal "java/lang/String" "java/lang/String" "value" "[B", .fieldLink "java/lang/String" 9 "java/lang/String" "value" "[B", .laysFinal "java/lang/String" "java/lang/String" "coder" "B", .fieldLink "java/lang/String" 15 "java/lang/String" "coder" "B"] ++ objW "java/lang/String" 1 ++ staticW "java/lang/String" 177 Cmp3.yN ++ staticW "java/lang/String" 47 CodL.yN
def tab : Cond := tabOf yN yB 6 none site
def P (a : Addr) (D : Cell) (fV fC : Field) (b : Addr) (A : Cell) (z : Int32) (o len : Nat) (args : Array Value) (s : State) : Prop := args = #[.ref a, .ref b, .int (Int32.ofNat o), .int (Int32.ofNat len), .null] ∧ Blank "java/lang/String" a D s ∧ Found "java/lang/String" "value" "[B" fV s ∧ Found "java/lang/String" "coder" "B" fC s ∧ Ch b A s ∧ StaticIs s "java/lang/String" "COMPACT_STRINGS" "Z" (.int z) ∧ ¬ z = 0 ∧ 0 < len ∧ o + len ≤ A.slots.size ∧ len ≤ 536870912 ∧ ∀ i, i < len → ¬ 255 < cv A (o + i)
def E (a : Addr) (D : Cell) (fV fC : Field) (A : Cell) (o len : Nat) (r : Option Value) (s u : State) : Prop := Got a D fV fC A o len r s u
/-- len > 0, no char of the range above 255: a Latin-1 String of their low bytes -/
theorem law (l : Launch) (a : Addr) (D : Cell) (fV fC : Field) (b : Addr) (A : Cell) (z : Int32) (o len : Nat) : Law l yN 5 4 2 35 yB 6 none site (P a D fV fC b A z o len) (E a D fV fC A o len) [⟨a, fC.slot⟩, ⟨a, fV.slot⟩] 1 len := by
  refine Law.of_walk (plainFor_of_name (by decide +kernel)) (by decide +kernel) (by decide +kernel) (by decide) (fun _ _ h => by rw [h.1]; rfl) (fun _ U U' hal hh h => ⟨h.1, h.2.1.mv hal hh, h.2.2.1.al hal, h.2.2.2.1.al hal, h.2.2.2.2.1.mv hal hh, h.2.2.2.2.2.1.there hal hh, h.2.2.2.2.2.2⟩) (fun r U U' V V' h1 hal h2 h => Got.mv r U U' V V' h1 hal h2 h) ?_
  intro p e s m args below meth c s₁ X0 hexec hbytes hml hret hlk hnm hown hh0 W hP
  obtain ⟨rfl, hB, f1, f2, hA, s1, hz, l0, l1, l2, hp⟩ := hP
  have a31 := hA.1.2.2.2
  have c1 : Steps p.tables e below (s₁.setTop (entryFrame m #[.ref a, .ref b, .int (Int32.ofNat o), .int (Int32.ofNat len), .null] 6)) (s₁.setTop (mkF m 0 #[.val (.ref a), .val (.ref b), .val (.int (Int32.ofNat o)), .val (.int (Int32.ofNat len)), .val .null, .unset] [])) := entry rfl
  have c2 : Steps p.tables e below (s₁.setTop (entryFrame m #[.ref a, .ref b, .int (Int32.ofNat o), .int (Int32.ofNat len), .null] 6)) (s₁.setTop (mkF m 1 #[.val (.ref a), .val (.ref b), .val (.int (Int32.ofNat o)), .val (.int (Int32.ofNat len)), .val .null, .unset] [.ref a])) := c1.trans (by
    refine XS.aloadN X0.here hexec rfl (hb hbytes d0) rfl rfl ?_
    exact Steps.refl _)
  obtain ⟨T3, X3, q3, st3⟩ := X0.oinit hexec hown (wks W (objW "java/lang/String" 1)) (g := (mkF m 1 #[.val (.ref a), .val (.ref b), .val (.int (Int32.ofNat o)), .val (.int (Int32.ofNat len)), .val .null, .unset] [.ref a])) rfl (by rw [hml]; rfl) (rest := []) rfl (hb hbytes d1) (W := 0) (by show 2 * 0 + 0 ≤ _; decide) (Nat.le_of_ble_eq_true rfl) (Nat.le_of_ble_eq_true rfl)
  have hh3 := q3.trans hh0
  have c4 : Steps p.tables e below (s₁.setTop (entryFrame m #[.ref a, .ref b, .int (Int32.ofNat o), .int (Int32.ofNat len), .null] 6)) (T3.setTop (mkF m 27 #[.val (.ref a), .val (.ref b), .val (.int (Int32.ofNat o)), .val (.int (Int32.ofNat len)), .val .null, .unset] [])) := (c2.trans (st3 _ (Steps.refl _))).trans (by
    refine XS.iloadN X3.here hexec rfl (hb hbytes d4) rfl ?_
    refine XS.ifYes X3.here hexec rfl (pc0 := 5) rfl (hb hbytes d5) rfl (i0_ne_t (nz32 (by omega) l0)) (by decide) rfl ?_
    exact Steps.refl _)
  obtain ⟨T5, X5, q5, st5⟩ := X3.sget hexec hown (wk W (.fieldLink "java/lang/String" 38 "java/lang/String" "COMPACT_STRINGS" "Z")) s1 (fun _ _ h => by rw [hh3]; exact h) (g := (mkF m 27 #[.val (.ref a), .val (.ref b), .val (.int (Int32.ofNat o)), .val (.int (Int32.ofNat len)), .val .null, .unset] [])) rfl (hb hbytes d27)
  have hh5 := q5.trans hh3
  have c6 : Steps p.tables e below (s₁.setTop (entryFrame m #[.ref a, .ref b, .int (Int32.ofNat o), .int (Int32.ofNat len), .null] 6)) (T5.setTop (mkF m 30 #[.val (.ref a), .val (.ref b), .val (.int (Int32.ofNat o)), .val (.int (Int32.ofNat len)), .val .null, .unset] [.int z])) := c4.trans (st5 _ (Steps.refl _))
  have c7 : Steps p.tables e below (s₁.setTop (entryFrame m #[.ref a, .ref b, .int (Int32.ofNat o), .int (Int32.ofNat len), .null] 6)) (T5.setTop (mkF m 36 #[.val (.ref a), .val (.ref b), .val (.int (Int32.ofNat o)), .val (.int (Int32.ofNat len)), .val .null, .unset] [.int (Int32.ofNat len), .int (Int32.ofNat o), .ref b])) := c6.trans (by
    refine XS.ifNo X5.here hexec rfl (hb hbytes d30) rfl (i0_eq_f hz) ?_
    refine XS.aloadN X5.here hexec rfl (hb hbytes d33) rfl rfl ?_
    refine XS.iloadN X5.here hexec rfl (hb hbytes d34) rfl ?_
    refine XS.iloadN X5.here hexec rfl (hb hbytes d35) rfl ?_
    exact Steps.refl _)
  obtain ⟨v8, T8, X8, E8, g8⟩ := X5.callS hexec (Cmp3.law l b A o len) hown (wks W (staticW "java/lang/String" 177 Cmp3.yN)) (wk W Cmp3.tab) (W := 0) (Nat.le_of_ble_eq_true rfl) (Nat.le_of_ble_eq_true rfl) (Nat.le_refl _) (by show 0 + len ≤ len; omega) (g := (mkF m 36 #[.val (.ref a), .val (.ref b), .val (.int (Int32.ofNat o)), .val (.int (Int32.ofNat len)), .val .null, .unset] [.int (Int32.ofNat len), .int (Int32.ofNat o), .ref b])) rfl (by rw [hml]; rfl) c7 (argsL := [.ref b, .int (Int32.ofNat o), .int (Int32.ofNat len)]) (rest := []) rfl rfl (by show 2 * 0 + 0 ≤ _; decide) (hb hbytes d36) (⟨rfl, hA.mv X5.warmed.alike hh5, l1, l2, hp⟩)
  obtain ⟨e8, z8⟩ := E8
  obtain ⟨rfl, N, n1, n2, n3, n4, n5, n6⟩ := NewArr.mv _ T5 s _ _ hh5.symm (Vm.Alike.refl _) rfl e8
  rw [hh5] at z8
  have hB1 := hB.keep X8.warmed.alike (n6 _ _ hB.1)
  have hne : s.heap.size ≠ a := (Nat.ne_of_lt (Array.getElem?_eq_some_iff.mp hB.1).1).symm
  have c9 : Steps p.tables e below (s₁.setTop (entryFrame m #[.ref a, .ref b, .int (Int32.ofNat o), .int (Int32.ofNat len), .null] 6)) (T8.setTop (mkF m 39 #[.val (.ref a), .val (.ref b), .val (.int (Int32.ofNat o)), .val (.int (Int32.ofNat len)), .val .null, .unset] [.ref s.heap.size])) := g8
  have c10 : Steps p.tables e below (s₁.setTop (entryFrame m #[.ref a, .ref b, .int (Int32.ofNat o), .int (Int32.ofNat len), .null] 6)) (T8.setTop (mkF m 45 #[.val (.ref a), .val (.ref b), .val (.int (Int32.ofNat o)), .val (.int (Int32.ofNat len)), .val .null, .val (.ref s.heap.size)] [.int (Int32.ofNat N.slots.size), .ref s.heap.size, .ref a])) := by
    have hc : Steps p.tables e below (s₁.setTop (entryFrame m #[.ref a, .ref b, .int (Int32.ofNat o), .int (Int32.ofNat len), .null] 6)) (T8.setTop (mkF m 45 #[.val (.ref a), .val (.ref b), .val (.int (Int32.ofNat o)), .val (.int (Int32.ofNat len)), .val .null, .val (.ref s.heap.size)] [.int (Int32.ofNat len), .ref s.heap.size, .ref a])) := c9.trans (by
      refine XS.astore X8.here hexec rfl (hb hbytes d39) rfl rfl rfl ?_
      refine XS.aloadN X8.here hexec rfl (hb hbytes d41) rfl rfl ?_
      refine XS.aload X8.here hexec rfl (hb hbytes d42) rfl rfl ?_
      refine XS.iloadN X8.here hexec rfl (hb hbytes d44) rfl ?_
      exact Steps.refl _)
    rw [n4]; exact hc
  obtain ⟨v11, T11, X11, E11, g11⟩ := X8.callS hexec (CodL.law l s.heap.size N) hown (wks W (staticW "java/lang/String" 47 CodL.yN)) (wk W CodL.tab) (W := 1) (Nat.le_of_ble_eq_true rfl) (Nat.le_of_ble_eq_true rfl) (Nat.le_refl _) (by show 0 + len + 0 ≤ len; omega) (g := (mkF m 45 #[.val (.ref a), .val (.ref b), .val (.int (Int32.ofNat o)), .val (.int (Int32.ofNat len)), .val .null, .val (.ref s.heap.size)] [.int (Int32.ofNat N.slots.size), .ref s.heap.size, .ref a])) rfl (by rw [hml]; rfl) c10 (argsL := [.ref s.heap.size, .int (Int32.ofNat N.slots.size)]) (rest := [.ref a]) rfl rfl (by show 2 * 0 + (1 + 0) ≤ _; decide) (hb hbytes d45) (⟨rfl, n1⟩)
  obtain ⟨rfl, q11⟩ := E11
  have hB11 := hB1.mv (X8.warmed.alike.symm.trans X11.warmed.alike) q11
  have c12 : Steps p.tables e below (s₁.setTop (entryFrame m #[.ref a, .ref b, .int (Int32.ofNat o), .int (Int32.ofNat len), .null] 6)) (T11.setTop (mkF m 48 #[.val (.ref a), .val (.ref b), .val (.int (Int32.ofNat o)), .val (.int (Int32.ofNat len)), .val .null, .val (.ref s.heap.size)] [.int 0, .ref a])) := g11
  obtain ⟨T13, X13, p13, bl13, sl13, st13⟩ := X11.finit hexec hown (wk W (.fieldLink "java/lang/String" 15 "java/lang/String" "coder" "B")) (Or.inr ⟨_, (wk W (.laysFinal "java/lang/String" "java/lang/String" "coder" "B"))⟩) (Or.inl ⟨rfl, hnm⟩) f2 (Or.inl rfl) hB11 (t := .byte) (by decide +kernel) rfl (g := (mkF m 48 #[.val (.ref a), .val (.ref b), .val (.int (Int32.ofNat o)), .val (.int (Int32.ofNat len)), .val .null, .val (.ref s.heap.size)] [.int 0, .ref a])) rfl (rest := []) rfl (hb hbytes d48)
  have c14 : Steps p.tables e below (s₁.setTop (entryFrame m #[.ref a, .ref b, .int (Int32.ofNat o), .int (Int32.ofNat len), .null] 6)) (T13.setTop (mkF m 54 #[.val (.ref a), .val (.ref b), .val (.int (Int32.ofNat o)), .val (.int (Int32.ofNat len)), .val .null, .val (.ref s.heap.size)] [.ref s.heap.size, .ref a])) := (c12.trans (st13 _ (Steps.refl _))).trans (by
    refine XS.aloadN X13.here hexec rfl (hb hbytes d51) rfl rfl ?_
    refine XS.aload X13.here hexec rfl (hb hbytes d52) rfl rfl ?_
    exact Steps.refl _)
  obtain ⟨T15, X15, p15, bl15, sl15, st15⟩ := X13.finit hexec hown (wk W (.fieldLink "java/lang/String" 9 "java/lang/String" "value" "[B")) (Or.inr ⟨_, (wk W (.laysFinal "java/lang/String" "java/lang/String" "value" "[B"))⟩) (Or.inl ⟨rfl, hnm⟩) f1 (Or.inl rfl) bl13 (t := (.array .byte)) (by decide +kernel) rfl (g := (mkF m 54 #[.val (.ref a), .val (.ref b), .val (.int (Int32.ofNat o)), .val (.int (Int32.ofNat len)), .val .null, .val (.ref s.heap.size)] [.ref s.heap.size, .ref a])) rfl (rest := []) rfl (hb hbytes d54)
  have c16 : Steps p.tables e below (s₁.setTop (entryFrame m #[.ref a, .ref b, .int (Int32.ofNat o), .int (Int32.ofNat len), .null] 6)) (T15.setTop (mkF m 57 #[.val (.ref a), .val (.ref b), .val (.int (Int32.ofNat o)), .val (.int (Int32.ofNat len)), .val .null, .val (.ref s.heap.size)] [])) := c14.trans (st15 _ (Steps.refl _))
  have ap := apart (Or.inr ⟨_, (wk W (.laysFinal "java/lang/String" "java/lang/String" "value" "[B"))⟩) (Or.inr ⟨_, (wk W (.laysFinal "java/lang/String" "java/lang/String" "coder" "B"))⟩) f1 f2 (t₁ := .array .byte) (t₂ := .byte) (by decide +kernel) (by decide +kernel) (by decide)
  have al := X8.warmed.alike.symm.trans X15.warmed.alike
  have n7 : T11.heap[s.heap.size]? = some N := by rw [q11]; exact n1.1
  exact ⟨T15, none, _, _, _, X15, by simp, rfl, by omega, (fun _ => rfl), ⟨rfl, _, N, bl15, ((Same.refl D _).set _ (by simp)).set _ (by simp), sl15, (Cell.slots_setSlot_ne _ ap).trans sl13, n1.keep al (p15.other hne (p13.other hne n7)), n2, by rw [al.findClass]; exact n3, n4, n5, fun y c h1 h2 => p15.other h1 (p13.other h1 (by rw [q11]; exact n6 y c h2)), by rw [p15.2.2, p13.2.2, q11]; exact z8⟩, fun fs hl => c16.trans (X15.returnOut hexec hret (hb hbytes d57) hl)⟩
end New4
namespace New1
def yN : MethodName := ⟨"java/lang/String", "<init>", "([C)V"⟩
abbrev yB : ByteArray := jdk_42_method_3_code
theorem d0 : decode yB 0 = .ok (.aload_n 0, 1) := by decide +kernel
theorem d1 : decode yB 1 = .ok (.aload_n 1, 1) := by decide +kernel
theorem d2 : decode yB 2 = .ok (.iconst 0, 1) := by decide +kernel
theorem d3 : decode yB 3 = .ok (.aload_n 1, 1) := by decide +kernel
theorem d4 : decode yB 4 = .ok (.arraylength, 1) := by decide +kernel
theorem d5 : decode yB 5 = .ok (.aconst_null, 1) := by decide +kernel
theorem d6 : decode yB 6 = .ok (.invokespecial 27, 3) := by decide +kernel
theorem d9 : decode yB 9 = .ok (.return_, 1) := by decide +kernel
def site : List Cond := [New4.tab] ++ initW "java/lang/String" 27 New4.yN
def tab : Cond := tabOf yN yB 2 none site
def P (a : Addr) (D : Cell) (fV fC : Field) (b : Addr) (A : Cell) (z : Int32) (args : Array Value) (s : State) : Prop := args = #[.ref a, .ref b] ∧ Blank "java/lang/String" a D s ∧ Found "java/lang/String" "value" "[B" fV s ∧ Found "java/lang/String" "coder" "B" fC s ∧ Ch b A s ∧ StaticIs s "java/lang/String" "COMPACT_STRINGS" "Z" (.int z) ∧ ¬ z = 0 ∧ 0 < A.slots.size ∧ A.slots.size ≤ 536870912 ∧ ∀ i, i < A.slots.size → ¬ 255 < cv A i
def E (a : Addr) (D : Cell) (fV fC : Field) (A : Cell) (r : Option Value) (s u : State) : Prop := Got a D fV fC A 0 A.slots.size r s u
/-- new String(chars), not empty, no char above 255: a Latin-1 String of their low bytes -/
theorem law (l : Launch) (a : Addr) (D : Cell) (fV fC : Field) (b : Addr) (A : Cell) (z : Int32) : Law l yN 2 1 3 52 yB 2 none site (P a D fV fC b A z) (E a D fV fC A) [⟨a, fC.slot⟩, ⟨a, fV.slot⟩] 1 A.slots.size := by
  refine Law.of_walk (plainFor_of_name (by decide +kernel)) (by decide +kernel) (by decide +kernel) (by decide) (fun _ _ h => by rw [h.1]; rfl) (fun _ U U' hal hh h => ⟨h.1, h.2.1.mv hal hh, h.2.2.1.al hal, h.2.2.2.1.al hal, h.2.2.2.2.1.mv hal hh, h.2.2.2.2.2.1.there hal hh, h.2.2.2.2.2.2⟩) (fun r U U' V V' h1 hal h2 h => Got.mv r U U' V V' h1 hal h2 h) ?_
  intro p e s m args below meth c s₁ X0 hexec hbytes hml hret hlk hnm hown hh0 W hP
  obtain ⟨rfl, hB, f1, f2, hA, s1, hz, l0, l2, hp⟩ := hP
  have c1 : Steps p.tables e below (s₁.setTop (entryFrame m #[.ref a, .ref b] 2)) (s₁.setTop (mkF m 0 #[.val (.ref a), .val (.ref b)] [])) := entry rfl
  have c2 : Steps p.tables e below (s₁.setTop (entryFrame m #[.ref a, .ref b] 2)) (s₁.setTop (mkF m 6 #[.val (.ref a), .val (.ref b)] [.null, .int (Int32.ofNat A.slots.size), .int 0, .ref b, .ref a])) := c1.trans (by
    refine XS.aloadN X0.here hexec rfl (hb hbytes d0) rfl rfl ?_
    refine XS.aloadN X0.here hexec rfl (hb hbytes d1) rfl rfl ?_
    refine iconstV X0.here hexec rfl 0 (hb hbytes d2) (by decide) ?_
    refine XS.aloadN X0.here hexec rfl (hb hbytes d3) rfl rfl ?_
    refine X0.alen hexec (hA.1.mv X0.warmed.alike hh0) rfl rfl (hb hbytes d4) ?_
    refine XS.aconstNull X0.here hexec rfl (hb hbytes d5) ?_
    exact Steps.refl _)
  obtain ⟨v3, T3, X3, E3, g3⟩ := X0.callN hexec (New4.law l a D fV fC b A z 0 A.slots.size) rfl hown (wks W (initW "java/lang/String" 27 New4.yN)) (W New4.tab (by simp only [site, List.mem_cons, List.mem_append, true_or, or_true])) (W := 0) (Nat.le_of_ble_eq_true rfl) (Nat.le_of_ble_eq_true rfl) (Nat.le_refl _) (by show 0 + A.slots.size ≤ A.slots.size; omega) (g := (mkF m 6 #[.val (.ref a), .val (.ref b)] [.null, .int (Int32.ofNat A.slots.size), .int (Int32.ofNat 0), .ref b, .ref a])) rfl (by rw [hml]; rfl) c2 (argsL := [.ref b, .int (Int32.ofNat 0), .int (Int32.ofNat A.slots.size), .null]) (rest := []) rfl rfl (by show 2 * 0 + 0 ≤ _; decide) (hb hbytes d6) (⟨rfl, hB.mv X0.warmed.alike hh0, f1.al X0.warmed.alike, f2.al X0.warmed.alike, hA.mv X0.warmed.alike hh0, s1.there X0.warmed.alike hh0, hz, l0, by omega, l2, fun i hi => by rw [Nat.zero_add]; exact hp i hi⟩)
  have e0 := Got.mv _ s₁ s _ _ hh0.symm (Vm.Alike.refl _) rfl E3
  obtain rfl := e0.1
  have c4 : Steps p.tables e below (s₁.setTop (entryFrame m #[.ref a, .ref b] 2)) (T3.setTop (mkF m 9 #[.val (.ref a), .val (.ref b)] [])) := g3
  exact ⟨T3, none, _, _, _, X3, by simp, rfl, by omega, (fun _ => rfl), e0, fun fs hl => c4.trans (X3.returnOut hexec hret (hb hbytes d9) hl)⟩
theorem pays {l : Launch} {R : Room} {p : Program} {e : Env} {below : List Frame} {s : State} {sargs : Array Value} {len W : Nat} (a : Addr) (D : Cell) (fV fC : Field) (b : Addr) (A : Cell) (z : Int32) (htab : tab.before sargs s = true) (hfr : 4 ≤ R.frames) (hlo : W + 65 ≤ R.locals) :
    Back l R p e below s sargs yN len W (fun A₁ a₁ => A₁.cells + 1 ≤ R.cells ∧ A₁.slots + A.slots.size ≤ R.slots ∧ P a D fV fC b A z a₁ A₁.U) (fun A₁ _ v₁ B₁ => E a D fV fC A v₁ A₁.U B₁.U ∧ B₁.locs = A₁.locs ++ [⟨a, fC.slot⟩, ⟨a, fV.slot⟩] ∧ B₁.cells = A₁.cells + 1 ∧ B₁.slots = A₁.slots + A.slots.size) :=
  (law l a D fV fC b A z).pays htab hfr (by omega)
end New1
/-- the byte, read back as charAt reads it, is the char -/
theorem lo8_mask {x : Int32} (h0 : ¬ x < 0) (h1 : ¬ 255 < x) : lo8 x &&& 255 = x := by
  have t : ∀ k : Fin 256, lo8 (Int32.ofNat k.val) &&& 255 = Int32.ofNat k.val := by decide +kernel
  rw [Int32.lt_iff_toInt_lt] at h0 h1
  have e0 : (0 : Int32).toInt = 0 := rfl
  have e1 : (255 : Int32).toInt = 255 := rfl
  obtain ⟨k, hk⟩ : ∃ k : Nat, x.toInt = k := ⟨x.toInt.toNat, by omega⟩
  have hx : x = Int32.ofNat k := Int32.toInt_inj.mp (by rw [hk, Int32.toInt_ofNat_small (by omega)])
  rw [hx]
  exact t ⟨k, by omega⟩
end StrChars
namespace StrChars.Road
open Jvm Sem ClassFile Op Lib Jvm.Stand Jvm.Free Jvm.Free.XT
open Jvm.Lib.Cold (StaticIs)
abbrev ST : String := "java/lang/String"
/-- every table word that New1's law asks, flat -/
abbrev words : List Jvm.Cond := [.code New1.yN New1.yB 2 none, .initialized ST, .methodLink ST 27 New4.yN, .instanceMethod New4.yN,
  .code New4.yN New4.yB 6 none, .fieldLink ST 38 ST "COMPACT_STRINGS" "Z", .laysFinal ST ST "value" "[B", .fieldLink ST 9 ST "value" "[B", .laysFinal ST ST "coder" "B", .fieldLink ST 15 ST "coder" "B",
  .methodLink ST 1 Lib.objectInit, .instanceMethod Lib.objectInit, .code Lib.objectInit ⟨#[0xb1]⟩ 1 none, .methodLink ST 177 Cmp3.yN, .static Cmp3.yN, .methodLink ST 47 CodL.yN, .static CodL.yN,
  .code Cmp3.yN Cmp3.yB 6 (some (.array .byte)), .initialized U16, .arrayClass .byte, .methodLink U16 115 Cmp5.yN, .static Cmp5.yN, .code Cmp5.yN Cmp5.yB 7 (some .int), .code CodL.yN CodL.yB 2 (some .byte)]
theorem tab_of {a : Array Value} {s : State} (h : ∀ w ∈ words, w.before a s = true) : New1.tab.before a s = true := by
  have h5 : Cmp5.tab.before a s = true := unparts (wk h (.code Cmp5.yN Cmp5.yB 7 (some .int))) (wks h (.initialized Cmp5.yN.cls :: Cmp5.site))
  have hc : CodL.tab.before a s = true := unparts (wk h (.code CodL.yN CodL.yB 2 (some .byte))) (wks h (.initialized CodL.yN.cls :: CodL.site))
  have q5 : ∀ w ∈ Cmp5.tab :: words, w.before a s = true := fun w hw => (List.mem_cons.mp hw).elim (fun e => e ▸ h5) (h w)
  have h3 : Cmp3.tab.before a s = true := unparts (wk q5 (.code Cmp3.yN Cmp3.yB 6 (some (.array .byte)))) (wks q5 (.initialized Cmp3.yN.cls :: Cmp3.site))
  have q3 : ∀ w ∈ Cmp3.tab :: CodL.tab :: words, w.before a s = true := fun w hw => (List.mem_cons.mp hw).elim (fun e => e ▸ h3) fun hw => (List.mem_cons.mp hw).elim (fun e => e ▸ hc) (h w)
  have h4 : New4.tab.before a s = true := unparts (wk q3 (.code New4.yN New4.yB 6 none)) (wks q3 (.initialized New4.yN.cls :: New4.site))
  have q4 : ∀ w ∈ New4.tab :: words, w.before a s = true := fun w hw => (List.mem_cons.mp hw).elim (fun e => e ▸ h4) (h w)
  exact unparts (wk q4 (.code New1.yN New1.yB 2 none)) (wks q4 (.initialized New1.yN.cls :: New1.site))
/-- the words ride from the start Z to the walk's own state -/
theorem moved {Z s : State} {a0 args : Array Value} (hZ : Z.Warmed39 s.vm) (hw : ∀ d ∈ words, d.before a0 Z = true) : ∀ d ∈ words, d.before args s = true := fun d hd => by
  have q := hw d hd
  have t : ∀ d ∈ words, d = .arrayClass .byte ∨ (d.onTables && d.keepsFace) = true := by decide +kernel
  rcases t d hd with rfl | t
  · exact RoadKit.mvA hZ q
  · exact RoadKit.mv hZ q t
/-- WHAT COMES BACK, over the tables of the start Z: h the heap at the call, h' behind it -/
def Q (Z : State) (x : Addr) (A : Cell) (h : Heap) (v : Option Value) (h' : Heap) (L : List Loc) : Prop := v = none ∧ (∀ y ∈ L, y.base = x) ∧ RoadKit.Keep h h' [x] ∧ h'.size = h.size + 1 ∧ RoadKit.Exa Z h' x ST ∧ RoadKit.Fld Z h' x ST "value" "[B" (.ref h.size) ∧ RoadKit.Fld Z h' x ST "coder" "B" (.int 0) ∧
  (∃ V : Cell, RoadKit.Arr Z h' h.size V .byte ∧ V.vm = .none ∧ Z.vm.findClass "[B" = some V.cls ∧ V.slots.size = A.slots.size ∧ ∀ j, j < A.slots.size → V.slots[j]? = some (.int (lo8 (cv A j)))) ∧
  ∀ (O n d : String) (w : Value), RoadKit.Fld Z h x O n d w → RoadKit.slotOf Z O n d ≠ RoadKit.slotOf Z ST "value" "[B" → RoadKit.slotOf Z O n d ≠ RoadKit.slotOf Z ST "coder" "B" → RoadKit.Fld Z h' x O n d w
/-- **new String(chars) AT A CALL, IN THE ROAD'S FORM**: for specialBack behind newO: x the fresh String, b the char[] with the cell A -/
theorem back {p : Program} {l : Launch} {e : Env} {R : Room} {s : State} {args : Array Value} {below : List Frame} {len W : Nat} {Z : State} {a0 : Array Value} {h : Heap} (hZ : Z.Warmed39 s.vm) (hw : ∀ d ∈ words, d.before a0 Z = true) {kI : Nat} (wi : (Jvm.Cond.instantiable ST kI).before a0 Z = true)
    {x b : Addr} {A : Cell} {z : Int32} {v0 c0 : Value} (E : RoadKit.Exa Z h x ST) (V : RoadKit.Fld Z h x ST "value" "[B" v0) (C : RoadKit.Fld Z h x ST "coder" "B" c0) (K : RoadKit.Arr Z h b A .char) (hty : Typed .char A) (S : RoadKit.Sta Z h ST "COMPACT_STRINGS" "Z" (.int z)) (hz : ¬ z = 0)
    (l0 : 0 < A.slots.size) (l2 : A.slots.size ≤ 536870912) (hp : ∀ i, i < A.slots.size → ¬ 255 < cv A i) (hfr : 4 ≤ R.frames) (hlo : W + 65 ≤ R.locals) :
    Back l R p e below s args New1.yN len W (fun P a => a = #[.ref x, .ref b] ∧ P.U.heap = h ∧ P.cells + 1 ≤ R.cells ∧ P.slots + A.slots.size ≤ R.slots)
      (fun P _ v B => ∃ L, Q Z x A h v B.U.heap L ∧ B.locs = P.locs ++ L ∧ B.cells = P.cells + 1 ∧ B.slots = P.slots + A.slots.size) := by
  intro m meth c P g ig mk a X hg hsize hdg hW hn hp'
  obtain ⟨rfl, rfl, r1, r2⟩ := hp'
  have al : Z.vm.Alike P.U.vm := hZ.alike.trans X.warmed.alike
  obtain ⟨D, cfV, kV, iV, fV, hD, gV, stV, knV, obV, asV, slV⟩ := id V
  obtain ⟨D', cfC, kC, iC, fC, hD', gC, stC, -, -, asC, slC⟩ := id C
  cases hD.symm.trans hD'
  obtain ⟨D2, kD, e1, e2, e3, e4, e5⟩ := id E
  cases hD.symm.trans e1
  obtain ⟨c2, k2, i1, i2, i3, -⟩ := Cond.instantiable_spec wi
  cases e2.symm.trans i1
  cases e3.symm.trans i2
  obtain ⟨kU, u1, u2⟩ := al.2.2 _ _ e3
  have hB : Blank ST x D P.U := ⟨hD, ⟨knV, fun q hq => by rw [hq] at obV; cases obV⟩, by rw [al.findClass]; exact e2, kU, u1, by rw [u2]; exact i3, by rw [u2]; exact e5 i3⟩
  have F1 : Found ST "value" "[B" fV P.U := ⟨SBG.found_only al ⟨cfV, kV, iV, gV⟩, stV⟩
  have F2 : Found ST "coder" "B" fC P.U := ⟨SBG.found_only al ⟨cfC, kC, iC, gC⟩, stC⟩
  have hA : Ch b A P.U := ⟨⟨K.1, State.isArrayOf_alike al K.2.1, K.2.2, by omega⟩, hty⟩
  have hS : StaticIs P.U ST "COMPACT_STRINGS" "Z" (.int z) := by
    obtain ⟨cfS, iS, kS, fS, st, cS, t1, t2, t3, t4, t5, t6, t7⟩ := S
    exact StaticIs.there (s := { Z with heap := P.U.heap }) ⟨cfS, iS, kS, fS, st, cS, t1, t2, t3, t4, t5, (fun q => by rw [q] at t6; cases t6), t7⟩ al rfl
  obtain ⟨v, B, X', ⟨⟨hv, E', V', q1, q2, q3, q4, q5, q6, q7, q8, q9, q10, q11⟩, hl, hc, hs⟩, st⟩ := New1.pays x D fV fC b A z (tab_of (moved hZ hw)) hfr hlo m meth c P g ig mk _ X hg hsize hdg hW hn ⟨r1, r2, rfl, hB, F1, F2, hA, hS, hz, l0, l2, hp⟩
  have al' : Z.vm.Alike B.U.vm := hZ.alike.trans X'.warmed.alike
  have hsz : E'.slots.size = D.slots.size := by
    obtain ⟨-, -, -, kB, w1, w2, w3⟩ := q1
    obtain ⟨kB', y1, y2⟩ := al'.2.2 _ _ e3
    rw [q2.2.1] at w1
    cases w1.symm.trans y1
    rw [w3, e5 i3, y2]
  refine ⟨v, B, X', ⟨_, ⟨hv, ?_, ⟨by omega, fun y cy hy hn' => q10 y cy (by simpa using hn') hy, fun y cy hy => ?_⟩, q11, ⟨E', _, q1.1, by rw [q2.2.1]; exact e2, by rw [q2.2.1]; exact e3, by rw [q2.1]; exact obV, fun _ => by rw [hsz]; exact e5 i3⟩,
    ⟨E', cfV, kV, iV, fV, q1.1, gV, stV, by rw [q2.1]; exact knV, by rw [q2.1]; exact obV, by rw [q2.2.1]; exact asV, q3⟩, ⟨E', cfC, kC, iC, fC, q1.1, gC, stC, by rw [q2.1]; exact knV, by rw [q2.1]; exact obV, by rw [q2.2.1]; exact asC, q4⟩,
    ⟨V', ⟨q5.1, State.isArrayOf_alike al'.symm q5.2.1, q5.2.2.1⟩, q6, by rw [← al'.findClass]; exact q7, q8, fun j hj => by have := q9 j hj; rwa [Nat.zero_add] at this⟩, fun O n d w F n1 n2 => ?_⟩, hl, hc, hs⟩, st⟩
  · intro y hy
    simp only [List.mem_cons, List.not_mem_nil, or_false] at hy
    rcases hy with rfl | rfl <;> rfl
  · by_cases q : y = x
    · subst q
      cases hD.symm.trans hy
      exact ⟨E', q1.1, q2.2.1, q2.1, hsz⟩
    · exact ⟨cy, q10 y cy q hy, rfl, rfl, rfl⟩
  · obtain ⟨D3, cf, k, i, f, g1, g2, g3, g4, g5, g6, g7⟩ := F
    cases hD.symm.trans g1
    simp only [RoadKit.slotOf, g2, gV, gC, Option.map_some, Option.getD_some] at n1 n2
    exact ⟨E', cf, k, i, f, q1.1, g2, g3, by rw [q2.1]; exact g4, by rw [q2.1]; exact g5, by rw [q2.2.1]; exact g6, by rw [q2.2.2 f.slot (by simp [n1, n2])]; exact g7⟩
end StrChars.Road
namespace StrChars.Road
open Jvm Sem ClassFile Op Lib Jvm.Stand Jvm.Free Jvm.Free.XT
/-- WHAT COMES BACK, the byte[] as a list of values -/
def QA (Z : State) (x : Addr) (zn : Int32) (cs : List Int32) (h : Heap) (v : Option Value) (h' : Heap) (L : List Loc) : Prop := v = none ∧ (∀ y ∈ L, y.base = x) ∧ RoadKit.Keep h h' [x] ∧ h'.size = h.size + 1 ∧ RoadKit.Exa Z h' x ST ∧ RoadKit.Fld Z h' x ST "value" "[B" (.ref h.size) ∧ RoadKit.Fld Z h' x ST "coder" "B" (.int 0) ∧
  (∃ kb, Z.vm.findClass "[B" = some kb ∧ RoadKit.Arv Z h' h.size kb .byte zn (cs.map fun c => .int (lo8 c)) (.int 0)) ∧
  ∀ (O n d : String) (w : Value), RoadKit.Fld Z h x O n d w → RoadKit.slotOf Z O n d ≠ RoadKit.slotOf Z ST "value" "[B" → RoadKit.slotOf Z O n d ≠ RoadKit.slotOf Z ST "coder" "B" → RoadKit.Fld Z h' x O n d w
/-- **new String(chars) AT A CALL, THE ARRAYS AS LISTS**: the char[] at b holds cs, not empty, no char above 255 -/
theorem backArv {p : Program} {l : Launch} {e : Env} {R : Room} {s : State} {args : Array Value} {below : List Frame} {len W : Nat} {Z : State} {a0 : Array Value} {h : Heap} (hZ : Z.Warmed39 s.vm) (hw : ∀ d ∈ words, d.before a0 Z = true) {kI : Nat} (wi : (Jvm.Cond.instantiable ST kI).before a0 Z = true)
    {x b : Addr} {k : ClassId} {zn z : Int32} {cs : List Int32} {dv v0 c0 : Value} (E : RoadKit.Exa Z h x ST) (V : RoadKit.Fld Z h x ST "value" "[B" v0) (C : RoadKit.Fld Z h x ST "coder" "B" c0) (K : RoadKit.Arv Z h b k .char zn (cs.map Value.int) dv) (S : RoadKit.Sta Z h ST "COMPACT_STRINGS" "Z" (.int z)) (hz : ¬ z = 0)
    (hlen : zn.toNatClampNeg = cs.length) (h0 : 0 < cs.length) (hbig : cs.length ≤ 536870912) (hall : ∀ c ∈ cs, ¬ 255 < c) (hfr : 4 ≤ R.frames) (hlo : W + 65 ≤ R.locals) :
    Back l R p e below s args New1.yN len W (fun P a => a = #[.ref x, .ref b] ∧ P.U.heap = h ∧ P.cells + 1 ≤ R.cells ∧ P.slots + cs.length ≤ R.slots)
      (fun P _ v B => ∃ L, QA Z x zn cs h v B.U.heap L ∧ B.locs = P.locs ++ L ∧ B.cells = P.cells + 1 ∧ B.slots = P.slots + cs.length) := by
  obtain ⟨A, K1, K2, K3, K4, K5, K6⟩ := K
  have e : A.slots.size = cs.length := K3.trans hlen
  have hat : ∀ (i : Nat) (hi : i < cs.length), A.slots[i]? = some (.int cs[i]) := fun i hi => by rw [K5 i (by omega)]; simp [List.getD_eq_getElem?_getD, hi]
  have hcv : ∀ (i : Nat) (hi : i < cs.length), cv A i = cs[i] := fun i hi => by unfold cv; rw [hat i hi]
  have hty : Typed .char A := fun i v hv => by
    have hi : i < A.slots.size := (Array.getElem?_eq_some_iff.mp hv).1
    have q := K5 i hi
    rw [hv] at q
    rw [Option.some.inj q]
    exact K6 i hi
  refine Back.mono (back hZ hw wi E V C K1 hty S hz (by omega) (by omega) (fun i hi => by rw [hcv i (by omega)]; exact hall _ (List.getElem_mem _)) hfr hlo) (fun P a hp => ⟨hp.1, hp.2.1, hp.2.2.1, by rw [e]; exact hp.2.2.2⟩) (fun P a v B hp hq => ?_)
  obtain ⟨L, ⟨q1, q2, q3, q4, q5, q6, q7, ⟨V', v1, v2, v3, v4, v5⟩, q9⟩, hl, hc, hs⟩ := hq
  refine ⟨L, ⟨q1, q2, q3, q4, q5, q6, q7, ⟨V'.cls, v3, V', v1, rfl, by rw [v4, e, hlen], K4, fun i hi => ?_, fun i hi => ?_⟩, q9⟩, hl, hc, by rw [hs, e]⟩
  · have hi' : i < cs.length := by omega
    rw [v5 i (by omega), hcv i hi']; simp [List.getD_eq_getElem?_getD, hi']
  · have hi' : i < cs.length := by omega
    simp only [List.getD_eq_getElem?_getD, List.getElem?_map, List.getElem?_eq_getElem hi', Option.map_some, Option.getD_some]
    exact fits_lo8 _
end StrChars.Road
namespace StrChars.Road
open Jvm Sem ClassFile Op Lib Jvm.Stand Jvm.Free Jvm.Free.XT
/-- WHAT COMES BACK, in the writer's own shape -/
def QV (Z : State) (x : Addr) (N : Int32) (bs : List Int32) (h : Heap) (n0 : Nat) (v : Option Value) (h' : Heap) (L : List Loc) : Prop := v = none ∧ RoadKit.Fr n0 L ∧ RoadKit.Keep h h' [x] ∧ RoadKit.Exa Z h' x ST ∧ RoadKit.Fld Z h' x ST "coder" "B" (.int 0) ∧
  ∃ (t : Addr) (kb : ClassId), n0 ≤ t ∧ h.size ≤ t ∧ ¬ t = x ∧ RoadKit.Fld Z h' x ST "value" "[B" (.ref t) ∧ RoadKit.Arv Z h' t kb .byte N (bs.map Value.int) (.int 0)
/-- **new String(chars) AT A CALL, FOR THE WRITER**: a char[] of n known ints, each 0 to 255 -/
theorem backV {p : Program} {l : Launch} {e : Env} {R : Room} {s : State} {args : Array Value} {below : List Frame} {len W : Nat} {Z : State} {a0 : Array Value} {h : Heap} (hZ : Z.Warmed39 s.vm) (hw : ∀ d ∈ words, d.before a0 Z = true) {kI : Nat} (wi : (Jvm.Cond.instantiable ST kI).before a0 Z = true)
    {x b : Addr} {kC : ClassId} {cs bs : List Int32} {d v0 c0 : Value} {z N : Int32} {n n0 : Nat} (hx0 : n0 ≤ x) (hh0 : n0 ≤ h.size) (E : RoadKit.Exa Z h x ST) (V : RoadKit.Fld Z h x ST "value" "[B" v0) (C : RoadKit.Fld Z h x ST "coder" "B" c0) (K : RoadKit.Arv Z h b kC .char N (cs.map Value.int) d) (S : RoadKit.Sta Z h ST "COMPACT_STRINGS" "Z" (.int z)) (hz : ¬ z = 0)
    (hn : cs.length = n) (hN : N = Int32.ofNat n) (l0 : 0 < n) (l2 : n ≤ 4000) (hp : ∀ c ∈ cs, ¬ c < 0 ∧ ¬ (255 : Int32) < c) (hb : bs = cs.map (fun c => c.toInt8.toInt32)) (hfr : 4 ≤ R.frames) (hlo : W + 65 ≤ R.locals) :
    Back l R p e below s args (⟨"java/lang/String", "<init>", "([C)V"⟩ : MethodName) len W (fun P a => a = #[.ref x, .ref b] ∧ P.U.heap = h ∧ P.cells + 1 ≤ R.cells ∧ P.slots + n ≤ R.slots)
      (fun P _ v B => ∃ L, QV Z x N bs h n0 v B.U.heap L ∧ B.locs = P.locs ++ L ∧ B.cells = P.cells + 1 ∧ B.slots = P.slots + n) := by
  subst hn hN hb
  refine Back.mono (backArv hZ hw wi E V C K S hz (n32 (by omega)) l0 (by omega) (fun c hc => (hp c hc).2) hfr hlo) (fun P a hp => hp) (fun P a v B hp hq => ?_)
  obtain ⟨L, ⟨q1, q2, q3, q4, q5, q6, q7, ⟨kb, v1, v2⟩, q9⟩, hl, hc, hs⟩ := hq
  exact ⟨L, ⟨q1, fun y hy => by rw [q2 y hy]; exact hx0, q3, q5, q7, h.size, kb, hh0, Nat.le_refl _, Nat.ne_of_gt E.lt, q6, by rw [List.map_map]; exact v2⟩, hl, hc, hs⟩
end StrChars.Road
namespace StrChars
open Jvm Sem ClassFile Op Lib Jvm.Stand Jvm.Free.XT Jvm.Free.ALB Jvm.Free.JM Jvm.Free
open Jvm.Lib.Cold (StaticIs)
def hi8 (x : Int32) : Int32 := lo8 (x >>> ((8 : Int32) &&& 31))
/-- what StringUTF16.getChar makes of two bytes -/
def pairCh (u v : Int32) : Int32 := (((u &&& 255) <<< ((0 : Int32) &&& 31)) ||| ((v &&& 255) <<< ((8 : Int32) &&& 31))).toUInt32.toUInt16.toUInt32.toInt32
theorem lo8_and (x : Int32) : (lo8 x &&& 255).toBitVec.toNat = x.toBitVec.toNat % 256 := by
  have h : (lo8 x).toBitVec = (x.toBitVec.signExtend 8).signExtend 32 := by rw [lo8, Int8.toBitVec_toInt32, Int32.toBitVec_toInt8]
  rw [Int32.toBitVec_and, BitVec.toNat_and, h]
  have e : ((x.toBitVec.signExtend 8).signExtend 32).toNat % 256 = x.toBitVec.toNat % 256 := by
    rw [BitVec.toNat_signExtend]
    have hlt := x.toBitVec.isLt
    simp only [BitVec.toNat_setWidth, BitVec.toNat_signExtend]
    split <;> split <;> omega
  rw [← e]
  exact Nat.and_two_pow_sub_one_eq_mod _ 8
theorem pair_says {c : Int32} (h0 : ¬ c < 0) (h1 : ¬ 65535 < c) : pairCh (lo8 c) (hi8 c) = c := by
  rw [Int32.lt_iff_toInt_lt] at h0 h1
  have e0 : (0 : Int32).toInt = 0 := rfl
  have e1 : (65535 : Int32).toInt = 65535 := rfl
  have hc : c.toInt = c.toBitVec.toNat := by
    have := c.toBitVec.isLt
    have e : c.toInt = c.toBitVec.toInt := rfl
    rw [e] at h0 h1
    rw [e]
    rw [BitVec.toInt_eq_toNat_cond] at h0 h1 ⊢
    split at h0 <;> split <;> omega
  have hn : c.toBitVec.toNat < 65536 := by omega
  have a1 := lo8_and c
  have a2 : (hi8 c &&& 255).toBitVec.toNat = c.toBitVec.toNat / 256 := by
    rw [hi8, lo8_and]
    have e : ((8 : Int32) &&& 31) = 8 := by decide
    rw [e, Int32.toBitVec_shiftRight]
    have e2 : ((8 : Int32).toBitVec.smod 32) = 8#32 := by decide
    rw [e2, BitVec.sshiftRight_eq', BitVec.toNat_sshiftRight_of_msb_false (by rw [BitVec.msb_eq_false_iff_two_mul_lt]; omega)]
    show c.toBitVec.toNat >>> 8 % 256 = _
    rw [Nat.shiftRight_eq_div_pow]
    omega
  unfold pairCh
  apply Int32.toBitVec_inj.mp
  apply BitVec.eq_of_toNat_eq
  have f0 : ((0 : Int32) &&& 31) = 0 := by decide
  have f8 : ((8 : Int32) &&& 31) = 8 := by decide
  rw [f0, f8]
  have g : (((lo8 c &&& 255) <<< (0 : Int32)) ||| ((hi8 c &&& 255) <<< (8 : Int32))).toBitVec.toNat = c.toBitVec.toNat := by
    rw [Int32.toBitVec_or, Int32.toBitVec_shiftLeft, Int32.toBitVec_shiftLeft]
    have s0 : ((0 : Int32).toBitVec.smod 32) = 0#32 := by decide
    have s8 : ((8 : Int32).toBitVec.smod 32) = 8#32 := by decide
    rw [s0, s8, BitVec.toNat_or]
    simp only [BitVec.shiftLeft_eq', BitVec.toNat_shiftLeft, a1, a2]
    show (c.toBitVec.toNat % 256) <<< 0 % 2 ^ 32 ||| (c.toBitVec.toNat / 256) <<< 8 % 2 ^ 32 = _
    rw [Nat.shiftLeft_zero, Nat.mod_eq_of_lt (show c.toBitVec.toNat % 256 < 2 ^ 32 by omega), Nat.mod_eq_of_lt (show (c.toBitVec.toNat / 256) <<< 8 < 2 ^ 32 by rw [Nat.shiftLeft_eq]; omega), Nat.or_comm, ← Nat.shiftLeft_add_eq_or_of_lt (by omega), Nat.shiftLeft_eq]
    omega
  show BitVec.toNat (((((lo8 c &&& 255) <<< (0 : Int32)) ||| ((hi8 c &&& 255) <<< (8 : Int32))).toBitVec.setWidth 16).setWidth 32) = _
  rw [BitVec.toNat_setWidth, BitVec.toNat_setWidth, g]
  omega
end StrChars
namespace StrChars
open Jvm Sem ClassFile Op Lib Jvm.Stand Jvm.Free.XT Jvm.Free.ALB Jvm.Free.JM Jvm.Free
open Jvm.Lib.Cold (StaticIs)
/-- charAt's cast of a byte read back -/
def chr8 (u : Int32) : Int32 := (u &&& 255).toUInt32.toUInt16.toUInt32.toInt32
theorem chr8_lo8 {c : Int32} (h0 : ¬ c < 0) (h1 : ¬ 255 < c) : chr8 (lo8 c) = c := by
  have t : ∀ k : Fin 256, (Int32.ofNat k.val).toUInt32.toUInt16.toUInt32.toInt32 = Int32.ofNat k.val := by decide +kernel
  unfold chr8
  rw [lo8_mask h0 h1]
  rw [Int32.lt_iff_toInt_lt] at h0 h1
  have e0 : (0 : Int32).toInt = 0 := rfl
  have e1 : (255 : Int32).toInt = 255 := rfl
  obtain ⟨k, hk⟩ : ∃ k : Nat, c.toInt = k := ⟨c.toInt.toNat, by omega⟩
  have hx : c = Int32.ofNat k := Int32.toInt_inj.mp (by rw [hk, Int32.toInt_ofNat_small (by omega)])
  rw [hx]
  exact t ⟨k, by omega⟩
theorem narrow_ch {c : Int32} (h0 : ¬ c < 0) (h1 : ¬ 65535 < c) : narrow .char (.int c) = .int c := by
  have q : narrow .char (.int (pairCh (lo8 c) (hi8 c))) = .int (pairCh (lo8 c) (hi8 c)) := narrow_c _
  rwa [pair_says h0 h1] at q
/-- the array's cell V codes the n chars f 0 .. f (n - 1) by the coder cd, as the JDK does: coder 1 just where some char is above 255 -/
def Cod (cd : Int32) (n : Nat) (f : Nat → Int32) (V : Cell) : Prop := (cd = 0 ∧ V.slots.size = n ∧ ∀ j, j < n → V.slots[j]? = some (.int (lo8 (f j))) ∧ ¬ 255 < f j) ∨ (cd = 1 ∧ V.slots.size = 2 * n ∧ (∀ j, j < n → V.slots[2 * j]? = some (.int (lo8 (f j))) ∧ V.slots[2 * j + 1]? = some (.int (hi8 (f j)))) ∧ ∃ j, j < n ∧ 255 < f j)
theorem Cod.cd {cd : Int32} {n : Nat} {f : Nat → Int32} {V : Cell} (h : Cod cd n f V) : cd = 0 ∨ cd = 1 := h.imp (fun q => q.1) fun q => q.1
/-- **x is a String of the n chars f 0 .. f (n - 1)**, Latin-1 or UTF-16; its array at t has the cell V -/
def Txt (x t : Addr) (V : Cell) (cd : Int32) (n : Nat) (f : Nat → Int32) (U : State) : Prop := Exact "java/lang/String" x U ∧ Has x "java/lang/String" "value" "[B" (.ref t) U ∧ Has x "java/lang/String" "coder" "B" (.int cd) U ∧ XT.Arr .byte t V U ∧ Cod cd n f V ∧ ∀ j, j < n → ¬ f j < 0 ∧ ¬ 65535 < f j
theorem Txt.mv {x t : Addr} {V : Cell} {cd : Int32} {n : Nat} {f : Nat → Int32} {U U' : State} (h : Txt x t V cd n f U) (hal : U.vm.Alike U'.vm) (hh : U'.heap = U.heap) : Txt x t V cd n f U' := ⟨h.1.mv hal hh, h.2.1.mv hal hh, h.2.2.1.mv hal hh, h.2.2.2.1.mv hal hh, h.2.2.2.2⟩
namespace IsL
def yN : MethodName := ⟨"java/lang/String", "isLatin1", "()Z"⟩
abbrev yB : ByteArray := jdk_42_method_154_code
theorem d0 : decode yB 0 = .ok (.getstatic 38, 3) := by decide +kernel
theorem d3 : decode yB 3 = .ok (.ifCond (.eq) 14, 3) := by decide +kernel
theorem d6 : decode yB 6 = .ok (.aload_n 0, 1) := by decide +kernel
theorem d7 : decode yB 7 = .ok (.getfield 15, 3) := by decide +kernel
theorem d10 : decode yB 10 = .ok (.ifCond (.ne) 7, 3) := by decide +kernel
theorem d13 : decode yB 13 = .ok (.iconst 1, 1) := by decide +kernel
theorem d14 : decode yB 14 = .ok (.goto 4, 3) := by decide +kernel
theorem d17 : decode yB 17 = .ok (.iconst 0, 1) := by decide +kernel
theorem d18 : decode yB 18 = .ok (.ireturn, 1) := by decide +kernel
def site : List Cond := [.fieldLink "java/lang/String" 38 "java/lang/String" "COMPACT_STRINGS" "Z", .fieldLink "java/lang/String" 15 "java/lang/String" "coder" "B"]
def tab : Cond := tabOf yN yB 1 (some .boolean) site
def P (x : Addr) (cd z : Int32) (args : Array Value) (s : State) : Prop := args = #[.ref x] ∧ Has x "java/lang/String" "coder" "B" (.int cd) s ∧ (cd = 0 ∨ cd = 1) ∧ StaticIs s "java/lang/String" "COMPACT_STRINGS" "Z" (.int z) ∧ ¬ z = 0
def E (cd : Int32) (r : Option Value) (s u : State) : Prop := XT.PureE (some (.int (1 - cd))) r s u
theorem law (l : Launch) (x : Addr) (cd z : Int32) : Law l yN 1 0 0 0 yB 1 (some .boolean) site (P x cd z) (E cd) [] 0 0 := by
  refine Law.of_walk (plainFor_of_name (by decide +kernel)) (by decide +kernel) (by decide +kernel) (by decide) (fun _ _ h => by rw [h.1]; rfl) (fun _ U U' hal hh h => ⟨h.1, h.2.1.mv hal hh, h.2.2.1, h.2.2.2.1.there hal hh, h.2.2.2.2⟩) (fun r U U' V V' h1 hal h2 h => XT.PureE.mv r U U' V V' h1 hal h2 h) ?_
  intro p e s m args below meth c s₁ X0 hexec hbytes hml hret hlk hnm hown hh0 W hP
  obtain ⟨rfl, hx, hc, s1, hz⟩ := hP
  have c1 : Steps p.tables e below (s₁.setTop (entryFrame m #[.ref x] 1)) (s₁.setTop (mkF m 0 #[.val (.ref x)] [])) := entry rfl
  obtain ⟨T2, X2, q2, st2⟩ := X0.sget hexec hown (wk W (.fieldLink "java/lang/String" 38 "java/lang/String" "COMPACT_STRINGS" "Z")) s1 (fun _ _ h => by rw [hh0]; exact h) (g := (mkF m 0 #[.val (.ref x)] [])) rfl (hb hbytes d0)
  have hh2 := q2.trans hh0
  have c3 : Steps p.tables e below (s₁.setTop (entryFrame m #[.ref x] 1)) (T2.setTop (mkF m 7 #[.val (.ref x)] [.ref x])) := (c1.trans (st2 _ (Steps.refl _))).trans (by
    refine XS.ifNo X2.here hexec rfl (hb hbytes d3) rfl (i0_eq_f hz) ?_
    refine XS.aloadN X2.here hexec rfl (hb hbytes d6) rfl rfl ?_
    exact Steps.refl _)
  obtain ⟨T4, X4, q4, st4⟩ := X2.hget hexec hown (wk W (.fieldLink "java/lang/String" 15 "java/lang/String" "coder" "B")) (hx.mv X2.warmed.alike hh2) (g := (mkF m 7 #[.val (.ref x)] [.ref x])) rfl (rest := []) rfl (hb hbytes d7)
  have c5 : Steps p.tables e below (s₁.setTop (entryFrame m #[.ref x] 1)) (T4.setTop (mkF m 10 #[.val (.ref x)] [.int cd])) := c3.trans (st4 _ (Steps.refl _))
  have c6 : Steps p.tables e below (s₁.setTop (entryFrame m #[.ref x] 1)) (T4.setTop (mkF m 18 #[.val (.ref x)] [.int (1 - cd)])) := by
    rcases hc with rfl | rfl
    · exact c5.trans (by
        refine XS.ifNo X4.here hexec rfl (hb hbytes d10) rfl (i0_ne_f rfl) ?_
        refine iconstV X4.here hexec rfl 1 (hb hbytes d13) (by decide) ?_
        refine XS.goto X4.here hexec rfl (pc0 := 14) rfl (hb hbytes d14) (by decide) rfl ?_
        exact Steps.refl _)
    · exact c5.trans (by
        refine XS.ifYes X4.here hexec rfl (pc0 := 10) rfl (hb hbytes d10) rfl (i0_ne_t (by decide)) (by decide) rfl ?_
        refine iconstV X4.here hexec rfl 0 (hb hbytes d17) (by decide) ?_
        exact Steps.refl _)
  exact ⟨T4, some (.int (1 - cd)), _, _, _, X4, rfl, rfl, rfl, (fun h => by cases h), ⟨rfl, q4.trans hh2⟩, fun fs hl => c6.trans (X4.ireturnOut hexec hret (by rcases hc with rfl | rfl <;> rfl) (Or.inr (Or.inl rfl)) (hb hbytes d18) hl)⟩
end IsL
namespace LChA
def yN : MethodName := ⟨"java/lang/StringLatin1", "charAt", "([BI)C"⟩
abbrev yB : ByteArray := jdk_43_method_2_code
theorem d0 : decode yB 0 = .ok (.iload_n 1, 1) := by decide +kernel
theorem d1 : decode yB 1 = .ok (.aload_n 0, 1) := by decide +kernel
theorem d2 : decode yB 2 = .ok (.arraylength, 1) := by decide +kernel
theorem d3 : decode yB 3 = .ok (.invokestatic 9, 3) := by decide +kernel
theorem d6 : decode yB 6 = .ok (.aload_n 0, 1) := by decide +kernel
theorem d7 : decode yB 7 = .ok (.iload_n 1, 1) := by decide +kernel
theorem d8 : decode yB 8 = .ok (.baload, 1) := by decide +kernel
theorem d9 : decode yB 9 = .ok (.sipush 255, 3) := by decide +kernel
theorem d12 : decode yB 12 = .ok (.iand, 1) := by decide +kernel
theorem d13 : decode yB 13 = .ok (.i2c, 1) := by decide +kernel
theorem d14 : decode yB 14 = .ok (.ireturn, 1) := by decide +kernel
def site : List Cond := [JO.Str_checkIndex.tab] ++ staticW "java/lang/StringLatin1" 9 JO.Str_checkIndex.yN
def tab : Cond := tabOf yN yB 2 (some .char) site
def P (t : Addr) (V : Cell) (i : Nat) (u : Int32) (fm : Value) (args : Array Value) (s : State) : Prop := args = #[.ref t, .int (Int32.ofNat i)] ∧ XT.Arr .byte t V s ∧ V.slots[i]? = some (.int u) ∧ (StaticIs s "jdk/internal/util/Preconditions" "SIOOBE_FORMATTER" "Ljava/util/function/BiFunction;" fm ∧ fm.isRef = true)
def E (u : Int32) (r : Option Value) (s w : State) : Prop := XT.PureE (some (.int (chr8 u))) r s w
theorem law (l : Launch) (t : Addr) (V : Cell) (i : Nat) (u : Int32) (fm : Value) : Law l yN 2 2 2 27 yB 2 (some .char) site (P t V i u fm) (E u) [] 0 0 := by
  refine Law.of_walk (plainFor_of_name (by decide +kernel)) (by decide +kernel) (by decide +kernel) (by decide) (fun _ _ h => by rw [h.1]; rfl) (fun _ U U' hal hh h => ⟨h.1, h.2.1.mv hal hh, h.2.2.1, h.2.2.2.1.there hal hh, h.2.2.2.2⟩) (fun r U U' V V' h1 hal h2 h => XT.PureE.mv r U U' V V' h1 hal h2 h) ?_
  intro p e s m args below meth c s₁ X0 hexec hbytes hml hret hlk hnm hown hh0 W hP
  obtain ⟨rfl, hV, hu, s1, rf⟩ := hP
  have v31 := hV.2.2.2
  have hi : i < V.slots.size := (Array.getElem?_eq_some_iff.mp hu).1
  have c1 : Steps p.tables e below (s₁.setTop (entryFrame m #[.ref t, .int (Int32.ofNat i)] 2)) (s₁.setTop (mkF m 0 #[.val (.ref t), .val (.int (Int32.ofNat i))] [])) := entry rfl
  have c2 : Steps p.tables e below (s₁.setTop (entryFrame m #[.ref t, .int (Int32.ofNat i)] 2)) (s₁.setTop (mkF m 3 #[.val (.ref t), .val (.int (Int32.ofNat i))] [.int (Int32.ofNat V.slots.size), .int (Int32.ofNat i)])) := c1.trans (by
    refine XS.iloadN X0.here hexec rfl (hb hbytes d0) rfl ?_
    refine XS.aloadN X0.here hexec rfl (hb hbytes d1) rfl rfl ?_
    refine X0.alen hexec (hV.mv X0.warmed.alike hh0) rfl rfl (hb hbytes d2) ?_
    exact Steps.refl _)
  obtain ⟨v3, T3, X3, E3, g3⟩ := X0.callS hexec (JO.Str_checkIndex.law l (Int32.ofNat i) (Int32.ofNat V.slots.size) fm) hown (wks W (staticW "java/lang/StringLatin1" 9 JO.Str_checkIndex.yN)) (wk W JO.Str_checkIndex.tab) (W := 0) (Nat.le_of_ble_eq_true rfl) (Nat.le_of_ble_eq_true rfl) (Nat.le_refl _) (Nat.le_refl _) (g := (mkF m 3 #[.val (.ref t), .val (.int (Int32.ofNat i))] [.int (Int32.ofNat V.slots.size), .int (Int32.ofNat i)])) rfl (by rw [hml]; rfl) c2 (argsL := [.int (Int32.ofNat i), .int (Int32.ofNat V.slots.size)]) (rest := []) rfl rfl (by show 2 * 0 + 0 ≤ _; decide) (hb hbytes d3) (⟨rfl, rf, s1.there X0.warmed.alike hh0, Int32.ofNat_not_neg (by omega), lt32 v31 hi⟩)
  obtain ⟨rfl, q3⟩ := E3
  have hh3 := q3.trans hh0
  have c4 : Steps p.tables e below (s₁.setTop (entryFrame m #[.ref t, .int (Int32.ofNat i)] 2)) (T3.setTop (mkF m 14 #[.val (.ref t), .val (.int (Int32.ofNat i))] [.int (chr8 u)])) := Steps.trans g3 (by
    refine XS.aloadN X3.here hexec rfl (hb hbytes d6) rfl rfl ?_
    refine XS.iloadN X3.here hexec rfl (hb hbytes d7) rfl ?_
    refine X3.aget hexec (hV.mv X3.warmed.alike hh3) rfl hu rfl rfl (hb hbytes d8) ?_
    refine sipushV X3.here hexec rfl 255 (hb hbytes d9) (by decide) ?_
    refine XS.iand X3.here hexec rfl (hb hbytes d12) rfl ?_
    refine i2c X3.here hexec rfl (hb hbytes d13) rfl ?_
    exact Steps.refl _)
  exact ⟨T3, some (.int (chr8 u)), _, _, _, X3, rfl, rfl, rfl, (fun h => by cases h), ⟨rfl, hh3⟩, fun fs hl => c4.trans (X3.ireturnOut hexec hret (narrow_c _) (Or.inr (Or.inr (Or.inr (Or.inl rfl)))) (hb hbytes d14) hl)⟩
end LChA
end StrChars
namespace StrChars.Road
open Jvm Sem ClassFile Op Lib Jvm.Stand Jvm.Free Jvm.Free.XT
open Jvm.Lib.Cold (StaticIs)
theorem consq {a : Array Value} {s : State} {c : Jvm.Cond} {L : List Jvm.Cond} (h0 : c.before a s = true) (h : ∀ w ∈ L, w.before a s = true) : ∀ w ∈ c :: L, w.before a s = true := fun w hw => (List.mem_cons.mp hw).elim (fun e => e ▸ h0) (h w)
/-- the bytes of the chars cs, low before high -/
def wideBytes : List Int32 → List Value
  | [] => []
  | c :: cs => .int (lo8 c) :: .int (hi8 c) :: wideBytes cs
theorem wide_lo (d : Value) : ∀ (cs : List Int32) (j : Nat), j < cs.length → (wideBytes cs).getD (2 * j) d = .int (lo8 (cs.getD j 0))
  | [], j, h => absurd h (Nat.not_lt_zero j)
  | c :: cs, 0, _ => rfl
  | c :: cs, j + 1, h => by
    have q := wide_lo d cs j (by simpa using h)
    rw [show 2 * (j + 1) = 2 * j + 1 + 1 from by omega]
    simpa [wideBytes] using q
theorem wide_hi (d : Value) : ∀ (cs : List Int32) (j : Nat), j < cs.length → (wideBytes cs).getD (2 * j + 1) d = .int (hi8 (cs.getD j 0))
  | [], j, h => absurd h (Nat.not_lt_zero j)
  | c :: cs, 0, _ => rfl
  | c :: cs, j + 1, h => by
    have q := wide_hi d cs j (by simpa using h)
    rw [show 2 * (j + 1) + 1 = 2 * j + 1 + 1 + 1 from by omega]
    simpa [wideBytes] using q
theorem low_at (d : Value) (cs : List Int32) (j : Nat) (h : j < cs.length) : (cs.map fun c => Value.int (lo8 c)).getD j d = .int (lo8 (cs.getD j 0)) := by
  simp [List.getD_eq_getElem?_getD, h]
/-- an array of N2 bytes vs codes the chars cs by the coder cd -/
def CodA (cs : List Int32) (cd N2 : Int32) (vs : List Value) : Prop := (cd = 0 ∧ N2 = Int32.ofNat cs.length ∧ vs = (cs.map fun c => Value.int (lo8 c)) ∧ ∀ c ∈ cs, ¬ 255 < c) ∨ (cd = 1 ∧ N2 = Int32.ofNat (2 * cs.length) ∧ vs = wideBytes cs ∧ ∃ c ∈ cs, 255 < c)
theorem CodA.cod {cs : List Int32} {cd N2 : Int32} {vs : List Value} {V : Cell} (h : CodA cs cd N2 vs) (hn : 2 * cs.length < 2 ^ 31) (hs : V.slots.size = N2.toNatClampNeg) (hv : RoadKit.Has V vs (.int 0)) : Cod cd cs.length (fun j => cs.getD j 0) V := by
  rcases h with ⟨rfl, rfl, rfl, h⟩ | ⟨rfl, rfl, rfl, c, hc, hw⟩
  · rw [n32 (by omega)] at hs
    exact Or.inl ⟨rfl, hs, fun j hj => ⟨by rw [hv j (by omega), low_at _ _ _ hj], by
      have e : cs.getD j 0 = cs[j] := by simp [List.getD_eq_getElem?_getD, hj]
      show ¬ 255 < cs.getD j 0
      rw [e]; exact h _ (List.getElem_mem _)⟩⟩
  · rw [n32 (by omega)] at hs
    obtain ⟨j, hj, rfl⟩ := List.getElem_of_mem hc
    exact Or.inr ⟨rfl, hs, fun j hj => ⟨by rw [hv _ (by omega), wide_lo _ _ _ hj], by rw [hv _ (by omega), wide_hi _ _ _ hj]⟩, j, hj, by
      have e : cs.getD j 0 = cs[j] := by simp [List.getD_eq_getElem?_getD, hj]
      show 255 < cs.getD j 0
      rw [e]; exact hw⟩
/-- an object of exactly java/lang/String, its two fields found: as the laws ask it -/
theorem strObj {Z U : State} {a0 : Array Value} {kI : Nat} (wi : (Jvm.Cond.instantiable ST kI).before a0 Z = true) (al : Z.vm.Alike U.vm) {x : Addr} {v0 c0 : Value} (E : RoadKit.Exa Z U.heap x ST) (V : RoadKit.Fld Z U.heap x ST "value" "[B" v0) (C : RoadKit.Fld Z U.heap x ST "coder" "B" c0) :
    ∃ (D : Cell) (fV fC : Field), Blank ST x D U ∧ Found ST "value" "[B" fV U ∧ Found ST "coder" "B" fC U ∧ D.slots[fV.slot]? = some v0 ∧ D.slots[fC.slot]? = some c0 ∧ RoadKit.slotOf Z ST "value" "[B" = fV.slot ∧ RoadKit.slotOf Z ST "coder" "B" = fC.slot := by
  obtain ⟨D, cfV, kV, iV, fV, hD, gV, stV, knV, obV, asV, slV⟩ := V
  obtain ⟨D', cfC, kC, iC, fC, hD', gC, stC, -, -, asC, slC⟩ := C
  cases hD.symm.trans hD'
  obtain ⟨D2, kD, e1, e2, e3, e4, e5⟩ := E
  cases hD.symm.trans e1
  obtain ⟨c2, k2, i1, i2, i3, -⟩ := Cond.instantiable_spec wi
  cases e2.symm.trans i1
  cases e3.symm.trans i2
  obtain ⟨kU, u1, u2⟩ := al.2.2 _ _ e3
  exact ⟨D, fV, fC, ⟨hD, ⟨knV, fun q hq => by rw [hq] at obV; cases obV⟩, by rw [al.findClass]; exact e2, kU, u1, by rw [u2]; exact i3, by rw [u2]; exact e5 i3⟩, ⟨SBG.found_only al ⟨cfV, kV, iV, gV⟩, stV⟩, ⟨SBG.found_only al ⟨cfC, kC, iC, gC⟩, stC⟩, slV, slC, by simp [RoadKit.slotOf, gV], by simp [RoadKit.slotOf, gC]⟩
theorem sta_is {Z U : State} (al : Z.vm.Alike U.vm) {C n d : String} {v : Value} (S : RoadKit.Sta Z U.heap C n d v) : StaticIs U C n d v := by
  obtain ⟨cfS, iS, kS, fS, st, cS, t1, t2, t3, t4, t5, t6, t7⟩ := S
  exact StaticIs.there (s := { Z with heap := U.heap }) ⟨cfS, iS, kS, fS, st, cS, t1, t2, t3, t4, t5, (fun q => by rw [q] at t6; cases t6), t7⟩ al rfl
end StrChars.Road
namespace StrChars.Road
open Jvm Sem ClassFile Op Lib Jvm.Stand Jvm.Free Jvm.Free.XT
open Jvm.Lib.Cold (StaticIs)
/-- the road's facts of a String, as the laws ask it -/
theorem txt_of {Z U : State} {a0 : Array Value} {kI : Nat} (wi : (Jvm.Cond.instantiable ST kI).before a0 Z = true) (al : Z.vm.Alike U.vm) {x t : Addr} {kb : ClassId} {cs : List Int32} {cd N2 : Int32} {vs : List Value} (E : RoadKit.Exa Z U.heap x ST) (V : RoadKit.Fld Z U.heap x ST "value" "[B" (.ref t)) (C : RoadKit.Fld Z U.heap x ST "coder" "B" (.int cd)) (K : RoadKit.Arv Z U.heap t kb .byte N2 vs (.int 0)) (hc : CodA cs cd N2 vs) (hb : ∀ c ∈ cs, ¬ c < 0 ∧ ¬ (65535 : Int32) < c) (l2 : cs.length ≤ 4000) :
    ∃ A, Txt x t A cd cs.length (fun j => cs.getD j 0) U := by
  obtain ⟨A, K1, K2, K3, K4, K5, K6⟩ := K
  have hcod := hc.cod (by omega) K3 K5
  obtain ⟨D, fV, fC, hB, F1, F2, g1, g2, -, -⟩ := strObj wi al E V C
  exact ⟨A, ⟨_, hB.2.2.1, D, hB.1, rfl, by cases q : D.vm <;> first | rfl | exact absurd q (hB.2.1.2 _)⟩, Has.of hB F1 g1, Has.of hB F2 g2, ⟨K1.1, State.isArrayOf_alike al K1.2.1, K1.2.2, by rcases hcod with ⟨-, q, -⟩ | ⟨-, q, -⟩ <;> omega⟩, hcod, fun j hj => by
    have e : cs.getD j 0 = cs[j] := by simp [List.getD_eq_getElem?_getD, hj]
    show ¬ cs.getD j 0 < 0 ∧ ¬ 65535 < cs.getD j 0
    rw [e]; exact hb _ (List.getElem_mem _)⟩
end StrChars.Road
namespace StrChars
open Jvm Sem ClassFile Op Lib Jvm.Stand Jvm.Free.XT Jvm.Free.ALB Jvm.Free.JM Jvm.Free
open Jvm.Lib.Cold (StaticIs)
namespace ChN
def yN : MethodName := ⟨"java/lang/String", "charAt", "(I)C"⟩
abbrev yB : ByteArray := jdk_42_method_56_code
theorem d0 : decode yB 0 = .ok (.aload_n 0, 1) := by decide +kernel
theorem d1 : decode yB 1 = .ok (.invokevirtual 492, 3) := by decide +kernel
theorem d4 : decode yB 4 = .ok (.ifCond (.eq) 12, 3) := by decide +kernel
theorem d7 : decode yB 7 = .ok (.aload_n 0, 1) := by decide +kernel
theorem d8 : decode yB 8 = .ok (.getfield 9, 3) := by decide +kernel
theorem d11 : decode yB 11 = .ok (.iload_n 1, 1) := by decide +kernel
theorem d12 : decode yB 12 = .ok (.invokestatic 495, 3) := by decide +kernel
theorem d15 : decode yB 15 = .ok (.ireturn, 1) := by decide +kernel
def site : List Cond := [.fieldLink "java/lang/String" 9 "java/lang/String" "value" "[B", IsL.tab, LChA.tab] ++ virtW "java/lang/String" 492 "java/lang/String" IsL.yN IsL.yN ++ staticW "java/lang/String" 495 LChA.yN
def tab : Cond := tabOf yN yB 2 (some .char) site
def P (x t : Addr) (V : Cell) (n : Nat) (f : Nat → Int32) (z : Int32) (fm : Value) (i : Nat) (args : Array Value) (s : State) : Prop := args = #[.ref x, .int (Int32.ofNat i)] ∧ Txt x t V 0 n f s ∧ i < n ∧ StaticIs s "java/lang/String" "COMPACT_STRINGS" "Z" (.int z) ∧ ¬ z = 0 ∧ StaticIs s "jdk/internal/util/Preconditions" "SIOOBE_FORMATTER" "Ljava/util/function/BiFunction;" fm ∧ fm.isRef = true
def E (f : Nat → Int32) (i : Nat) (r : Option Value) (s u : State) : Prop := XT.PureE (some (.int (f i))) r s u
/-- charAt(i) of a Latin-1 String of n chars, i < n: f i -/
theorem law (l : Launch) (x t : Addr) (V : Cell) (n : Nat) (f : Nat → Int32) (z : Int32) (fm : Value) (i : Nat) : Law l yN 2 1 3 40 yB 2 (some .char) site (P x t V n f z fm i) (E f i) [] 0 0 := by
  refine Law.of_walk (plainFor_of_name (by decide +kernel)) (by decide +kernel) (by decide +kernel) (by decide) (fun _ _ h => by rw [h.1]; rfl) (fun _ U U' hal hh h => ⟨h.1, h.2.1.mv hal hh, h.2.2.1, h.2.2.2.1.there hal hh, h.2.2.2.2.1, h.2.2.2.2.2.1.there hal hh, h.2.2.2.2.2.2⟩) (fun r U U' V V' h1 hal h2 h => XT.PureE.mv r U U' V V' h1 hal h2 h) ?_
  intro p e s m args below meth c s₁ X0 hexec hbytes hml hret hlk hnm hown hh0 W hP
  obtain ⟨rfl, hx, hi, s1, hz, s3, rf⟩ := hP
  have v31 := hx.2.2.2.1.2.2.2
  have hr := hx.2.2.2.2.2 i hi
  have hx0 := hx.mv X0.warmed.alike hh0
  have c1 : Steps p.tables e below (s₁.setTop (entryFrame m #[.ref x, .int (Int32.ofNat i)] 2)) (s₁.setTop (mkF m 1 #[.val (.ref x), .val (.int (Int32.ofNat i))] [.ref x])) := Steps.trans (entry rfl) (by
    show Steps p.tables e below (s₁.setTop (mkF m 0 #[.val (.ref x), .val (.int (Int32.ofNat i))] [])) _
    refine XS.aloadN X0.here hexec rfl (hb hbytes d0) rfl rfl ?_
    exact Steps.refl _)
  obtain ⟨v2, T2, X2, E2, g2⟩ := X0.callV hexec (IsL.law l x 0 z) hown (wks W (virtW "java/lang/String" 492 "java/lang/String" IsL.yN IsL.yN)) rfl (by decide) (wk W IsL.tab) (W := 0) (Nat.le_of_ble_eq_true rfl) (Nat.le_of_ble_eq_true rfl) (Nat.le_refl _) (Nat.le_refl _) (hx0.1.fc X0.warmed.alike) hx0.1.is (g := (mkF m 1 #[.val (.ref x), .val (.int (Int32.ofNat i))] [.ref x])) rfl (by rw [hml]; rfl) c1 (argsL := []) (rest := []) rfl rfl (by show 2 * 0 + 0 ≤ _; decide) (hb hbytes d1) (⟨rfl, hx0.2.2.1, hx.2.2.2.2.1.cd, s1.there X0.warmed.alike hh0, hz⟩)
  obtain ⟨rfl, q2⟩ := E2
  have hh2 := q2.trans hh0
  have hx2 := hx.mv X2.warmed.alike hh2
  obtain ⟨-, k1, k2⟩ | ⟨k0, -⟩ := hx.2.2.2.2.1
  · have c3 : Steps p.tables e below (s₁.setTop (entryFrame m #[.ref x, .int (Int32.ofNat i)] 2)) (T2.setTop (mkF m 8 #[.val (.ref x), .val (.int (Int32.ofNat i))] [.ref x])) := Steps.trans g2 (by
      refine XS.ifNo X2.here hexec rfl (hb hbytes d4) rfl (i0_eq_f (by decide)) ?_
      refine XS.aloadN X2.here hexec rfl (hb hbytes d7) rfl rfl ?_
      exact Steps.refl _)
    obtain ⟨T4, X4, q4, st4⟩ := X2.hget hexec hown (wk W (.fieldLink "java/lang/String" 9 "java/lang/String" "value" "[B")) hx2.2.1 (g := (mkF m 8 #[.val (.ref x), .val (.int (Int32.ofNat i))] [.ref x])) rfl (rest := []) rfl (hb hbytes d8)
    have hh4 := q4.trans hh2
    have c5 : Steps p.tables e below (s₁.setTop (entryFrame m #[.ref x, .int (Int32.ofNat i)] 2)) (T4.setTop (mkF m 12 #[.val (.ref x), .val (.int (Int32.ofNat i))] [.int (Int32.ofNat i), .ref t])) := (c3.trans (st4 _ (Steps.refl _))).trans (by
      refine XS.iloadN X4.here hexec rfl (hb hbytes d11) rfl ?_
      exact Steps.refl _)
    obtain ⟨v6, T6, X6, E6, g6⟩ := X4.callS hexec (LChA.law l t V i (lo8 (f i)) fm) hown (wks W (staticW "java/lang/String" 495 LChA.yN)) (wk W LChA.tab) (W := 0) (Nat.le_of_ble_eq_true rfl) (Nat.le_of_ble_eq_true rfl) (Nat.le_refl _) (Nat.le_refl _) (g := (mkF m 12 #[.val (.ref x), .val (.int (Int32.ofNat i))] [.int (Int32.ofNat i), .ref t])) rfl (by rw [hml]; rfl) c5 (argsL := [.ref t, .int (Int32.ofNat i)]) (rest := []) rfl rfl (by show 2 * 0 + 0 ≤ _; decide) (hb hbytes d12) (⟨rfl, hx.2.2.2.1.mv X4.warmed.alike hh4, (k2 i hi).1, s3.there X4.warmed.alike hh4, rf⟩)
    obtain ⟨rfl, q6⟩ := E6
    rw [chr8_lo8 hr.1 (k2 i hi).2] at g6
    exact ⟨T6, some (.int (f i)), _, _, _, X6, rfl, rfl, rfl, (fun h => by cases h), ⟨rfl, q6.trans hh4⟩, fun fs hl => Steps.trans g6 (X6.ireturnOut hexec hret (narrow_ch hr.1 hr.2) (Or.inr (Or.inr (Or.inr (Or.inl rfl)))) (hb hbytes d15) hl)⟩
  · exact absurd k0 (by decide)
theorem pays {l : Launch} {R : Room} {p : Program} {e : Env} {below : List Frame} {s : State} {sargs : Array Value} {len W : Nat} (x t : Addr) (V : Cell) (n : Nat) (f : Nat → Int32) (z : Int32) (fm : Value) (i : Nat) (htab : tab.before sargs s = true) (hfr : 4 ≤ R.frames) (hlo : W + 53 ≤ R.locals) :
    Back l R p e below s sargs yN len W (fun A₁ a₁ => A₁.cells + 0 ≤ R.cells ∧ A₁.slots + 0 ≤ R.slots ∧ P x t V n f z fm i a₁ A₁.U) (fun A₁ _ v₁ B₁ => E f i v₁ A₁.U B₁.U ∧ B₁.locs = A₁.locs ++ [] ∧ B₁.cells = A₁.cells + 0 ∧ B₁.slots = A₁.slots + 0) :=
  (law l x t V n f z fm i).pays htab hfr (by omega)
end ChN
end StrChars
namespace StrChars.Road
open Jvm Sem ClassFile Op Lib Jvm.Stand Jvm.Free Jvm.Free.XT
open Jvm.Lib.Cold (StaticIs)
/-- the words of String.charAt(int), the Latin-1 road alone -/
abbrev wordsChN : List Jvm.Cond := [.code ChN.yN ChN.yB 2 (some .char), .initialized ST, .fieldLink ST 9 ST "value" "[B", .fieldLink ST 38 ST "COMPACT_STRINGS" "Z", .fieldLink ST 15 ST "coder" "B", .code IsL.yN IsL.yB 1 (some .boolean), .methodLink ST 492 IsL.yN, .declares IsL.yN, .selects ST IsL.yN IsL.yN, .instanceMethod IsL.yN,
  .methodLink ST 495 LChA.yN, .static LChA.yN, .code LChA.yN LChA.yB 2 (some .char), .initialized "java/lang/StringLatin1", .methodLink "java/lang/StringLatin1" 9 JO.Str_checkIndex.yN, .static JO.Str_checkIndex.yN, .code JO.Str_checkIndex.yN JO.Str_checkIndex.yB 2 none,
  .fieldLink ST 1053 "jdk/internal/util/Preconditions" "SIOOBE_FORMATTER" "Ljava/util/function/BiFunction;", .methodLink ST 1059 JC.PreCheck.yN, .static JC.PreCheck.yN, .code JC.PreCheck.yN JC.PreCheck.yB 3 (some .int), .initialized "jdk/internal/util/Preconditions"]
theorem tabChN_of {a : Array Value} {s : State} (h : ∀ w ∈ wordsChN, w.before a s = true) : ChN.tab.before a s = true := by
  have hp : JC.PreCheck.tab.before a s = true := unparts (wk h (.code JC.PreCheck.yN JC.PreCheck.yB 3 (some .int))) (wks h (.initialized JC.PreCheck.yN.cls :: JC.PreCheck.site))
  have qk := consq hp h
  have hk : JO.Str_checkIndex.tab.before a s = true := unparts (wk qk (.code JO.Str_checkIndex.yN JO.Str_checkIndex.yB 2 none)) (wks qk (.initialized JO.Str_checkIndex.yN.cls :: JO.Str_checkIndex.site))
  have ql := consq hk h
  have hl : LChA.tab.before a s = true := unparts (wk ql (.code LChA.yN LChA.yB 2 (some .char))) (wks ql (.initialized LChA.yN.cls :: LChA.site))
  have hi : IsL.tab.before a s = true := unparts (wk h (.code IsL.yN IsL.yB 1 (some .boolean))) (wks h (.initialized IsL.yN.cls :: IsL.site))
  have q := consq hi (consq hl h)
  exact unparts (wk q (.code ChN.yN ChN.yB 2 (some .char))) (wks q (.initialized ChN.yN.cls :: ChN.site))
theorem movedChN {Z s : State} {a0 args : Array Value} (hZ : Z.Warmed39 s.vm) (hw : ∀ d ∈ wordsChN, d.before a0 Z = true) : ∀ d ∈ wordsChN, d.before args s = true := fun d hd => by
  have t : ∀ d ∈ wordsChN, (d.onTables && d.keepsFace) = true := by decide +kernel
  exact RoadKit.mv hZ (hw d hd) (t d hd)
/-- **charAt(i) OF A LATIN-1 STRING**, i < n: the char -/
theorem chN {p : Program} {l : Launch} {e : Env} {R : Room} {s : State} {args : Array Value} {below : List Frame} {len W : Nat} {Z : State} {a0 : Array Value} {h : Heap} (hZ : Z.Warmed39 s.vm) (hw : ∀ d ∈ wordsChN, d.before a0 Z = true) {kI : Nat} (wi : (Jvm.Cond.instantiable ST kI).before a0 Z = true)
    {x t : Addr} {kb : ClassId} {cs : List Int32} {N2 z : Int32} {vs : List Value} {fm : Value} {i : Nat} {j : Int32} (E : RoadKit.Exa Z h x ST) (V : RoadKit.Fld Z h x ST "value" "[B" (.ref t)) (C : RoadKit.Fld Z h x ST "coder" "B" (.int 0)) (K : RoadKit.Arv Z h t kb .byte N2 vs (.int 0)) (hc : CodA cs 0 N2 vs) (hb : ∀ c ∈ cs, ¬ c < 0 ∧ ¬ (65535 : Int32) < c)
    (S : RoadKit.Sta Z h ST "COMPACT_STRINGS" "Z" (.int z)) (hz : ¬ z = 0) (F : RoadKit.Sta Z h "jdk/internal/util/Preconditions" "SIOOBE_FORMATTER" "Ljava/util/function/BiFunction;" fm) (rf : fm.isRef = true) (l2 : cs.length ≤ 4000) (hi : i < cs.length) (hj : j = Int32.ofNat i) (hfr : 4 ≤ R.frames) (hlo : W + 53 ≤ R.locals) :
    Back l R p e below s args (⟨"java/lang/String", "charAt", "(I)C"⟩ : MethodName) len W (fun P a => a = #[.ref x, .int j] ∧ P.U.heap = h ∧ P.cells + 0 ≤ R.cells ∧ P.slots + 0 ≤ R.slots)
      (fun P _ v B => ∃ L, (v = some (.int (cs.getD i 0)) ∧ L = [] ∧ B.U.heap = h) ∧ B.locs = P.locs ++ L ∧ B.cells = P.cells + 0 ∧ B.slots = P.slots + 0) := by
  subst hj
  intro m meth c P g ig mk a X hg hsize hdg hW hn hp'
  obtain ⟨rfl, rfl, r1, r2⟩ := hp'
  have al : Z.vm.Alike P.U.vm := hZ.alike.trans X.warmed.alike
  obtain ⟨A, hx⟩ := txt_of wi al E V C K hc hb l2
  obtain ⟨v, B, X', ⟨⟨hv, hh⟩, hl, hk, hs⟩, st⟩ := ChN.pays x t A cs.length (fun j => cs.getD j 0) z fm i (tabChN_of (movedChN hZ hw)) hfr hlo m meth c P g ig mk _ X hg hsize hdg hW hn ⟨r1, r2, rfl, hx, hi, sta_is al S, hz, sta_is al F, rf⟩
  exact ⟨v, B, X', ⟨[], ⟨hv, rfl, hh⟩, hl, hk, hs⟩, st⟩
/-- what backV says of its String, as the contracts of this text ask it: cs's low bytes, coder 0 -/
theorem codOf {cs : List Int32} {n : Nat} (hn : cs.length = n) (hb : ∀ c ∈ cs, ¬ 255 < c) : CodA cs 0 (Int32.ofNat n) ((cs.map lo8).map Value.int) := Or.inl ⟨rfl, by rw [hn], by simp [List.map_map, Function.comp_def], hb⟩
end StrChars.Road
end Jvm.Pilot.@@N@@
namespace Jvm.Pilot.@@N@@
open Jvm Jvm.ClassFile Sem Op Lib Jvm.Free Jvm.Stand Jvm.LawKit Jvm.RoadKit Bundle Jvm.Pilot.@@N@@.Jvm.D
theorem own_pack {p : Program} {l : Launch} {e : Env} {R : Room} {s : State} {m : MethodId} {args : Array Value} {below : List Frame} {meth : Method} {c : Code} {T : State} {locs : List Loc} {cells slots n0 : Nat} (X : Stand p l e R s m args below meth c T locs cells slots) (N : Fr n0 locs) : ∃ L, Stand p l e R s m args below meth c T L cells slots ∧ Fr n0 L := ⟨_, X, N⟩
theorem own_c0 {P : Int32 → Prop} : ∀ x ∈ ([] : List Int32), P x := fun _ h => nomatch h
theorem own_cS {P : Int32 → Prop} {y : Int32} {L : List Int32} (q : P y) (r : ∀ x ∈ L, P x) : ∀ x ∈ y :: L, P x := fun x h => (List.mem_cons.mp h).elim (fun e => e ▸ q) (r x)
theorem own_up (cs : List Int32) (h : ∀ c ∈ cs, ¬ c < 0 ∧ ¬ (255 : Int32) < c) : ∀ c ∈ cs, ¬ c < 0 ∧ ¬ (65535 : Int32) < c := fun c hc => ⟨(h c hc).1, fun q => (h c hc).2 (by rw [Int32.lt_iff_toInt_lt] at q ⊢; have e1 : (65535 : Int32).toInt = 65535 := rfl; have e2 : (255 : Int32).toInt = 255 := rfl; omega)⟩
theorem own_m32 (x : Int32) : ∃ k : Fin 256, (x &&& 255) = Int32.ofNat k.val := by
  have h : (x &&& 255).toBitVec.toNat < 256 := by
    simp only [Int32.toBitVec_and, BitVec.toNat_and]
    exact Nat.lt_succ_of_le Nat.and_le_right
  refine ⟨⟨_, h⟩, ?_⟩
  apply Int32.toBitVec_inj.mp
  show _ = BitVec.ofNat 32 _
  rw [BitVec.ofNat_toNat]; simp
theorem own_m64 (x : Int64) : ∃ k : Fin 256, (x &&& 255).toInt32 = Int32.ofNat k.val := by
  have h : (x &&& 255).toBitVec.toNat < 256 := by
    simp only [Int64.toBitVec_and, BitVec.toNat_and]
    exact Nat.lt_succ_of_le Nat.and_le_right
  refine ⟨⟨_, h⟩, ?_⟩
  have e : (x &&& 255) = Int64.ofNat (x &&& 255).toBitVec.toNat := by
    apply Int64.toBitVec_inj.mp
    show _ = BitVec.ofNat 64 _
    rw [BitVec.ofNat_toNat]; simp
  have t : ∀ k : Fin 256, (Int64.ofNat k.val).toInt32 = Int32.ofNat k.val := by decide +kernel
  exact (congrArg Int64.toInt32 e).trans (t ⟨_, h⟩)
theorem own_eqint {args : Array Value} {s : State} {t : Term} {k : Int32} (h : (Jvm.Cond.eq t (.int k)).value args s none s [] = some true) : t.eval args s none [] s = some (.int k) := by
  simp only [Cond.value, Term.eval] at h
  cases ht : t.eval args s none [] s with
  | none => simp [ht] at h
  | some x => cases x <;> simp [ht] at h ⊢ <;> exact h
def own_Qlaw (h0 : Heap) (n0 : Nat) (v : Option Value) (h : Heap) (L : List Loc) : Prop := v = some (.int 1) ∧ Fr n0 L
theorem own_hws_words : ∀ d ∈ StrChars.Road.words, d ∈ tables_1 := by decide +kernel
theorem own_hws_wordsChN : ∀ d ∈ StrChars.Road.wordsChN, d ∈ tables_1 := by decide +kernel
def own_iteq (u w a b : Int32) : Int32 := if u = w then a else b
def own_itlt (u w a b : Int32) : Int32 := if u < w then a else b
def own_Glob (Z : State) (G1 : Int32) (G3 : Value) : Prop := (Sta Z Z.heap "java/lang/String" "COMPACT_STRINGS" "Z" (.int G1)) ∧ (¬ (G1 = (0 : Int32))) ∧ (Sta Z Z.heap "jdk/internal/util/Preconditions" "SIOOBE_FORMATTER" "Ljava/util/function/BiFunction;" G3) ∧ (G3.isRef = true)
def own_a3 (p : Int32) : Int32 := (p &&& (3 : Int32))
def own_t0 (q : Int64) : Int32 := (nar .char (((q &&& (255 : Int64)).toInt32).toUInt32.toUInt16.toUInt32.toInt32))
def own_t1 (q : Int64) (p : Int32) : Int32 := (nar .char (((((q.toUInt64 >>> (p &&& 0x3f).toInt64.toUInt64).toInt64) &&& (255 : Int64)).toInt32).toUInt32.toUInt16.toUInt32.toInt32))
def own_bs (p : Int32) : Int32 := (p &&& (2147483647 : Int32))
def own_bs3 (p : Int32) : Int32 := ((own_bs p) - (3 : Int32))
def own_bl (p : Int32) : Int32 := (((p.toUInt32 >>> ((2 : Int32) &&& 31).toUInt32).toInt32) &&& (3 : Int32))
theorem own_rng_t0 (q : Int64) : ¬ own_t0 q < 0 ∧ ¬ (255 : Int32) < own_t0 q := by
  have t : ∀ k : Fin 256, ¬ nar .char ((Int32.ofNat k.val).toUInt32.toUInt16.toUInt32.toInt32) < 0 ∧ ¬ (255 : Int32) < nar .char ((Int32.ofNat k.val).toUInt32.toUInt16.toUInt32.toInt32) := by decide +kernel
  unfold own_t0
  obtain ⟨k, hk⟩ := own_m64 q
  rw [hk]; exact t k
theorem own_rng_t1 (q : Int64) (p : Int32) : ¬ own_t1 q p < 0 ∧ ¬ (255 : Int32) < own_t1 q p := by
  have t : ∀ k : Fin 256, ¬ nar .char ((Int32.ofNat k.val).toUInt32.toUInt16.toUInt32.toInt32) < 0 ∧ ¬ (255 : Int32) < nar .char ((Int32.ofNat k.val).toUInt32.toUInt16.toUInt32.toInt32) := by decide +kernel
  unfold own_t1
  obtain ⟨k, hk⟩ := own_m64 ((q.toUInt64 >>> (p &&& 0x3f).toInt64.toUInt64).toInt64)
  rw [hk]; exact t k
theorem own_add0 (x : Int32) : x + (0 : Int32) = x := Int32.add_zero x
theorem own_4c (x : Int32) : (x &&& 3) = 0 ∨ (x &&& 3) = 1 ∨ (x &&& 3) = 2 ∨ (x &&& 3) = 3 := by
  have h := c_mask x 3 2 (by decide) (by decide)
  have q : (x &&& 3).toInt = 0 ∨ (x &&& 3).toInt = 1 ∨ (x &&& 3).toInt = 2 ∨ (x &&& 3).toInt = 3 := by rw [h]; simp only [show ((2 ^ 2 : Nat) : Int) = 4 from rfl]; omega
  rcases q with q | q | q | q
  · exact Or.inl (Int32.toInt_inj.mp q)
  · exact Or.inr (Or.inl (Int32.toInt_inj.mp q))
  · exact Or.inr (Or.inr (Or.inl (Int32.toInt_inj.mp q)))
  · exact Or.inr (Or.inr (Or.inr (Int32.toInt_inj.mp q)))
theorem own_a3c (p : Int32) : own_a3 p = 0 ∨ own_a3 p = 1 ∨ own_a3 p = 2 ∨ own_a3 p = 3 := own_4c p
theorem own_blc (p : Int32) : own_bl p = 0 ∨ own_bl p = 1 ∨ own_bl p = 2 ∨ own_bl p = 3 := own_4c _
theorem own_a3n (p : Int32) : ¬ (own_a3 p < (0 : Int32)) := by rcases own_a3c p with h | h | h | h <;> rw [h] <;> decide
theorem own_bsr (p : Int32) : 0 ≤ (own_bs p).toInt ∧ (own_bs p).toInt < 2147483648 := ⟨(c_and p 2147483647 (by decide)).1, (rng32 _).2⟩
theorem own_bsn (p : Int32) : ¬ (own_bs p < (0 : Int32)) := by rw [Int32.lt_iff_toInt_lt]; have := (own_bsr p).1; have e : (0 : Int32).toInt = 0 := rfl; omega
theorem own_bs3r (p : Int32) (h : (2147483644 : Int32) < own_bs p) : 0 ≤ (own_bs3 p).toInt ∧ (own_bs3 p).toInt ≤ 2147483644 := by
  rw [Int32.lt_iff_toInt_lt] at h
  have e : (2147483644 : Int32).toInt = 2147483644 := rfl
  have e3 : (3 : Int32).toInt = 3 := rfl
  have r := own_bsr p; have c := c_isub (own_bs p) 3; have b := rng32 (own_bs p - 3)
  unfold own_bs3; omega
theorem own_bs3n (p : Int32) (h : (2147483644 : Int32) < own_bs p) : ¬ (own_bs3 p < (0 : Int32)) := by rw [Int32.lt_iff_toInt_lt]; have := (own_bs3r p h).1; have e : (0 : Int32).toInt = 0 := rfl; omega
theorem own_plus (x b : Int32) (h0 : 0 ≤ x.toInt) (h1 : x.toInt ≤ 2147483644) (hb : b = 0 ∨ b = 1 ∨ b = 2 ∨ b = 3) : ¬ (x + b < x) ∧ (¬ (b = 0) → ¬ (x = x + b)) := by
  have c := c_iadd x b; have r := rng32 (x + b)
  have hb' : 0 ≤ b.toInt ∧ b.toInt ≤ 3 := by rcases hb with h | h | h | h <;> rw [h] <;> decide
  refine ⟨fun q => ?_, fun hz q => hz ?_⟩
  · rw [Int32.lt_iff_toInt_lt] at q; omega
  · have q' := congrArg Int32.toInt q
    exact Int32.toInt_inj.mp (show b.toInt = 0 by omega)
theorem own_pl1 (p d : Int32) (h : ¬ ((2147483644 : Int32) < own_bs d)) : ¬ (own_bs d + own_bl p < own_bs d) ∧ (¬ (own_bl p = 0) → ¬ (own_bs d = own_bs d + own_bl p)) := by
  rw [Int32.lt_iff_toInt_lt] at h
  have e : (2147483644 : Int32).toInt = 2147483644 := rfl
  exact own_plus _ _ (own_bsr d).1 (by omega) (own_blc p)
theorem own_pl2 (p d : Int32) (h : (2147483644 : Int32) < own_bs d) : ¬ (own_bs3 d + own_bl p < own_bs3 d) ∧ (¬ (own_bl p = 0) → ¬ (own_bs3 d = own_bs3 d + own_bl p)) := own_plus _ _ (own_bs3r d h).1 (own_bs3r d h).2 (own_blc p)
theorem own_e0 (p : Int32) (h : ¬ (own_a3 p = 0)) : ((0 : Int32) < (0 : Int32) + own_a3 p) ∧ ¬ ((0 : Int32) + own_a3 p < (0 : Int32)) ∧ ¬ ((0 : Int32) = (0 : Int32) + own_a3 p) := by
  rcases own_a3c p with e | e | e | e
  · exact absurd e h
  all_goals (rw [e]; decide)
theorem own_e1 (p : Int32) (h : ¬ (own_a3 p = 0)) : ((1 : Int32) < (1 : Int32) + own_a3 p) ∧ ¬ ((1 : Int32) + own_a3 p < (1 : Int32)) ∧ ¬ ((1 : Int32) = (1 : Int32) + own_a3 p) := by
  rcases own_a3c p with e | e | e | e
  · exact absurd e h
  all_goals (rw [e]; decide)
theorem own_e2 (p : Int32) (h : ¬ (own_a3 p = 0)) : ((2 : Int32) < (2 : Int32) + own_a3 p) ∧ ¬ ((2 : Int32) + own_a3 p < (2 : Int32)) ∧ ¬ ((2 : Int32) = (2 : Int32) + own_a3 p) := by
  rcases own_a3c p with e | e | e | e
  · exact absurd e h
  all_goals (rw [e]; decide)
theorem own_e3 (p : Int32) (h : ¬ (own_a3 p = 0)) : ((3 : Int32) < (3 : Int32) + own_a3 p) ∧ ¬ ((3 : Int32) + own_a3 p < (3 : Int32)) ∧ ¬ ((3 : Int32) = (3 : Int32) + own_a3 p) := by
  rcases own_a3c p with e | e | e | e
  · exact absurd e h
  all_goals (rw [e]; decide)
theorem own_d_method_2_0 : decode method_2_code 0 = .ok (.bipush 8, 2) := by decide +kernel
theorem own_d_method_2_2 : decode method_2_code 2 = .ok (.newarray .char, 2) := by decide +kernel
theorem own_d_method_2_4 : decode method_2_code 4 = .ok (.astore_n 2, 1) := by decide +kernel
theorem own_d_method_2_5 : decode method_2_code 5 = .ok (.aload_n 2, 1) := by decide +kernel
theorem own_d_method_2_6 : decode method_2_code 6 = .ok (.iconst 0, 1) := by decide +kernel
theorem own_d_method_2_7 : decode method_2_code 7 = .ok (.lload_n 0, 1) := by decide +kernel
theorem own_d_method_2_8 : decode method_2_code 8 = .ok (.ldc2_w 7, 3) := by decide +kernel
theorem own_d_method_2_11 : decode method_2_code 11 = .ok (.land, 1) := by decide +kernel
theorem own_d_method_2_12 : decode method_2_code 12 = .ok (.l2i, 1) := by decide +kernel
theorem own_d_method_2_13 : decode method_2_code 13 = .ok (.i2c, 1) := by decide +kernel
theorem own_d_method_2_14 : decode method_2_code 14 = .ok (.castore, 1) := by decide +kernel
theorem own_d_method_2_15 : decode method_2_code 15 = .ok (.aload_n 2, 1) := by decide +kernel
theorem own_d_method_2_16 : decode method_2_code 16 = .ok (.iconst 1, 1) := by decide +kernel
theorem own_d_method_2_17 : decode method_2_code 17 = .ok (.lload_n 0, 1) := by decide +kernel
theorem own_d_method_2_18 : decode method_2_code 18 = .ok (.bipush 8, 2) := by decide +kernel
theorem own_d_method_2_20 : decode method_2_code 20 = .ok (.lushr, 1) := by decide +kernel
theorem own_d_method_2_21 : decode method_2_code 21 = .ok (.ldc2_w 7, 3) := by decide +kernel
theorem own_d_method_2_24 : decode method_2_code 24 = .ok (.land, 1) := by decide +kernel
theorem own_d_method_2_25 : decode method_2_code 25 = .ok (.l2i, 1) := by decide +kernel
theorem own_d_method_2_26 : decode method_2_code 26 = .ok (.i2c, 1) := by decide +kernel
theorem own_d_method_2_27 : decode method_2_code 27 = .ok (.castore, 1) := by decide +kernel
theorem own_d_method_2_28 : decode method_2_code 28 = .ok (.aload_n 2, 1) := by decide +kernel
theorem own_d_method_2_29 : decode method_2_code 29 = .ok (.iconst 2, 1) := by decide +kernel
theorem own_d_method_2_30 : decode method_2_code 30 = .ok (.lload_n 0, 1) := by decide +kernel
theorem own_d_method_2_31 : decode method_2_code 31 = .ok (.bipush 16, 2) := by decide +kernel
theorem own_d_method_2_33 : decode method_2_code 33 = .ok (.lushr, 1) := by decide +kernel
theorem own_d_method_2_34 : decode method_2_code 34 = .ok (.ldc2_w 7, 3) := by decide +kernel
theorem own_d_method_2_37 : decode method_2_code 37 = .ok (.land, 1) := by decide +kernel
theorem own_d_method_2_38 : decode method_2_code 38 = .ok (.l2i, 1) := by decide +kernel
theorem own_d_method_2_39 : decode method_2_code 39 = .ok (.i2c, 1) := by decide +kernel
theorem own_d_method_2_40 : decode method_2_code 40 = .ok (.castore, 1) := by decide +kernel
theorem own_d_method_2_41 : decode method_2_code 41 = .ok (.aload_n 2, 1) := by decide +kernel
theorem own_d_method_2_42 : decode method_2_code 42 = .ok (.iconst 3, 1) := by decide +kernel
theorem own_d_method_2_43 : decode method_2_code 43 = .ok (.lload_n 0, 1) := by decide +kernel
theorem own_d_method_2_44 : decode method_2_code 44 = .ok (.bipush 24, 2) := by decide +kernel
theorem own_d_method_2_46 : decode method_2_code 46 = .ok (.lushr, 1) := by decide +kernel
theorem own_d_method_2_47 : decode method_2_code 47 = .ok (.ldc2_w 7, 3) := by decide +kernel
theorem own_d_method_2_50 : decode method_2_code 50 = .ok (.land, 1) := by decide +kernel
theorem own_d_method_2_51 : decode method_2_code 51 = .ok (.l2i, 1) := by decide +kernel
theorem own_d_method_2_52 : decode method_2_code 52 = .ok (.i2c, 1) := by decide +kernel
theorem own_d_method_2_53 : decode method_2_code 53 = .ok (.castore, 1) := by decide +kernel
theorem own_d_method_2_54 : decode method_2_code 54 = .ok (.aload_n 2, 1) := by decide +kernel
theorem own_d_method_2_55 : decode method_2_code 55 = .ok (.iconst 4, 1) := by decide +kernel
theorem own_d_method_2_56 : decode method_2_code 56 = .ok (.lload_n 0, 1) := by decide +kernel
theorem own_d_method_2_57 : decode method_2_code 57 = .ok (.bipush 32, 2) := by decide +kernel
theorem own_d_method_2_59 : decode method_2_code 59 = .ok (.lushr, 1) := by decide +kernel
theorem own_d_method_2_60 : decode method_2_code 60 = .ok (.ldc2_w 7, 3) := by decide +kernel
theorem own_d_method_2_63 : decode method_2_code 63 = .ok (.land, 1) := by decide +kernel
theorem own_d_method_2_64 : decode method_2_code 64 = .ok (.l2i, 1) := by decide +kernel
theorem own_d_method_2_65 : decode method_2_code 65 = .ok (.i2c, 1) := by decide +kernel
theorem own_d_method_2_66 : decode method_2_code 66 = .ok (.castore, 1) := by decide +kernel
theorem own_d_method_2_67 : decode method_2_code 67 = .ok (.aload_n 2, 1) := by decide +kernel
theorem own_d_method_2_68 : decode method_2_code 68 = .ok (.iconst 5, 1) := by decide +kernel
theorem own_d_method_2_69 : decode method_2_code 69 = .ok (.lload_n 0, 1) := by decide +kernel
theorem own_d_method_2_70 : decode method_2_code 70 = .ok (.bipush 40, 2) := by decide +kernel
theorem own_d_method_2_72 : decode method_2_code 72 = .ok (.lushr, 1) := by decide +kernel
theorem own_d_method_2_73 : decode method_2_code 73 = .ok (.ldc2_w 7, 3) := by decide +kernel
theorem own_d_method_2_76 : decode method_2_code 76 = .ok (.land, 1) := by decide +kernel
theorem own_d_method_2_77 : decode method_2_code 77 = .ok (.l2i, 1) := by decide +kernel
theorem own_d_method_2_78 : decode method_2_code 78 = .ok (.i2c, 1) := by decide +kernel
theorem own_d_method_2_79 : decode method_2_code 79 = .ok (.castore, 1) := by decide +kernel
theorem own_d_method_2_80 : decode method_2_code 80 = .ok (.aload_n 2, 1) := by decide +kernel
theorem own_d_method_2_81 : decode method_2_code 81 = .ok (.bipush 6, 2) := by decide +kernel
theorem own_d_method_2_83 : decode method_2_code 83 = .ok (.lload_n 0, 1) := by decide +kernel
theorem own_d_method_2_84 : decode method_2_code 84 = .ok (.bipush 48, 2) := by decide +kernel
theorem own_d_method_2_86 : decode method_2_code 86 = .ok (.lushr, 1) := by decide +kernel
theorem own_d_method_2_87 : decode method_2_code 87 = .ok (.ldc2_w 7, 3) := by decide +kernel
theorem own_d_method_2_90 : decode method_2_code 90 = .ok (.land, 1) := by decide +kernel
theorem own_d_method_2_91 : decode method_2_code 91 = .ok (.l2i, 1) := by decide +kernel
theorem own_d_method_2_92 : decode method_2_code 92 = .ok (.i2c, 1) := by decide +kernel
theorem own_d_method_2_93 : decode method_2_code 93 = .ok (.castore, 1) := by decide +kernel
theorem own_d_method_2_94 : decode method_2_code 94 = .ok (.aload_n 2, 1) := by decide +kernel
theorem own_d_method_2_95 : decode method_2_code 95 = .ok (.bipush 7, 2) := by decide +kernel
theorem own_d_method_2_97 : decode method_2_code 97 = .ok (.lload_n 0, 1) := by decide +kernel
theorem own_d_method_2_98 : decode method_2_code 98 = .ok (.bipush 56, 2) := by decide +kernel
theorem own_d_method_2_100 : decode method_2_code 100 = .ok (.lushr, 1) := by decide +kernel
theorem own_d_method_2_101 : decode method_2_code 101 = .ok (.ldc2_w 7, 3) := by decide +kernel
theorem own_d_method_2_104 : decode method_2_code 104 = .ok (.land, 1) := by decide +kernel
theorem own_d_method_2_105 : decode method_2_code 105 = .ok (.l2i, 1) := by decide +kernel
theorem own_d_method_2_106 : decode method_2_code 106 = .ok (.i2c, 1) := by decide +kernel
theorem own_d_method_2_107 : decode method_2_code 107 = .ok (.castore, 1) := by decide +kernel
theorem own_d_method_2_108 : decode method_2_code 108 = .ok (.new 9, 3) := by decide +kernel
theorem own_d_method_2_111 : decode method_2_code 111 = .ok (.dup, 1) := by decide +kernel
theorem own_d_method_2_112 : decode method_2_code 112 = .ok (.aload_n 2, 1) := by decide +kernel
theorem own_d_method_2_113 : decode method_2_code 113 = .ok (.invokespecial 11, 3) := by decide +kernel
theorem own_pd0 : parseMethodDescriptor "([C)V" = some ⟨[(.array .char)], none⟩ := by decide +kernel
theorem own_d_method_2_116 : decode method_2_code 116 = .ok (.areturn, 1) := by decide +kernel
theorem own_pn1 : plainName "com/example/incorpus/incorpus/SpanIsEmptyPinLaw" = true := by first | (simp [plainName, overriddenIn]; done) | decide +kernel
def own_Qrm_text (Z : State) (G1 : Int32) (G3 : Value) (q1 : Int64) (h0 : Heap) (n0 : Nat) (v : Option Value) (h : Heap) (L : List Loc) : Prop := ∃ (b37 : Addr), ∃ (t55 : Addr), ∃ (kb55 : ClassId), (v = some (.ref b37)) ∧ (Fr n0 L) ∧ (Keep h0 h []) ∧ (h0.size ≤ b37) ∧ (Exa Z h b37 "java/lang/String") ∧ (Fld Z h b37 "java/lang/String" "value" "[B" (.ref t55)) ∧ (Fld Z h b37 "java/lang/String" "coder" "B" (.int (0 : Int32))) ∧ (h0.size ≤ t55) ∧ (Arv Z h t55 kb55 .byte (8 : Int32) ((([(own_t0 q1), (own_t1 q1 (8 : Int32)), (own_t1 q1 (16 : Int32)), (own_t1 q1 (24 : Int32)), (own_t1 q1 (32 : Int32)), (own_t1 q1 (40 : Int32)), (own_t1 q1 (48 : Int32)), (own_t1 q1 (56 : Int32))] : List Int32).map (fun c => c.toInt8.toInt32)).map Value.int) (.int (0 : Int32))) ∧ (∀ c ∈ ([(own_t0 q1), (own_t1 q1 (8 : Int32)), (own_t1 q1 (16 : Int32)), (own_t1 q1 (24 : Int32)), (own_t1 q1 (32 : Int32)), (own_t1 q1 (40 : Int32)), (own_t1 q1 (48 : Int32)), (own_t1 q1 (56 : Int32))] : List Int32), ¬ c < 0 ∧ ¬ (255 : Int32) < c)
theorem own_efrm_text (m : MethodId) (q1 : Int64) : entryFrame m #[(.long q1)] 3 = mkF m 0 #[.val (.long q1), .second, .unset] [] := by first | (simp [entryFrame, mkF, argsToLocals, Value.category]; done) | rfl
set_option maxRecDepth 65536 in
set_option maxHeartbeats 40000000 in
theorem own_rm_text (l : Launch) (Z : State) (a0 : Array Value) (hw : ∀ d ∈ tables_1, d.before a0 Z = true) (ws : List Jvm.Cond) (G1 : Int32) (G3 : Value) (gl : own_Glob Z G1 G3) (q1 : Int64) (h0 : Heap) (n0 : Nat) (Z0 : n0 ≤ h0.size) (X00 : Old Z n0 h0) :
    MetFree l (⟨"com/example/incorpus/incorpus/SpanIsEmptyPinLaw", "text", "(J)Ljava/lang/String;"⟩ : MethodName) (head1 (Jvm.Cond.code (⟨"com/example/incorpus/incorpus/SpanIsEmptyPinLaw", "text", "(J)Ljava/lang/String;"⟩ : MethodName) method_2_code 3 (some (.object "java/lang/String")) :: ws) ({ frames := 4, cells := 3, slots := 20, locals := 66 } : Room)) (fun a U => a = #[(.long q1)] ∧ Z.Warmed39 U.vm ∧ U.heap = h0) (fun _ _ _ _ _ => True) (fun _ U o U' => ∃ v L, o = .returned v ∧ own_Qrm_text Z G1 G3 q1 h0 n0 v U'.heap L ∧ FrameEnd U o U' L ({ frames := 4, cells := 3, slots := 20, locals := 66 } : Room).cells ({ frames := 4, cells := 3, slots := 20, locals := 66 } : Room).slots) := by
  refine MetFree.of_bodySF (plainFor_of_name own_pn1) hisR ?_
  intro p e s m args below meth c s₁ Bd hml0 hP hK
  obtain ⟨rfl, hZ, hh⟩ := hP
  obtain ⟨O_CS, P_CS, O_SI, P_SI⟩ := id gl
  have hx := Bd.exec
  have hby := Bd.bytes
  have hml : c.maxLocals = 3 := hml0
  have hown : s.vm.findClass "com/example/incorpus/incorpus/SpanIsEmptyPinLaw" = some m.cls := findClass_of_methodNamed Bd.named
  have hnm := (name_of_methodNamed Bd.named Bd.method).1
  have X0 : Stand p l e ({ frames := 4, cells := 3, slots := 20, locals := 66 } : Room) s m #[(.long q1)] below meth c s₁ [] 0 0 := Stand.of_body Bd
  have e0 : s₁.heap = h0 := by rw [← hh, Bd.state]; rfl
  have N0 := Fr.nil n0
  have pre0 : ∀ t, Steps p.tables e below (s₁.setTop (mkF m 0 #[.val (.long q1), .second, .unset] [])) t → Steps p.tables e below (s₁.setTop (entryFrame m #[(.long q1)] 3)) t := fun t k => castTop (own_efrm_text m q1) k
  obtain ⟨T1, h1, k1, X1, e1, E1, A1, st1⟩ := newP X0 hx hZ (hw _ (List.mem_of_getElem? (i := 4) rfl)) e0 (g := (mkF m 2 #[.val (.long q1), .second, .unset] [(.int (8 : Int32))])) rfl (hb hby own_d_method_2_2) rfl (by decide) (cap := 8) (by decide) (by decide) (by decide) (by decide)
  obtain ⟨b1, g1⟩ : ∃ z, z = h0.size := ⟨_, rfl⟩
  rw [← g1] at A1 st1
  have Kp2 : Keep h0 h1 [] := (Keep.refl h0 []).ext E1
  have Vh3 : Arv Z h1 b1 k1 .char (8 : Int32) [(.int (0 : Int32)), (.int (0 : Int32)), (.int (0 : Int32)), (.int (0 : Int32)), (.int (0 : Int32)), (.int (0 : Int32)), (.int (0 : Int32)), (.int (0 : Int32))] (.int (0 : Int32)) := (Arv.new A1 (by decide)).pad (pad_rep [] (.int (0 : Int32)) 8)
  obtain ⟨cl4, Ar4, qc4, Sz4, Ng4, Hs4, Gs4⟩ := id Vh3
  have hin4 : ¬ ((0 : Int32) < 0 ∨ cl4.slots.size ≤ ((0 : Int32)).toNatClampNeg) := inb_of Sz4 ⟨(by decide), (by decide)⟩
  obtain ⟨T5, h5, X5, e5, W5, st5⟩ := stC X1 hx hZ e1 Ar4 (j := (0 : Int32)) hin4 (g := (mkF m 14 #[.val (.long q1), .second, .val (.ref b1)] [(.int (((q1 &&& (255 : Int64)).toInt32).toUInt32.toUInt16.toUInt32.toInt32)), (.int (0 : Int32)), (.ref b1)])) rfl rfl (hb hby own_d_method_2_14)
  have Kp6 : Keep h0 h5 [] := Kp2.wr W5 (Or.inr (Nat.le_trans (Keep.refl h0 []).1 (Nat.le_of_eq g1.symm)))
  have gh7 : n0 ≤ b1 := Nat.le_trans Z0 (Nat.le_of_eq g1.symm)
  obtain ⟨Lp5, X5, N5⟩ := own_pack X5 (Fr.snoc X5 N0 gh7)
  have Vh8 : Arv Z h5 b1 k1 .char (8 : Int32) [(.int (own_t0 q1)), (.int (0 : Int32)), (.int (0 : Int32)), (.int (0 : Int32)), (.int (0 : Int32)), (.int (0 : Int32)), (.int (0 : Int32)), (.int (0 : Int32))] (.int (0 : Int32)) := (Arv.set Ar4 qc4 Sz4 Ng4 Hs4 Gs4 (fits_nar_char _) W5 0 rfl (Nat.le_of_ble_eq_true rfl))
  obtain ⟨cl9, Ar9, qc9, Sz9, Ng9, Hs9, Gs9⟩ := id Vh8
  have hin9 : ¬ ((1 : Int32) < 0 ∨ cl9.slots.size ≤ ((1 : Int32)).toNatClampNeg) := inb_of Sz9 ⟨(by decide), (by decide)⟩
  obtain ⟨T10, h10, X10, e10, W10, st10⟩ := stC X5 hx hZ e5 Ar9 (j := (1 : Int32)) hin9 (g := (mkF m 27 #[.val (.long q1), .second, .val (.ref b1)] [(.int (((((q1.toUInt64 >>> ((8 : Int32) &&& 0x3f).toInt64.toUInt64).toInt64) &&& (255 : Int64)).toInt32).toUInt32.toUInt16.toUInt32.toInt32)), (.int (1 : Int32)), (.ref b1)])) rfl rfl (hb hby own_d_method_2_27)
  have Kp11 : Keep h0 h10 [] := Kp6.wr W10 (Or.inr (Nat.le_trans (Keep.refl h0 []).1 (Nat.le_of_eq g1.symm)))
  obtain ⟨Lp10, X10, N10⟩ := own_pack X10 (Fr.snoc X10 N5 gh7)
  have Vh12 : Arv Z h10 b1 k1 .char (8 : Int32) [(.int (own_t0 q1)), (.int (own_t1 q1 (8 : Int32))), (.int (0 : Int32)), (.int (0 : Int32)), (.int (0 : Int32)), (.int (0 : Int32)), (.int (0 : Int32)), (.int (0 : Int32))] (.int (0 : Int32)) := (Arv.set Ar9 qc9 Sz9 Ng9 Hs9 Gs9 (fits_nar_char _) W10 1 rfl (Nat.le_of_ble_eq_true rfl))
  obtain ⟨cl13, Ar13, qc13, Sz13, Ng13, Hs13, Gs13⟩ := id Vh12
  have hin13 : ¬ ((2 : Int32) < 0 ∨ cl13.slots.size ≤ ((2 : Int32)).toNatClampNeg) := inb_of Sz13 ⟨(by decide), (by decide)⟩
  obtain ⟨T14, h14, X14, e14, W14, st14⟩ := stC X10 hx hZ e10 Ar13 (j := (2 : Int32)) hin13 (g := (mkF m 40 #[.val (.long q1), .second, .val (.ref b1)] [(.int (((((q1.toUInt64 >>> ((16 : Int32) &&& 0x3f).toInt64.toUInt64).toInt64) &&& (255 : Int64)).toInt32).toUInt32.toUInt16.toUInt32.toInt32)), (.int (2 : Int32)), (.ref b1)])) rfl rfl (hb hby own_d_method_2_40)
  have Kp15 : Keep h0 h14 [] := Kp11.wr W14 (Or.inr (Nat.le_trans (Keep.refl h0 []).1 (Nat.le_of_eq g1.symm)))
  obtain ⟨Lp14, X14, N14⟩ := own_pack X14 (Fr.snoc X14 N10 gh7)
  have Vh16 : Arv Z h14 b1 k1 .char (8 : Int32) [(.int (own_t0 q1)), (.int (own_t1 q1 (8 : Int32))), (.int (own_t1 q1 (16 : Int32))), (.int (0 : Int32)), (.int (0 : Int32)), (.int (0 : Int32)), (.int (0 : Int32)), (.int (0 : Int32))] (.int (0 : Int32)) := (Arv.set Ar13 qc13 Sz13 Ng13 Hs13 Gs13 (fits_nar_char _) W14 2 rfl (Nat.le_of_ble_eq_true rfl))
  obtain ⟨cl17, Ar17, qc17, Sz17, Ng17, Hs17, Gs17⟩ := id Vh16
  have hin17 : ¬ ((3 : Int32) < 0 ∨ cl17.slots.size ≤ ((3 : Int32)).toNatClampNeg) := inb_of Sz17 ⟨(by decide), (by decide)⟩
  obtain ⟨T18, h18, X18, e18, W18, st18⟩ := stC X14 hx hZ e14 Ar17 (j := (3 : Int32)) hin17 (g := (mkF m 53 #[.val (.long q1), .second, .val (.ref b1)] [(.int (((((q1.toUInt64 >>> ((24 : Int32) &&& 0x3f).toInt64.toUInt64).toInt64) &&& (255 : Int64)).toInt32).toUInt32.toUInt16.toUInt32.toInt32)), (.int (3 : Int32)), (.ref b1)])) rfl rfl (hb hby own_d_method_2_53)
  have Kp19 : Keep h0 h18 [] := Kp15.wr W18 (Or.inr (Nat.le_trans (Keep.refl h0 []).1 (Nat.le_of_eq g1.symm)))
  obtain ⟨Lp18, X18, N18⟩ := own_pack X18 (Fr.snoc X18 N14 gh7)
  have Vh20 : Arv Z h18 b1 k1 .char (8 : Int32) [(.int (own_t0 q1)), (.int (own_t1 q1 (8 : Int32))), (.int (own_t1 q1 (16 : Int32))), (.int (own_t1 q1 (24 : Int32))), (.int (0 : Int32)), (.int (0 : Int32)), (.int (0 : Int32)), (.int (0 : Int32))] (.int (0 : Int32)) := (Arv.set Ar17 qc17 Sz17 Ng17 Hs17 Gs17 (fits_nar_char _) W18 3 rfl (Nat.le_of_ble_eq_true rfl))
  obtain ⟨cl21, Ar21, qc21, Sz21, Ng21, Hs21, Gs21⟩ := id Vh20
  have hin21 : ¬ ((4 : Int32) < 0 ∨ cl21.slots.size ≤ ((4 : Int32)).toNatClampNeg) := inb_of Sz21 ⟨(by decide), (by decide)⟩
  obtain ⟨T22, h22, X22, e22, W22, st22⟩ := stC X18 hx hZ e18 Ar21 (j := (4 : Int32)) hin21 (g := (mkF m 66 #[.val (.long q1), .second, .val (.ref b1)] [(.int (((((q1.toUInt64 >>> ((32 : Int32) &&& 0x3f).toInt64.toUInt64).toInt64) &&& (255 : Int64)).toInt32).toUInt32.toUInt16.toUInt32.toInt32)), (.int (4 : Int32)), (.ref b1)])) rfl rfl (hb hby own_d_method_2_66)
  have Kp23 : Keep h0 h22 [] := Kp19.wr W22 (Or.inr (Nat.le_trans (Keep.refl h0 []).1 (Nat.le_of_eq g1.symm)))
  obtain ⟨Lp22, X22, N22⟩ := own_pack X22 (Fr.snoc X22 N18 gh7)
  have Vh24 : Arv Z h22 b1 k1 .char (8 : Int32) [(.int (own_t0 q1)), (.int (own_t1 q1 (8 : Int32))), (.int (own_t1 q1 (16 : Int32))), (.int (own_t1 q1 (24 : Int32))), (.int (own_t1 q1 (32 : Int32))), (.int (0 : Int32)), (.int (0 : Int32)), (.int (0 : Int32))] (.int (0 : Int32)) := (Arv.set Ar21 qc21 Sz21 Ng21 Hs21 Gs21 (fits_nar_char _) W22 4 rfl (Nat.le_of_ble_eq_true rfl))
  obtain ⟨cl25, Ar25, qc25, Sz25, Ng25, Hs25, Gs25⟩ := id Vh24
  have hin25 : ¬ ((5 : Int32) < 0 ∨ cl25.slots.size ≤ ((5 : Int32)).toNatClampNeg) := inb_of Sz25 ⟨(by decide), (by decide)⟩
  obtain ⟨T26, h26, X26, e26, W26, st26⟩ := stC X22 hx hZ e22 Ar25 (j := (5 : Int32)) hin25 (g := (mkF m 79 #[.val (.long q1), .second, .val (.ref b1)] [(.int (((((q1.toUInt64 >>> ((40 : Int32) &&& 0x3f).toInt64.toUInt64).toInt64) &&& (255 : Int64)).toInt32).toUInt32.toUInt16.toUInt32.toInt32)), (.int (5 : Int32)), (.ref b1)])) rfl rfl (hb hby own_d_method_2_79)
  have Kp27 : Keep h0 h26 [] := Kp23.wr W26 (Or.inr (Nat.le_trans (Keep.refl h0 []).1 (Nat.le_of_eq g1.symm)))
  obtain ⟨Lp26, X26, N26⟩ := own_pack X26 (Fr.snoc X26 N22 gh7)
  have Vh28 : Arv Z h26 b1 k1 .char (8 : Int32) [(.int (own_t0 q1)), (.int (own_t1 q1 (8 : Int32))), (.int (own_t1 q1 (16 : Int32))), (.int (own_t1 q1 (24 : Int32))), (.int (own_t1 q1 (32 : Int32))), (.int (own_t1 q1 (40 : Int32))), (.int (0 : Int32)), (.int (0 : Int32))] (.int (0 : Int32)) := (Arv.set Ar25 qc25 Sz25 Ng25 Hs25 Gs25 (fits_nar_char _) W26 5 rfl (Nat.le_of_ble_eq_true rfl))
  obtain ⟨cl29, Ar29, qc29, Sz29, Ng29, Hs29, Gs29⟩ := id Vh28
  have hin29 : ¬ ((6 : Int32) < 0 ∨ cl29.slots.size ≤ ((6 : Int32)).toNatClampNeg) := inb_of Sz29 ⟨(by decide), (by decide)⟩
  obtain ⟨T30, h30, X30, e30, W30, st30⟩ := stC X26 hx hZ e26 Ar29 (j := (6 : Int32)) hin29 (g := (mkF m 93 #[.val (.long q1), .second, .val (.ref b1)] [(.int (((((q1.toUInt64 >>> ((48 : Int32) &&& 0x3f).toInt64.toUInt64).toInt64) &&& (255 : Int64)).toInt32).toUInt32.toUInt16.toUInt32.toInt32)), (.int (6 : Int32)), (.ref b1)])) rfl rfl (hb hby own_d_method_2_93)
  have Kp31 : Keep h0 h30 [] := Kp27.wr W30 (Or.inr (Nat.le_trans (Keep.refl h0 []).1 (Nat.le_of_eq g1.symm)))
  obtain ⟨Lp30, X30, N30⟩ := own_pack X30 (Fr.snoc X30 N26 gh7)
  have Vh32 : Arv Z h30 b1 k1 .char (8 : Int32) [(.int (own_t0 q1)), (.int (own_t1 q1 (8 : Int32))), (.int (own_t1 q1 (16 : Int32))), (.int (own_t1 q1 (24 : Int32))), (.int (own_t1 q1 (32 : Int32))), (.int (own_t1 q1 (40 : Int32))), (.int (own_t1 q1 (48 : Int32))), (.int (0 : Int32))] (.int (0 : Int32)) := (Arv.set Ar29 qc29 Sz29 Ng29 Hs29 Gs29 (fits_nar_char _) W30 6 rfl (Nat.le_of_ble_eq_true rfl))
  obtain ⟨cl33, Ar33, qc33, Sz33, Ng33, Hs33, Gs33⟩ := id Vh32
  have hin33 : ¬ ((7 : Int32) < 0 ∨ cl33.slots.size ≤ ((7 : Int32)).toNatClampNeg) := inb_of Sz33 ⟨(by decide), (by decide)⟩
  obtain ⟨T34, h34, X34, e34, W34, st34⟩ := stC X30 hx hZ e30 Ar33 (j := (7 : Int32)) hin33 (g := (mkF m 107 #[.val (.long q1), .second, .val (.ref b1)] [(.int (((((q1.toUInt64 >>> ((56 : Int32) &&& 0x3f).toInt64.toUInt64).toInt64) &&& (255 : Int64)).toInt32).toUInt32.toUInt16.toUInt32.toInt32)), (.int (7 : Int32)), (.ref b1)])) rfl rfl (hb hby own_d_method_2_107)
  have Kp35 : Keep h0 h34 [] := Kp31.wr W34 (Or.inr (Nat.le_trans (Keep.refl h0 []).1 (Nat.le_of_eq g1.symm)))
  obtain ⟨Lp34, X34, N34⟩ := own_pack X34 (Fr.snoc X34 N30 gh7)
  have Vh36 : Arv Z h34 b1 k1 .char (8 : Int32) [(.int (own_t0 q1)), (.int (own_t1 q1 (8 : Int32))), (.int (own_t1 q1 (16 : Int32))), (.int (own_t1 q1 (24 : Int32))), (.int (own_t1 q1 (32 : Int32))), (.int (own_t1 q1 (40 : Int32))), (.int (own_t1 q1 (48 : Int32))), (.int (own_t1 q1 (56 : Int32)))] (.int (0 : Int32)) := (Arv.set Ar33 qc33 Sz33 Ng33 Hs33 Gs33 (fits_nar_char _) W34 7 rfl (Nat.le_of_ble_eq_true rfl))
  obtain ⟨T37, h37, X37, e37, E37, A37, D37, U37, st37⟩ := newO X34 hx hZ hown (hw _ (List.mem_of_getElem? (i := 6) rfl)) (hw _ (List.mem_of_getElem? (i := 7) rfl)) (hw _ (List.mem_of_getElem? (i := 8) rfl)) e34 (g := (mkF m 108 #[.val (.long q1), .second, .val (.ref b1)] [])) rfl (hb hby own_d_method_2_108) (by decide) (by decide)
  obtain ⟨b37, g37⟩ : ∃ z, z = h34.size := ⟨_, rfl⟩
  rw [← g37] at A37 D37 U37 st37
  have Kp38 : Keep h0 h37 [] := Kp35.ext E37
  have Fh39 : Fld Z h37 b37 "java/lang/String" "value" "[B" .null := (D37 (Or.inr (hw _ (List.mem_of_getElem? (i := 34) rfl))) (ty := (.array .byte)) (by decide))
  have Fh40 : Fld Z h37 b37 "java/lang/String" "coder" "B" (.int (0 : Int32)) := (D37 (Or.inr (hw _ (List.mem_of_getElem? (i := 32) rfl))) (ty := .byte) (by decide))
  have Vh41 : Arv Z h37 b1 k1 .char (8 : Int32) [(.int (own_t0 q1)), (.int (own_t1 q1 (8 : Int32))), (.int (own_t1 q1 (16 : Int32))), (.int (own_t1 q1 (24 : Int32))), (.int (own_t1 q1 (32 : Int32))), (.int (own_t1 q1 (40 : Int32))), (.int (own_t1 q1 (48 : Int32))), (.int (own_t1 q1 (56 : Int32)))] (.int (0 : Int32)) := (Vh36.ext E37)
  have hph42 : ∀ c ∈ ([(own_t0 q1), (own_t1 q1 (8 : Int32)), (own_t1 q1 (16 : Int32)), (own_t1 q1 (24 : Int32)), (own_t1 q1 (32 : Int32)), (own_t1 q1 (40 : Int32)), (own_t1 q1 (48 : Int32)), (own_t1 q1 (56 : Int32))] : List Int32), ¬ c < 0 ∧ ¬ (255 : Int32) < c := (own_cS (own_rng_t0 q1) (own_cS (own_rng_t1 q1 (8 : Int32)) (own_cS (own_rng_t1 q1 (16 : Int32)) (own_cS (own_rng_t1 q1 (24 : Int32)) (own_cS (own_rng_t1 q1 (32 : Int32)) (own_cS (own_rng_t1 q1 (40 : Int32)) (own_cS (own_rng_t1 q1 (48 : Int32)) (own_cS (own_rng_t1 q1 (56 : Int32)) own_c0))))))))
  have hws_words : ∀ d ∈ StrChars.Road.words, d.before a0 Z = true := fun d hd => hw d (own_hws_words d hd)
  have Zh43 : n0 ≤ h37.size := (Nat.le_trans Z0 Kp38.1)
  have gh44 : n0 ≤ b37 := Nat.le_trans (Nat.le_trans Z0 Kp35.1) (Nat.le_of_eq g37.symm)
  have Old45 : Old Z n0 h1 := X00.ext E1
  have Old46 : Old Z n0 h5 := Old45.wr W5 gh7
  have Old47 : Old Z n0 h10 := Old46.wr W10 gh7
  have Old48 : Old Z n0 h14 := Old47.wr W14 gh7
  have Old49 : Old Z n0 h18 := Old48.wr W18 gh7
  have Old50 : Old Z n0 h22 := Old49.wr W22 gh7
  have Old51 : Old Z n0 h26 := Old50.wr W26 gh7
  have Old52 : Old Z n0 h30 := Old51.wr W30 gh7
  have Old53 : Old Z n0 h34 := Old52.wr W34 gh7
  have Old54 : Old Z n0 h37 := Old53.ext E37
  obtain ⟨_, _, ⟨T55, L55, k55, n55⟩, -, X55, ⟨Lc55, hQ55, l55, y55, z55⟩, st55⟩ := X37.specialBack hx (y := (⟨"java/lang/String", "<init>", "([C)V"⟩ : MethodName)) rfl hown (mvT hZ (hw _ (List.mem_of_getElem? (i := 9) rfl))) (mvT hZ (hw _ (List.mem_of_getElem? (i := 10) rfl))) (mvT hZ (hw _ (List.mem_of_getElem? (i := 11) rfl))) (by decide) (StrChars.Road.backV (W := 1) hZ hws_words (kI := 4) (hw _ (List.mem_of_getElem? (i := 7) rfl)) (cs := ([(own_t0 q1), (own_t1 q1 (8 : Int32)), (own_t1 q1 (16 : Int32)), (own_t1 q1 (24 : Int32)), (own_t1 q1 (32 : Int32)), (own_t1 q1 (40 : Int32)), (own_t1 q1 (48 : Int32)), (own_t1 q1 (56 : Int32))] : List Int32)) (bs := ([(own_t0 q1), (own_t1 q1 (8 : Int32)), (own_t1 q1 (16 : Int32)), (own_t1 q1 (24 : Int32)), (own_t1 q1 (32 : Int32)), (own_t1 q1 (40 : Int32)), (own_t1 q1 (48 : Int32)), (own_t1 q1 (56 : Int32))] : List Int32).map (fun c => c.toInt8.toInt32)) (n := 8) gh44 Zh43 A37 Fh39 Fh40 Vh41 (O_CS.ext Old54.2) P_CS rfl rfl (by decide) (by decide) hph42 rfl (by decide) (by decide)) (g := (mkF m 113 #[.val (.long q1), .second, .val (.ref b1)] [(.ref b1), (.ref b37), (.ref b37)])) rfl (by rw [hml]; rfl) (Steps.refl _) (a := b37) (argsL := [(.ref b1)]) (rest := [(.ref b37)]) (lenOf own_pd0 rfl) rfl (by show 2 * 0 + _ ≤ _; exact Nat.le_of_eq rfl) (hb hby own_d_method_2_113) (fun _ _ => ⟨rfl, e37, (by decide : 2 + 1 ≤ _), (by decide : 12 + 8 ≤ _)⟩)
  dsimp only [Pt.U, Pt.locs, Pt.cells, Pt.slots] at X55 l55 y55 z55 st55 hQ55
  subst y55 z55
  obtain ⟨rfl, Nq55, Kq55, Eq55, Cq55, t55, kb55, gt55, szt55, nt55, Vq55, Bq55⟩ := hQ55
  have N55 : Fr n0 L55 := by rw [l55]; exact Fr.app N34 Nq55
  have Kp56 : Keep h0 T55.heap [] := Kp38.trans Kq55 (allS (Or.inr (Nat.le_trans Kp35.1 (Nat.le_of_eq g37.symm))) all0)
  obtain ⟨fs, hr, hrun, hended, hW, hsame⟩ := X55.leave (v := some (.ref b37)) (fun h => by rw [Bd.returns] at h; cases h)
  refine ⟨_, _, pre0 _ ?_, hrun, hended, _, _, rfl, ?_, ⟨_, rfl⟩, hW, hsame.mono (by decide) (by decide)⟩
  · show Steps p.tables e below (s₁.setTop (mkF m 0 #[.val (.long q1), .second, .unset] [])) _
    refine XS.bipush X0.here hx rfl (hb hby own_d_method_2_0) ?_
    show Steps p.tables e below (s₁.setTop (mkF m 2 #[.val (.long q1), .second, .unset] [(.int (8 : Int32))])) _
    refine st1 _ ?_
    show Steps p.tables e below (T1.setTop (mkF m 4 #[.val (.long q1), .second, .unset] [(.ref b1)])) _
    refine XS.astoreN X1.here hx rfl (hb hby own_d_method_2_4) rfl rfl (l' := #[.val (.long q1), .second, .val (.ref b1)]) rfl ?_
    show Steps p.tables e below (T1.setTop (mkF m 5 #[.val (.long q1), .second, .val (.ref b1)] [])) _
    refine XS.aloadN X1.here hx rfl (hb hby own_d_method_2_5) rfl rfl ?_
    show Steps p.tables e below (T1.setTop (mkF m 6 #[.val (.long q1), .second, .val (.ref b1)] [(.ref b1)])) _
    refine XS.iconst X1.here hx rfl (hb hby own_d_method_2_6) ?_
    show Steps p.tables e below (T1.setTop (mkF m 7 #[.val (.long q1), .second, .val (.ref b1)] [(.int (0 : Int32)), (.ref b1)])) _
    refine XS.lloadN X1.here hx rfl (hb hby own_d_method_2_7) rfl ?_
    show Steps p.tables e below (T1.setTop (mkF m 8 #[.val (.long q1), .second, .val (.ref b1)] [(.long q1), (.int (0 : Int32)), (.ref b1)])) _
    refine X1.ldc2Long hx hown (mvT hZ (hw _ (List.mem_of_getElem? (i := 5) rfl))) (g := (mkF m 8 #[.val (.long q1), .second, .val (.ref b1)] [(.long q1), (.int (0 : Int32)), (.ref b1)])) rfl (hb hby own_d_method_2_8) _ ?_
    show Steps p.tables e below (T1.setTop (mkF m 11 #[.val (.long q1), .second, .val (.ref b1)] [(.long (255 : Int64)), (.long q1), (.int (0 : Int32)), (.ref b1)])) _
    refine XS.land X1.here hx rfl (hb hby own_d_method_2_11) rfl ?_
    show Steps p.tables e below (T1.setTop (mkF m 12 #[.val (.long q1), .second, .val (.ref b1)] [(.long (q1 &&& (255 : Int64))), (.int (0 : Int32)), (.ref b1)])) _
    refine XS.l2i X1.here hx rfl (hb hby own_d_method_2_12) rfl ?_
    show Steps p.tables e below (T1.setTop (mkF m 13 #[.val (.long q1), .second, .val (.ref b1)] [(.int ((q1 &&& (255 : Int64)).toInt32)), (.int (0 : Int32)), (.ref b1)])) _
    refine XS.i2c X1.here hx rfl (hb hby own_d_method_2_13) rfl ?_
    show Steps p.tables e below (T1.setTop (mkF m 14 #[.val (.long q1), .second, .val (.ref b1)] [(.int (((q1 &&& (255 : Int64)).toInt32).toUInt32.toUInt16.toUInt32.toInt32)), (.int (0 : Int32)), (.ref b1)])) _
    refine st5 _ ?_
    show Steps p.tables e below (T5.setTop (mkF m 15 #[.val (.long q1), .second, .val (.ref b1)] [])) _
    refine XS.aloadN X5.here hx rfl (hb hby own_d_method_2_15) rfl rfl ?_
    show Steps p.tables e below (T5.setTop (mkF m 16 #[.val (.long q1), .second, .val (.ref b1)] [(.ref b1)])) _
    refine XS.iconst X5.here hx rfl (hb hby own_d_method_2_16) ?_
    show Steps p.tables e below (T5.setTop (mkF m 17 #[.val (.long q1), .second, .val (.ref b1)] [(.int (1 : Int32)), (.ref b1)])) _
    refine XS.lloadN X5.here hx rfl (hb hby own_d_method_2_17) rfl ?_
    show Steps p.tables e below (T5.setTop (mkF m 18 #[.val (.long q1), .second, .val (.ref b1)] [(.long q1), (.int (1 : Int32)), (.ref b1)])) _
    refine XS.bipush X5.here hx rfl (hb hby own_d_method_2_18) ?_
    show Steps p.tables e below (T5.setTop (mkF m 20 #[.val (.long q1), .second, .val (.ref b1)] [(.int (8 : Int32)), (.long q1), (.int (1 : Int32)), (.ref b1)])) _
    refine XS.lushr X5.here hx rfl (hb hby own_d_method_2_20) rfl ?_
    show Steps p.tables e below (T5.setTop (mkF m 21 #[.val (.long q1), .second, .val (.ref b1)] [(.long ((q1.toUInt64 >>> ((8 : Int32) &&& 0x3f).toInt64.toUInt64).toInt64)), (.int (1 : Int32)), (.ref b1)])) _
    refine X5.ldc2Long hx hown (mvT hZ (hw _ (List.mem_of_getElem? (i := 5) rfl))) (g := (mkF m 21 #[.val (.long q1), .second, .val (.ref b1)] [(.long ((q1.toUInt64 >>> ((8 : Int32) &&& 0x3f).toInt64.toUInt64).toInt64)), (.int (1 : Int32)), (.ref b1)])) rfl (hb hby own_d_method_2_21) _ ?_
    show Steps p.tables e below (T5.setTop (mkF m 24 #[.val (.long q1), .second, .val (.ref b1)] [(.long (255 : Int64)), (.long ((q1.toUInt64 >>> ((8 : Int32) &&& 0x3f).toInt64.toUInt64).toInt64)), (.int (1 : Int32)), (.ref b1)])) _
    refine XS.land X5.here hx rfl (hb hby own_d_method_2_24) rfl ?_
    show Steps p.tables e below (T5.setTop (mkF m 25 #[.val (.long q1), .second, .val (.ref b1)] [(.long (((q1.toUInt64 >>> ((8 : Int32) &&& 0x3f).toInt64.toUInt64).toInt64) &&& (255 : Int64))), (.int (1 : Int32)), (.ref b1)])) _
    refine XS.l2i X5.here hx rfl (hb hby own_d_method_2_25) rfl ?_
    show Steps p.tables e below (T5.setTop (mkF m 26 #[.val (.long q1), .second, .val (.ref b1)] [(.int ((((q1.toUInt64 >>> ((8 : Int32) &&& 0x3f).toInt64.toUInt64).toInt64) &&& (255 : Int64)).toInt32)), (.int (1 : Int32)), (.ref b1)])) _
    refine XS.i2c X5.here hx rfl (hb hby own_d_method_2_26) rfl ?_
    show Steps p.tables e below (T5.setTop (mkF m 27 #[.val (.long q1), .second, .val (.ref b1)] [(.int (((((q1.toUInt64 >>> ((8 : Int32) &&& 0x3f).toInt64.toUInt64).toInt64) &&& (255 : Int64)).toInt32).toUInt32.toUInt16.toUInt32.toInt32)), (.int (1 : Int32)), (.ref b1)])) _
    refine st10 _ ?_
    show Steps p.tables e below (T10.setTop (mkF m 28 #[.val (.long q1), .second, .val (.ref b1)] [])) _
    refine XS.aloadN X10.here hx rfl (hb hby own_d_method_2_28) rfl rfl ?_
    show Steps p.tables e below (T10.setTop (mkF m 29 #[.val (.long q1), .second, .val (.ref b1)] [(.ref b1)])) _
    refine XS.iconst X10.here hx rfl (hb hby own_d_method_2_29) ?_
    show Steps p.tables e below (T10.setTop (mkF m 30 #[.val (.long q1), .second, .val (.ref b1)] [(.int (2 : Int32)), (.ref b1)])) _
    refine XS.lloadN X10.here hx rfl (hb hby own_d_method_2_30) rfl ?_
    show Steps p.tables e below (T10.setTop (mkF m 31 #[.val (.long q1), .second, .val (.ref b1)] [(.long q1), (.int (2 : Int32)), (.ref b1)])) _
    refine XS.bipush X10.here hx rfl (hb hby own_d_method_2_31) ?_
    show Steps p.tables e below (T10.setTop (mkF m 33 #[.val (.long q1), .second, .val (.ref b1)] [(.int (16 : Int32)), (.long q1), (.int (2 : Int32)), (.ref b1)])) _
    refine XS.lushr X10.here hx rfl (hb hby own_d_method_2_33) rfl ?_
    show Steps p.tables e below (T10.setTop (mkF m 34 #[.val (.long q1), .second, .val (.ref b1)] [(.long ((q1.toUInt64 >>> ((16 : Int32) &&& 0x3f).toInt64.toUInt64).toInt64)), (.int (2 : Int32)), (.ref b1)])) _
    refine X10.ldc2Long hx hown (mvT hZ (hw _ (List.mem_of_getElem? (i := 5) rfl))) (g := (mkF m 34 #[.val (.long q1), .second, .val (.ref b1)] [(.long ((q1.toUInt64 >>> ((16 : Int32) &&& 0x3f).toInt64.toUInt64).toInt64)), (.int (2 : Int32)), (.ref b1)])) rfl (hb hby own_d_method_2_34) _ ?_
    show Steps p.tables e below (T10.setTop (mkF m 37 #[.val (.long q1), .second, .val (.ref b1)] [(.long (255 : Int64)), (.long ((q1.toUInt64 >>> ((16 : Int32) &&& 0x3f).toInt64.toUInt64).toInt64)), (.int (2 : Int32)), (.ref b1)])) _
    refine XS.land X10.here hx rfl (hb hby own_d_method_2_37) rfl ?_
    show Steps p.tables e below (T10.setTop (mkF m 38 #[.val (.long q1), .second, .val (.ref b1)] [(.long (((q1.toUInt64 >>> ((16 : Int32) &&& 0x3f).toInt64.toUInt64).toInt64) &&& (255 : Int64))), (.int (2 : Int32)), (.ref b1)])) _
    refine XS.l2i X10.here hx rfl (hb hby own_d_method_2_38) rfl ?_
    show Steps p.tables e below (T10.setTop (mkF m 39 #[.val (.long q1), .second, .val (.ref b1)] [(.int ((((q1.toUInt64 >>> ((16 : Int32) &&& 0x3f).toInt64.toUInt64).toInt64) &&& (255 : Int64)).toInt32)), (.int (2 : Int32)), (.ref b1)])) _
    refine XS.i2c X10.here hx rfl (hb hby own_d_method_2_39) rfl ?_
    show Steps p.tables e below (T10.setTop (mkF m 40 #[.val (.long q1), .second, .val (.ref b1)] [(.int (((((q1.toUInt64 >>> ((16 : Int32) &&& 0x3f).toInt64.toUInt64).toInt64) &&& (255 : Int64)).toInt32).toUInt32.toUInt16.toUInt32.toInt32)), (.int (2 : Int32)), (.ref b1)])) _
    refine st14 _ ?_
    show Steps p.tables e below (T14.setTop (mkF m 41 #[.val (.long q1), .second, .val (.ref b1)] [])) _
    refine XS.aloadN X14.here hx rfl (hb hby own_d_method_2_41) rfl rfl ?_
    show Steps p.tables e below (T14.setTop (mkF m 42 #[.val (.long q1), .second, .val (.ref b1)] [(.ref b1)])) _
    refine XS.iconst X14.here hx rfl (hb hby own_d_method_2_42) ?_
    show Steps p.tables e below (T14.setTop (mkF m 43 #[.val (.long q1), .second, .val (.ref b1)] [(.int (3 : Int32)), (.ref b1)])) _
    refine XS.lloadN X14.here hx rfl (hb hby own_d_method_2_43) rfl ?_
    show Steps p.tables e below (T14.setTop (mkF m 44 #[.val (.long q1), .second, .val (.ref b1)] [(.long q1), (.int (3 : Int32)), (.ref b1)])) _
    refine XS.bipush X14.here hx rfl (hb hby own_d_method_2_44) ?_
    show Steps p.tables e below (T14.setTop (mkF m 46 #[.val (.long q1), .second, .val (.ref b1)] [(.int (24 : Int32)), (.long q1), (.int (3 : Int32)), (.ref b1)])) _
    refine XS.lushr X14.here hx rfl (hb hby own_d_method_2_46) rfl ?_
    show Steps p.tables e below (T14.setTop (mkF m 47 #[.val (.long q1), .second, .val (.ref b1)] [(.long ((q1.toUInt64 >>> ((24 : Int32) &&& 0x3f).toInt64.toUInt64).toInt64)), (.int (3 : Int32)), (.ref b1)])) _
    refine X14.ldc2Long hx hown (mvT hZ (hw _ (List.mem_of_getElem? (i := 5) rfl))) (g := (mkF m 47 #[.val (.long q1), .second, .val (.ref b1)] [(.long ((q1.toUInt64 >>> ((24 : Int32) &&& 0x3f).toInt64.toUInt64).toInt64)), (.int (3 : Int32)), (.ref b1)])) rfl (hb hby own_d_method_2_47) _ ?_
    show Steps p.tables e below (T14.setTop (mkF m 50 #[.val (.long q1), .second, .val (.ref b1)] [(.long (255 : Int64)), (.long ((q1.toUInt64 >>> ((24 : Int32) &&& 0x3f).toInt64.toUInt64).toInt64)), (.int (3 : Int32)), (.ref b1)])) _
    refine XS.land X14.here hx rfl (hb hby own_d_method_2_50) rfl ?_
    show Steps p.tables e below (T14.setTop (mkF m 51 #[.val (.long q1), .second, .val (.ref b1)] [(.long (((q1.toUInt64 >>> ((24 : Int32) &&& 0x3f).toInt64.toUInt64).toInt64) &&& (255 : Int64))), (.int (3 : Int32)), (.ref b1)])) _
    refine XS.l2i X14.here hx rfl (hb hby own_d_method_2_51) rfl ?_
    show Steps p.tables e below (T14.setTop (mkF m 52 #[.val (.long q1), .second, .val (.ref b1)] [(.int ((((q1.toUInt64 >>> ((24 : Int32) &&& 0x3f).toInt64.toUInt64).toInt64) &&& (255 : Int64)).toInt32)), (.int (3 : Int32)), (.ref b1)])) _
    refine XS.i2c X14.here hx rfl (hb hby own_d_method_2_52) rfl ?_
    show Steps p.tables e below (T14.setTop (mkF m 53 #[.val (.long q1), .second, .val (.ref b1)] [(.int (((((q1.toUInt64 >>> ((24 : Int32) &&& 0x3f).toInt64.toUInt64).toInt64) &&& (255 : Int64)).toInt32).toUInt32.toUInt16.toUInt32.toInt32)), (.int (3 : Int32)), (.ref b1)])) _
    refine st18 _ ?_
    show Steps p.tables e below (T18.setTop (mkF m 54 #[.val (.long q1), .second, .val (.ref b1)] [])) _
    refine XS.aloadN X18.here hx rfl (hb hby own_d_method_2_54) rfl rfl ?_
    show Steps p.tables e below (T18.setTop (mkF m 55 #[.val (.long q1), .second, .val (.ref b1)] [(.ref b1)])) _
    refine XS.iconst X18.here hx rfl (hb hby own_d_method_2_55) ?_
    show Steps p.tables e below (T18.setTop (mkF m 56 #[.val (.long q1), .second, .val (.ref b1)] [(.int (4 : Int32)), (.ref b1)])) _
    refine XS.lloadN X18.here hx rfl (hb hby own_d_method_2_56) rfl ?_
    show Steps p.tables e below (T18.setTop (mkF m 57 #[.val (.long q1), .second, .val (.ref b1)] [(.long q1), (.int (4 : Int32)), (.ref b1)])) _
    refine XS.bipush X18.here hx rfl (hb hby own_d_method_2_57) ?_
    show Steps p.tables e below (T18.setTop (mkF m 59 #[.val (.long q1), .second, .val (.ref b1)] [(.int (32 : Int32)), (.long q1), (.int (4 : Int32)), (.ref b1)])) _
    refine XS.lushr X18.here hx rfl (hb hby own_d_method_2_59) rfl ?_
    show Steps p.tables e below (T18.setTop (mkF m 60 #[.val (.long q1), .second, .val (.ref b1)] [(.long ((q1.toUInt64 >>> ((32 : Int32) &&& 0x3f).toInt64.toUInt64).toInt64)), (.int (4 : Int32)), (.ref b1)])) _
    refine X18.ldc2Long hx hown (mvT hZ (hw _ (List.mem_of_getElem? (i := 5) rfl))) (g := (mkF m 60 #[.val (.long q1), .second, .val (.ref b1)] [(.long ((q1.toUInt64 >>> ((32 : Int32) &&& 0x3f).toInt64.toUInt64).toInt64)), (.int (4 : Int32)), (.ref b1)])) rfl (hb hby own_d_method_2_60) _ ?_
    show Steps p.tables e below (T18.setTop (mkF m 63 #[.val (.long q1), .second, .val (.ref b1)] [(.long (255 : Int64)), (.long ((q1.toUInt64 >>> ((32 : Int32) &&& 0x3f).toInt64.toUInt64).toInt64)), (.int (4 : Int32)), (.ref b1)])) _
    refine XS.land X18.here hx rfl (hb hby own_d_method_2_63) rfl ?_
    show Steps p.tables e below (T18.setTop (mkF m 64 #[.val (.long q1), .second, .val (.ref b1)] [(.long (((q1.toUInt64 >>> ((32 : Int32) &&& 0x3f).toInt64.toUInt64).toInt64) &&& (255 : Int64))), (.int (4 : Int32)), (.ref b1)])) _
    refine XS.l2i X18.here hx rfl (hb hby own_d_method_2_64) rfl ?_
    show Steps p.tables e below (T18.setTop (mkF m 65 #[.val (.long q1), .second, .val (.ref b1)] [(.int ((((q1.toUInt64 >>> ((32 : Int32) &&& 0x3f).toInt64.toUInt64).toInt64) &&& (255 : Int64)).toInt32)), (.int (4 : Int32)), (.ref b1)])) _
    refine XS.i2c X18.here hx rfl (hb hby own_d_method_2_65) rfl ?_
    show Steps p.tables e below (T18.setTop (mkF m 66 #[.val (.long q1), .second, .val (.ref b1)] [(.int (((((q1.toUInt64 >>> ((32 : Int32) &&& 0x3f).toInt64.toUInt64).toInt64) &&& (255 : Int64)).toInt32).toUInt32.toUInt16.toUInt32.toInt32)), (.int (4 : Int32)), (.ref b1)])) _
    refine st22 _ ?_
    show Steps p.tables e below (T22.setTop (mkF m 67 #[.val (.long q1), .second, .val (.ref b1)] [])) _
    refine XS.aloadN X22.here hx rfl (hb hby own_d_method_2_67) rfl rfl ?_
    show Steps p.tables e below (T22.setTop (mkF m 68 #[.val (.long q1), .second, .val (.ref b1)] [(.ref b1)])) _
    refine XS.iconst X22.here hx rfl (hb hby own_d_method_2_68) ?_
    show Steps p.tables e below (T22.setTop (mkF m 69 #[.val (.long q1), .second, .val (.ref b1)] [(.int (5 : Int32)), (.ref b1)])) _
    refine XS.lloadN X22.here hx rfl (hb hby own_d_method_2_69) rfl ?_
    show Steps p.tables e below (T22.setTop (mkF m 70 #[.val (.long q1), .second, .val (.ref b1)] [(.long q1), (.int (5 : Int32)), (.ref b1)])) _
    refine XS.bipush X22.here hx rfl (hb hby own_d_method_2_70) ?_
    show Steps p.tables e below (T22.setTop (mkF m 72 #[.val (.long q1), .second, .val (.ref b1)] [(.int (40 : Int32)), (.long q1), (.int (5 : Int32)), (.ref b1)])) _
    refine XS.lushr X22.here hx rfl (hb hby own_d_method_2_72) rfl ?_
    show Steps p.tables e below (T22.setTop (mkF m 73 #[.val (.long q1), .second, .val (.ref b1)] [(.long ((q1.toUInt64 >>> ((40 : Int32) &&& 0x3f).toInt64.toUInt64).toInt64)), (.int (5 : Int32)), (.ref b1)])) _
    refine X22.ldc2Long hx hown (mvT hZ (hw _ (List.mem_of_getElem? (i := 5) rfl))) (g := (mkF m 73 #[.val (.long q1), .second, .val (.ref b1)] [(.long ((q1.toUInt64 >>> ((40 : Int32) &&& 0x3f).toInt64.toUInt64).toInt64)), (.int (5 : Int32)), (.ref b1)])) rfl (hb hby own_d_method_2_73) _ ?_
    show Steps p.tables e below (T22.setTop (mkF m 76 #[.val (.long q1), .second, .val (.ref b1)] [(.long (255 : Int64)), (.long ((q1.toUInt64 >>> ((40 : Int32) &&& 0x3f).toInt64.toUInt64).toInt64)), (.int (5 : Int32)), (.ref b1)])) _
    refine XS.land X22.here hx rfl (hb hby own_d_method_2_76) rfl ?_
    show Steps p.tables e below (T22.setTop (mkF m 77 #[.val (.long q1), .second, .val (.ref b1)] [(.long (((q1.toUInt64 >>> ((40 : Int32) &&& 0x3f).toInt64.toUInt64).toInt64) &&& (255 : Int64))), (.int (5 : Int32)), (.ref b1)])) _
    refine XS.l2i X22.here hx rfl (hb hby own_d_method_2_77) rfl ?_
    show Steps p.tables e below (T22.setTop (mkF m 78 #[.val (.long q1), .second, .val (.ref b1)] [(.int ((((q1.toUInt64 >>> ((40 : Int32) &&& 0x3f).toInt64.toUInt64).toInt64) &&& (255 : Int64)).toInt32)), (.int (5 : Int32)), (.ref b1)])) _
    refine XS.i2c X22.here hx rfl (hb hby own_d_method_2_78) rfl ?_
    show Steps p.tables e below (T22.setTop (mkF m 79 #[.val (.long q1), .second, .val (.ref b1)] [(.int (((((q1.toUInt64 >>> ((40 : Int32) &&& 0x3f).toInt64.toUInt64).toInt64) &&& (255 : Int64)).toInt32).toUInt32.toUInt16.toUInt32.toInt32)), (.int (5 : Int32)), (.ref b1)])) _
    refine st26 _ ?_
    show Steps p.tables e below (T26.setTop (mkF m 80 #[.val (.long q1), .second, .val (.ref b1)] [])) _
    refine XS.aloadN X26.here hx rfl (hb hby own_d_method_2_80) rfl rfl ?_
    show Steps p.tables e below (T26.setTop (mkF m 81 #[.val (.long q1), .second, .val (.ref b1)] [(.ref b1)])) _
    refine XS.bipush X26.here hx rfl (hb hby own_d_method_2_81) ?_
    show Steps p.tables e below (T26.setTop (mkF m 83 #[.val (.long q1), .second, .val (.ref b1)] [(.int (6 : Int32)), (.ref b1)])) _
    refine XS.lloadN X26.here hx rfl (hb hby own_d_method_2_83) rfl ?_
    show Steps p.tables e below (T26.setTop (mkF m 84 #[.val (.long q1), .second, .val (.ref b1)] [(.long q1), (.int (6 : Int32)), (.ref b1)])) _
    refine XS.bipush X26.here hx rfl (hb hby own_d_method_2_84) ?_
    show Steps p.tables e below (T26.setTop (mkF m 86 #[.val (.long q1), .second, .val (.ref b1)] [(.int (48 : Int32)), (.long q1), (.int (6 : Int32)), (.ref b1)])) _
    refine XS.lushr X26.here hx rfl (hb hby own_d_method_2_86) rfl ?_
    show Steps p.tables e below (T26.setTop (mkF m 87 #[.val (.long q1), .second, .val (.ref b1)] [(.long ((q1.toUInt64 >>> ((48 : Int32) &&& 0x3f).toInt64.toUInt64).toInt64)), (.int (6 : Int32)), (.ref b1)])) _
    refine X26.ldc2Long hx hown (mvT hZ (hw _ (List.mem_of_getElem? (i := 5) rfl))) (g := (mkF m 87 #[.val (.long q1), .second, .val (.ref b1)] [(.long ((q1.toUInt64 >>> ((48 : Int32) &&& 0x3f).toInt64.toUInt64).toInt64)), (.int (6 : Int32)), (.ref b1)])) rfl (hb hby own_d_method_2_87) _ ?_
    show Steps p.tables e below (T26.setTop (mkF m 90 #[.val (.long q1), .second, .val (.ref b1)] [(.long (255 : Int64)), (.long ((q1.toUInt64 >>> ((48 : Int32) &&& 0x3f).toInt64.toUInt64).toInt64)), (.int (6 : Int32)), (.ref b1)])) _
    refine XS.land X26.here hx rfl (hb hby own_d_method_2_90) rfl ?_
    show Steps p.tables e below (T26.setTop (mkF m 91 #[.val (.long q1), .second, .val (.ref b1)] [(.long (((q1.toUInt64 >>> ((48 : Int32) &&& 0x3f).toInt64.toUInt64).toInt64) &&& (255 : Int64))), (.int (6 : Int32)), (.ref b1)])) _
    refine XS.l2i X26.here hx rfl (hb hby own_d_method_2_91) rfl ?_
    show Steps p.tables e below (T26.setTop (mkF m 92 #[.val (.long q1), .second, .val (.ref b1)] [(.int ((((q1.toUInt64 >>> ((48 : Int32) &&& 0x3f).toInt64.toUInt64).toInt64) &&& (255 : Int64)).toInt32)), (.int (6 : Int32)), (.ref b1)])) _
    refine XS.i2c X26.here hx rfl (hb hby own_d_method_2_92) rfl ?_
    show Steps p.tables e below (T26.setTop (mkF m 93 #[.val (.long q1), .second, .val (.ref b1)] [(.int (((((q1.toUInt64 >>> ((48 : Int32) &&& 0x3f).toInt64.toUInt64).toInt64) &&& (255 : Int64)).toInt32).toUInt32.toUInt16.toUInt32.toInt32)), (.int (6 : Int32)), (.ref b1)])) _
    refine st30 _ ?_
    show Steps p.tables e below (T30.setTop (mkF m 94 #[.val (.long q1), .second, .val (.ref b1)] [])) _
    refine XS.aloadN X30.here hx rfl (hb hby own_d_method_2_94) rfl rfl ?_
    show Steps p.tables e below (T30.setTop (mkF m 95 #[.val (.long q1), .second, .val (.ref b1)] [(.ref b1)])) _
    refine XS.bipush X30.here hx rfl (hb hby own_d_method_2_95) ?_
    show Steps p.tables e below (T30.setTop (mkF m 97 #[.val (.long q1), .second, .val (.ref b1)] [(.int (7 : Int32)), (.ref b1)])) _
    refine XS.lloadN X30.here hx rfl (hb hby own_d_method_2_97) rfl ?_
    show Steps p.tables e below (T30.setTop (mkF m 98 #[.val (.long q1), .second, .val (.ref b1)] [(.long q1), (.int (7 : Int32)), (.ref b1)])) _
    refine XS.bipush X30.here hx rfl (hb hby own_d_method_2_98) ?_
    show Steps p.tables e below (T30.setTop (mkF m 100 #[.val (.long q1), .second, .val (.ref b1)] [(.int (56 : Int32)), (.long q1), (.int (7 : Int32)), (.ref b1)])) _
    refine XS.lushr X30.here hx rfl (hb hby own_d_method_2_100) rfl ?_
    show Steps p.tables e below (T30.setTop (mkF m 101 #[.val (.long q1), .second, .val (.ref b1)] [(.long ((q1.toUInt64 >>> ((56 : Int32) &&& 0x3f).toInt64.toUInt64).toInt64)), (.int (7 : Int32)), (.ref b1)])) _
    refine X30.ldc2Long hx hown (mvT hZ (hw _ (List.mem_of_getElem? (i := 5) rfl))) (g := (mkF m 101 #[.val (.long q1), .second, .val (.ref b1)] [(.long ((q1.toUInt64 >>> ((56 : Int32) &&& 0x3f).toInt64.toUInt64).toInt64)), (.int (7 : Int32)), (.ref b1)])) rfl (hb hby own_d_method_2_101) _ ?_
    show Steps p.tables e below (T30.setTop (mkF m 104 #[.val (.long q1), .second, .val (.ref b1)] [(.long (255 : Int64)), (.long ((q1.toUInt64 >>> ((56 : Int32) &&& 0x3f).toInt64.toUInt64).toInt64)), (.int (7 : Int32)), (.ref b1)])) _
    refine XS.land X30.here hx rfl (hb hby own_d_method_2_104) rfl ?_
    show Steps p.tables e below (T30.setTop (mkF m 105 #[.val (.long q1), .second, .val (.ref b1)] [(.long (((q1.toUInt64 >>> ((56 : Int32) &&& 0x3f).toInt64.toUInt64).toInt64) &&& (255 : Int64))), (.int (7 : Int32)), (.ref b1)])) _
    refine XS.l2i X30.here hx rfl (hb hby own_d_method_2_105) rfl ?_
    show Steps p.tables e below (T30.setTop (mkF m 106 #[.val (.long q1), .second, .val (.ref b1)] [(.int ((((q1.toUInt64 >>> ((56 : Int32) &&& 0x3f).toInt64.toUInt64).toInt64) &&& (255 : Int64)).toInt32)), (.int (7 : Int32)), (.ref b1)])) _
    refine XS.i2c X30.here hx rfl (hb hby own_d_method_2_106) rfl ?_
    show Steps p.tables e below (T30.setTop (mkF m 107 #[.val (.long q1), .second, .val (.ref b1)] [(.int (((((q1.toUInt64 >>> ((56 : Int32) &&& 0x3f).toInt64.toUInt64).toInt64) &&& (255 : Int64)).toInt32).toUInt32.toUInt16.toUInt32.toInt32)), (.int (7 : Int32)), (.ref b1)])) _
    refine st34 _ ?_
    show Steps p.tables e below (T34.setTop (mkF m 108 #[.val (.long q1), .second, .val (.ref b1)] [])) _
    refine st37 _ ?_
    show Steps p.tables e below (T37.setTop (mkF m 111 #[.val (.long q1), .second, .val (.ref b1)] [(.ref b37)])) _
    refine XS.dup X37.here hx rfl (hb hby own_d_method_2_111) rfl rfl ?_
    show Steps p.tables e below (T37.setTop (mkF m 112 #[.val (.long q1), .second, .val (.ref b1)] [(.ref b37), (.ref b37)])) _
    refine XS.aloadN X37.here hx rfl (hb hby own_d_method_2_112) rfl rfl ?_
    show Steps p.tables e below (T37.setTop (mkF m 113 #[.val (.long q1), .second, .val (.ref b1)] [(.ref b1), (.ref b37), (.ref b37)])) _
    refine st55.trans ?_
    show Steps p.tables e below (T55.setTop (mkF m 116 #[.val (.long q1), .second, .val (.ref b1)] [(.ref b37)])) _
    jvm_step X55.here [X55.here.top, hx, (hb hby own_d_method_2_116), X55.method', Bd.returns, Value.isRef, FieldType.isReference]
    first | (intro acts; rw [hr _ acts rfl rfl rfl]) | rw [hr _ _ rfl rfl rfl]
    exact Steps.refl _
  · show own_Qrm_text Z G1 G3 q1 h0 n0 _ T55.heap _
    exact ⟨b37, t55, kb55, rfl, N55, Kp56, (Nat.le_trans Kp35.1 (Nat.le_of_eq g37.symm)), Eq55, Vq55, Cq55, (Nat.le_trans Kp38.1 szt55), Bq55, hph42⟩
theorem own_d_jdk_30_method_1_0 : decode jdk_30_method_1_code 0 = .ok (.aload_n 0, 1) := by decide +kernel
theorem own_d_jdk_30_method_1_1 : decode jdk_30_method_1_code 1 = .ok (.invokespecial 1, 3) := by decide +kernel
theorem own_d_jdk_30_method_1_4 : decode jdk_30_method_1_code 4 = .ok (.return_, 1) := by decide +kernel
theorem own_pn2 : plainName "java/lang/Record" = true := by first | (simp [plainName, overriddenIn]; done) | decide +kernel
def own_Qrm_rec (Z : State) (G1 : Int32) (G3 : Value) (a1 : Addr) (h0 : Heap) (n0 : Nat) (v : Option Value) (h : Heap) (L : List Loc) : Prop := (v = none) ∧ (Fr n0 L) ∧ (h = h0)
theorem own_efrm_rec (m : MethodId) (a1 : Addr) : entryFrame m #[(.ref a1)] 1 = mkF m 0 #[.val (.ref a1)] [] := by first | (simp [entryFrame, mkF, argsToLocals, Value.category]; done) | rfl
set_option maxRecDepth 65536 in
set_option maxHeartbeats 40000000 in
theorem own_rm_rec (l : Launch) (Z : State) (a0 : Array Value) (hw : ∀ d ∈ tables_1, d.before a0 Z = true) (ws : List Jvm.Cond) (G1 : Int32) (G3 : Value) (gl : own_Glob Z G1 G3) (a1 : Addr) (h0 : Heap) (n0 : Nat) (Z0 : n0 ≤ h0.size) :
    MetFree l (⟨"java/lang/Record", "<init>", "()V"⟩ : MethodName) (head1 (Jvm.Cond.code (⟨"java/lang/Record", "<init>", "()V"⟩ : MethodName) jdk_30_method_1_code 1 none :: ws) ({ frames := 1, cells := 0, slots := 0, locals := 12 } : Room)) (fun a U => a = #[(.ref a1)] ∧ Z.Warmed39 U.vm ∧ U.heap = h0) (fun _ _ _ _ _ => True) (fun _ U o U' => ∃ v L, o = .returned v ∧ own_Qrm_rec Z G1 G3 a1 h0 n0 v U'.heap L ∧ FrameEnd U o U' L ({ frames := 1, cells := 0, slots := 0, locals := 12 } : Room).cells ({ frames := 1, cells := 0, slots := 0, locals := 12 } : Room).slots) := by
  refine MetFree.of_bodySF (plainFor_of_name own_pn2) hisR ?_
  intro p e s m args below meth c s₁ Bd hml0 hP hK
  obtain ⟨rfl, hZ, hh⟩ := hP
  obtain ⟨O_CS, P_CS, O_SI, P_SI⟩ := id gl
  have hx := Bd.exec
  have hby := Bd.bytes
  have hml : c.maxLocals = 1 := hml0
  have hown : s.vm.findClass "java/lang/Record" = some m.cls := findClass_of_methodNamed Bd.named
  have hnm := (name_of_methodNamed Bd.named Bd.method).1
  have X0 : Stand p l e ({ frames := 1, cells := 0, slots := 0, locals := 12 } : Room) s m #[(.ref a1)] below meth c s₁ [] 0 0 := Stand.of_body Bd
  have e0 : s₁.heap = h0 := by rw [← hh, Bd.state]; rfl
  have N0 := Fr.nil n0
  have pre0 : ∀ t, Steps p.tables e below (s₁.setTop (mkF m 0 #[.val (.ref a1)] [])) t → Steps p.tables e below (s₁.setTop (entryFrame m #[(.ref a1)] 1)) t := fun t k => castTop (own_efrm_rec m a1) k
  obtain ⟨T1, X1, e1, st1⟩ := initO X0 hx hZ hown (hw _ (List.mem_of_getElem? (i := 46) rfl)) (hw _ (List.mem_of_getElem? (i := 17) rfl)) (hw _ (List.mem_of_getElem? (i := 18) rfl)) e0 (g := (mkF m 1 #[.val (.ref a1)] [(.ref a1)])) rfl (by rw [hml]; rfl) rfl (hb hby own_d_jdk_30_method_1_1) (by decide) (W := 0) (by show 2 * 0 + _ ≤ _; exact Nat.le_of_eq rfl) (by decide)
  obtain ⟨fs, hr, hrun, hended, hW, hsame⟩ := X1.leave (v := none) (fun _ => rfl)
  refine ⟨_, _, pre0 _ ?_, hrun, hended, _, _, rfl, ?_, ⟨_, rfl⟩, hW, hsame.mono (by decide) (by decide)⟩
  · show Steps p.tables e below (s₁.setTop (mkF m 0 #[.val (.ref a1)] [])) _
    refine XS.aloadN X0.here hx rfl (hb hby own_d_jdk_30_method_1_0) rfl rfl ?_
    show Steps p.tables e below (s₁.setTop (mkF m 1 #[.val (.ref a1)] [(.ref a1)])) _
    refine st1 _ ?_
    show Steps p.tables e below (T1.setTop (mkF m 4 #[.val (.ref a1)] [])) _
    exact X1.returnOut hx Bd.returns (hb hby own_d_jdk_30_method_1_4) hr
  · show own_Qrm_rec Z G1 G3 a1 h0 n0 _ T1.heap _
    rw [e1]
    exact ⟨rfl, N0, rfl⟩
theorem own_d_prog_42_method_1_0 : decode prog_42_method_1_code 0 = .ok (.aload_n 0, 1) := by decide +kernel
theorem own_d_prog_42_method_1_1 : decode prog_42_method_1_code 1 = .ok (.invokespecial 1, 3) := by decide +kernel
theorem own_pd3 : parseMethodDescriptor "()V" = some ⟨[], none⟩ := by decide +kernel
theorem own_d_prog_42_method_1_4 : decode prog_42_method_1_code 4 = .ok (.iload_n 1, 1) := by decide +kernel
theorem own_d_prog_42_method_1_5 : decode prog_42_method_1_code 5 = .ok (.ifCond .lt 8, 3) := by decide +kernel
theorem own_d_prog_42_method_1_8 : decode prog_42_method_1_code 8 = .ok (.iload_n 2, 1) := by decide +kernel
theorem own_d_prog_42_method_1_9 : decode prog_42_method_1_code 9 = .ok (.iload_n 1, 1) := by decide +kernel
theorem own_d_prog_42_method_1_10 : decode prog_42_method_1_code 10 = .ok (.if_icmp .ge 18, 3) := by decide +kernel
theorem own_d_prog_42_method_1_28 : decode prog_42_method_1_code 28 = .ok (.aload_n 0, 1) := by decide +kernel
theorem own_d_prog_42_method_1_29 : decode prog_42_method_1_code 29 = .ok (.iload_n 1, 1) := by decide +kernel
theorem own_d_prog_42_method_1_30 : decode prog_42_method_1_code 30 = .ok (.putfield 16, 3) := by decide +kernel
theorem own_d_prog_42_method_1_33 : decode prog_42_method_1_code 33 = .ok (.aload_n 0, 1) := by decide +kernel
theorem own_d_prog_42_method_1_34 : decode prog_42_method_1_code 34 = .ok (.iload_n 2, 1) := by decide +kernel
theorem own_d_prog_42_method_1_35 : decode prog_42_method_1_code 35 = .ok (.putfield 22, 3) := by decide +kernel
theorem own_d_prog_42_method_1_38 : decode prog_42_method_1_code 38 = .ok (.return_, 1) := by decide +kernel
theorem own_pn4 : plainName "com/example/incorpus/incorpus/Span" = true := by first | (simp [plainName, overriddenIn]; done) | decide +kernel
def own_Qrm_span (Z : State) (G1 : Int32) (G3 : Value) (a1 : Addr) (p2 : Int32) (p3 : Int32) (u4 : Value) (u5 : Value) (h0 : Heap) (n0 : Nat) (v : Option Value) (h : Heap) (L : List Loc) : Prop := (v = none) ∧ (Fr n0 L) ∧ (Keep h0 h [a1]) ∧ (Exa Z h a1 "com/example/incorpus/incorpus/Span") ∧ (Fld Z h a1 "com/example/incorpus/incorpus/Span" "start" "I" (.int p2)) ∧ (Fld Z h a1 "com/example/incorpus/incorpus/Span" "end" "I" (.int p3))
theorem own_efrm_span (m : MethodId) (a1 : Addr) (p2 : Int32) (p3 : Int32) : entryFrame m #[(.ref a1), (.int p2), (.int p3)] 3 = mkF m 0 #[.val (.ref a1), .val (.int p2), .val (.int p3)] [] := by first | (simp [entryFrame, mkF, argsToLocals, Value.category]; done) | rfl
set_option maxRecDepth 65536 in
set_option maxHeartbeats 40000000 in
theorem own_rm_span (l : Launch) (Z : State) (a0 : Array Value) (hw : ∀ d ∈ tables_1, d.before a0 Z = true) (ws : List Jvm.Cond) (G1 : Int32) (G3 : Value) (gl : own_Glob Z G1 G3) (a1 : Addr) (p2 : Int32) (p3 : Int32) (u4 : Value) (u5 : Value) (h0 : Heap) (n0 : Nat) (Z0 : n0 ≤ h0.size) (P1 : Exa Z h0 a1 "com/example/incorpus/incorpus/Span") (P2 : Fld Z h0 a1 "com/example/incorpus/incorpus/Span" "start" "I" u4) (P3 : n0 ≤ a1) (P4 : Fld Z h0 a1 "com/example/incorpus/incorpus/Span" "end" "I" u5) (hc1 : ¬ (p2 < (0 : Int32))) (hc2 : ¬ (p3 < p2)) :
    MetFree l (⟨"com/example/incorpus/incorpus/Span", "<init>", "(II)V"⟩ : MethodName) (head1 (Jvm.Cond.code (⟨"com/example/incorpus/incorpus/Span", "<init>", "(II)V"⟩ : MethodName) prog_42_method_1_code 3 none :: ws) ({ frames := 2, cells := 0, slots := 0, locals := 24 } : Room)) (fun a U => a = #[(.ref a1), (.int p2), (.int p3)] ∧ Z.Warmed39 U.vm ∧ U.heap = h0) (fun _ _ _ _ _ => True) (fun _ U o U' => ∃ v L, o = .returned v ∧ own_Qrm_span Z G1 G3 a1 p2 p3 u4 u5 h0 n0 v U'.heap L ∧ FrameEnd U o U' L ({ frames := 2, cells := 0, slots := 0, locals := 24 } : Room).cells ({ frames := 2, cells := 0, slots := 0, locals := 24 } : Room).slots) := by
  refine MetFree.of_bodySF (plainFor_of_name own_pn4) hisR ?_
  intro p e s m args below meth c s₁ Bd hml0 hP hK
  obtain ⟨rfl, hZ, hh⟩ := hP
  obtain ⟨O_CS, P_CS, O_SI, P_SI⟩ := id gl
  have hx := Bd.exec
  have hby := Bd.bytes
  have hml : c.maxLocals = 3 := hml0
  have hown : s.vm.findClass "com/example/incorpus/incorpus/Span" = some m.cls := findClass_of_methodNamed Bd.named
  have hnm := (name_of_methodNamed Bd.named Bd.method).1
  have X0 : Stand p l e ({ frames := 2, cells := 0, slots := 0, locals := 24 } : Room) s m #[(.ref a1), (.int p2), (.int p3)] below meth c s₁ [] 0 0 := Stand.of_body Bd
  have e0 : s₁.heap = h0 := by rw [← hh, Bd.state]; rfl
  have N0 := Fr.nil n0
  have pre0 : ∀ t, Steps p.tables e below (s₁.setTop (mkF m 0 #[.val (.ref a1), .val (.int p2), .val (.int p3)] [])) t → Steps p.tables e below (s₁.setTop (entryFrame m #[(.ref a1), (.int p2), (.int p3)] 3)) t := fun t k => castTop (own_efrm_span m a1 p2 p3) k
  obtain ⟨_, _, ⟨T1, L1, k1, n1⟩, -, X1, ⟨Lc1, hQ1, l1, y1, z1⟩, st1⟩ := X0.specialBack hx (y := (⟨"java/lang/Record", "<init>", "()V"⟩ : MethodName)) rfl hown (mvT hZ (hw _ (List.mem_of_getElem? (i := 41) rfl))) (mvT hZ (hw _ (List.mem_of_getElem? (i := 42) rfl))) (mvT hZ (hw _ (List.mem_of_getElem? (i := 45) rfl))) (by decide) (backOf (W := 0) (own_rm_rec l Z a0 hw [] G1 G3 gl a1 h0 n0 Z0 ) hZ (hw _ (List.mem_of_getElem? (i := 45) rfl)) (hw _ (List.mem_of_getElem? (i := 44) rfl)) (by decide) (by decide)) (g := (mkF m 1 #[.val (.ref a1), .val (.int p2), .val (.int p3)] [(.ref a1)])) rfl (by rw [hml]; rfl) (Steps.refl _) (a := a1) (argsL := []) (rest := []) (lenOf own_pd3 rfl) rfl (by show 2 * 0 + _ ≤ _; exact Nat.le_of_eq rfl) (hb hby own_d_prog_42_method_1_1) (fun _ _ => ⟨rfl, e0, (by decide : 0 + 0 ≤ _), (by decide : 0 + 0 ≤ _)⟩)
  dsimp only [Pt.U, Pt.locs, Pt.cells, Pt.slots] at X1 l1 y1 z1 st1 hQ1
  subst y1 z1
  obtain ⟨rfl, Nq1, e1⟩ := hQ1
  have N1 : Fr n0 L1 := by rw [l1]; exact Fr.app N0 Nq1
  obtain ⟨T2, h2, X2, e2, W2, st2⟩ := putF X1 hx hZ hown (host := "") (Or.inl (hw _ (List.mem_of_getElem? (i := 47) rfl))) Via.refl e1 P2 P1 (Or.inr ⟨(hw _ (List.mem_of_getElem? (i := 48) rfl)), rfl, hnm⟩) (hw _ (List.mem_of_getElem? (i := 36) rfl)) (ty := .int) (by decide) rfl rfl (g := (mkF m 30 #[.val (.ref a1), .val (.int p2), .val (.int p3)] [(.int p2), (.ref a1)])) rfl rfl (hb hby own_d_prog_42_method_1_30)
  have Kp3 : Keep h0 h2 [a1] := (Keep.refl h0 [a1]).wr W2 (Or.inl (List.mem_of_getElem? (i := 0) rfl))
  obtain ⟨Lp2, X2, N2⟩ := own_pack X2 (Fr.snoc X2 N1 P3)
  have Fh4 : Fld Z h2 a1 "com/example/incorpus/incorpus/Span" "start" "I" (.int p2) := P2.same W2
  have Eh5 : Exa Z h2 a1 "com/example/incorpus/incorpus/Span" := (P1.wr W2)
  have Fh6 : Fld Z h2 a1 "com/example/incorpus/incorpus/Span" "end" "I" u5 := (P4.other W2 (Or.inr (slot_ne (Or.inr (hw _ (List.mem_of_getElem? (i := 50) rfl))) (Or.inr (hw _ (List.mem_of_getElem? (i := 48) rfl))) (by decide) (t := .int) (t' := .int) (by decide) (by decide))))
  obtain ⟨T7, h7, X7, e7, W7, st7⟩ := putF X2 hx hZ hown (host := "") (Or.inl (hw _ (List.mem_of_getElem? (i := 49) rfl))) Via.refl e2 Fh6 Eh5 (Or.inr ⟨(hw _ (List.mem_of_getElem? (i := 50) rfl)), rfl, hnm⟩) (hw _ (List.mem_of_getElem? (i := 36) rfl)) (ty := .int) (by decide) rfl rfl (g := (mkF m 35 #[.val (.ref a1), .val (.int p2), .val (.int p3)] [(.int p3), (.ref a1)])) rfl rfl (hb hby own_d_prog_42_method_1_35)
  have Kp8 : Keep h0 h7 [a1] := Kp3.wr W7 (Or.inl (List.mem_of_getElem? (i := 0) rfl))
  obtain ⟨Lp7, X7, N7⟩ := own_pack X7 (Fr.snoc X7 N2 P3)
  have Fh9 : Fld Z h7 a1 "com/example/incorpus/incorpus/Span" "end" "I" (.int p3) := Fh6.same W7
  have Eh10 : Exa Z h7 a1 "com/example/incorpus/incorpus/Span" := (Eh5.wr W7)
  have Fh11 : Fld Z h7 a1 "com/example/incorpus/incorpus/Span" "start" "I" (.int p2) := (Fh4.other W7 (Or.inr (slot_ne (Or.inr (hw _ (List.mem_of_getElem? (i := 48) rfl))) (Or.inr (hw _ (List.mem_of_getElem? (i := 50) rfl))) (by decide) (t := .int) (t' := .int) (by decide) (by decide))))
  obtain ⟨fs, hr, hrun, hended, hW, hsame⟩ := X7.leave (v := none) (fun _ => rfl)
  refine ⟨_, _, pre0 _ ?_, hrun, hended, _, _, rfl, ?_, ⟨_, rfl⟩, hW, hsame.mono (by decide) (by decide)⟩
  · show Steps p.tables e below (s₁.setTop (mkF m 0 #[.val (.ref a1), .val (.int p2), .val (.int p3)] [])) _
    refine XS.aloadN X0.here hx rfl (hb hby own_d_prog_42_method_1_0) rfl rfl ?_
    show Steps p.tables e below (s₁.setTop (mkF m 1 #[.val (.ref a1), .val (.int p2), .val (.int p3)] [(.ref a1)])) _
    refine st1.trans ?_
    show Steps p.tables e below (T1.setTop (mkF m 4 #[.val (.ref a1), .val (.int p2), .val (.int p3)] [])) _
    refine XS.iloadN X1.here hx rfl (hb hby own_d_prog_42_method_1_4) rfl ?_
    show Steps p.tables e below (T1.setTop (mkF m 5 #[.val (.ref a1), .val (.int p2), .val (.int p3)] [(.int p2)])) _
    refine XS.ifNo X1.here hx rfl (hb hby own_d_prog_42_method_1_5) rfl ((if0 _ _).trans (flt hc1).1) ?_
    show Steps p.tables e below (T1.setTop (mkF m 8 #[.val (.ref a1), .val (.int p2), .val (.int p3)] [])) _
    refine XS.iloadN X1.here hx rfl (hb hby own_d_prog_42_method_1_8) rfl ?_
    show Steps p.tables e below (T1.setTop (mkF m 9 #[.val (.ref a1), .val (.int p2), .val (.int p3)] [(.int p3)])) _
    refine XS.iloadN X1.here hx rfl (hb hby own_d_prog_42_method_1_9) rfl ?_
    show Steps p.tables e below (T1.setTop (mkF m 10 #[.val (.ref a1), .val (.int p2), .val (.int p3)] [(.int p2), (.int p3)])) _
    refine XS.icmpYes X1.here hx rfl (pc0 := 10) (pc' := 28) rfl (hb hby own_d_prog_42_method_1_10) rfl (flt hc2).2.1 (by decide) (by decide) ?_
    show Steps p.tables e below (T1.setTop (mkF m 28 #[.val (.ref a1), .val (.int p2), .val (.int p3)] [])) _
    refine XS.aloadN X1.here hx rfl (hb hby own_d_prog_42_method_1_28) rfl rfl ?_
    show Steps p.tables e below (T1.setTop (mkF m 29 #[.val (.ref a1), .val (.int p2), .val (.int p3)] [(.ref a1)])) _
    refine XS.iloadN X1.here hx rfl (hb hby own_d_prog_42_method_1_29) rfl ?_
    show Steps p.tables e below (T1.setTop (mkF m 30 #[.val (.ref a1), .val (.int p2), .val (.int p3)] [(.int p2), (.ref a1)])) _
    refine st2 _ ?_
    show Steps p.tables e below (T2.setTop (mkF m 33 #[.val (.ref a1), .val (.int p2), .val (.int p3)] [])) _
    refine XS.aloadN X2.here hx rfl (hb hby own_d_prog_42_method_1_33) rfl rfl ?_
    show Steps p.tables e below (T2.setTop (mkF m 34 #[.val (.ref a1), .val (.int p2), .val (.int p3)] [(.ref a1)])) _
    refine XS.iloadN X2.here hx rfl (hb hby own_d_prog_42_method_1_34) rfl ?_
    show Steps p.tables e below (T2.setTop (mkF m 35 #[.val (.ref a1), .val (.int p2), .val (.int p3)] [(.int p3), (.ref a1)])) _
    refine st7 _ ?_
    show Steps p.tables e below (T7.setTop (mkF m 38 #[.val (.ref a1), .val (.int p2), .val (.int p3)] [])) _
    exact X7.returnOut hx Bd.returns (hb hby own_d_prog_42_method_1_38) hr
  · show own_Qrm_span Z G1 G3 a1 p2 p3 u4 u5 h0 n0 _ T7.heap _
    rw [e7]
    exact ⟨rfl, N7, Kp8, Eh10, Fh11, Fh9⟩
theorem own_d_prog_42_method_2_0 : decode prog_42_method_2_code 0 = .ok (.aload_n 0, 1) := by decide +kernel
theorem own_d_prog_42_method_2_1 : decode prog_42_method_2_code 1 = .ok (.getfield 16, 3) := by decide +kernel
theorem own_d_prog_42_method_2_4 : decode prog_42_method_2_code 4 = .ok (.aload_n 0, 1) := by decide +kernel
theorem own_d_prog_42_method_2_5 : decode prog_42_method_2_code 5 = .ok (.getfield 22, 3) := by decide +kernel
theorem own_d_prog_42_method_2_8 : decode prog_42_method_2_code 8 = .ok (.if_icmp .ne 7, 3) := by decide +kernel
theorem own_d_prog_42_method_2_11 : decode prog_42_method_2_code 11 = .ok (.iconst 1, 1) := by decide +kernel
theorem own_d_prog_42_method_2_12 : decode prog_42_method_2_code 12 = .ok (.goto 4, 3) := by decide +kernel
theorem own_d_prog_42_method_2_16 : decode prog_42_method_2_code 16 = .ok (.ireturn, 1) := by decide +kernel
def own_Qrm_emp1 (Z : State) (G1 : Int32) (G3 : Value) (a1 : Addr) (w2 : Int32) (w3 : Int32) (h0 : Heap) (n0 : Nat) (v : Option Value) (h : Heap) (L : List Loc) : Prop := (v = some (.int (1 : Int32))) ∧ (Fr n0 L) ∧ (h = h0)
theorem own_efrm_emp1 (m : MethodId) (a1 : Addr) : entryFrame m #[(.ref a1)] 1 = mkF m 0 #[.val (.ref a1)] [] := by first | (simp [entryFrame, mkF, argsToLocals, Value.category]; done) | rfl
set_option maxRecDepth 65536 in
set_option maxHeartbeats 40000000 in
theorem own_rm_emp1 (l : Launch) (Z : State) (a0 : Array Value) (hw : ∀ d ∈ tables_1, d.before a0 Z = true) (ws : List Jvm.Cond) (G1 : Int32) (G3 : Value) (gl : own_Glob Z G1 G3) (a1 : Addr) (w2 : Int32) (w3 : Int32) (h0 : Heap) (n0 : Nat) (Z0 : n0 ≤ h0.size) (P1 : Fld Z h0 a1 "com/example/incorpus/incorpus/Span" "start" "I" (.int w2)) (P2 : Fld Z h0 a1 "com/example/incorpus/incorpus/Span" "end" "I" (.int w3)) (hc1 : w2 = w3) :
    MetFree l (⟨"com/example/incorpus/incorpus/Span", "isEmpty", "()Z"⟩ : MethodName) (head1 (Jvm.Cond.code (⟨"com/example/incorpus/incorpus/Span", "isEmpty", "()Z"⟩ : MethodName) prog_42_method_2_code 1 (some .boolean) :: ws) ({ frames := 0, cells := 0, slots := 0, locals := 0 } : Room)) (fun a U => a = #[(.ref a1)] ∧ Z.Warmed39 U.vm ∧ U.heap = h0) (fun _ _ _ _ _ => True) (fun _ U o U' => ∃ v L, o = .returned v ∧ own_Qrm_emp1 Z G1 G3 a1 w2 w3 h0 n0 v U'.heap L ∧ FrameEnd U o U' L ({ frames := 0, cells := 0, slots := 0, locals := 0 } : Room).cells ({ frames := 0, cells := 0, slots := 0, locals := 0 } : Room).slots) := by
  refine MetFree.of_bodySF (plainFor_of_name own_pn4) hisR ?_
  intro p e s m args below meth c s₁ Bd hml0 hP hK
  obtain ⟨rfl, hZ, hh⟩ := hP
  obtain ⟨O_CS, P_CS, O_SI, P_SI⟩ := id gl
  have hx := Bd.exec
  have hby := Bd.bytes
  have hml : c.maxLocals = 1 := hml0
  have hown : s.vm.findClass "com/example/incorpus/incorpus/Span" = some m.cls := findClass_of_methodNamed Bd.named
  have hnm := (name_of_methodNamed Bd.named Bd.method).1
  have X0 : Stand p l e ({ frames := 0, cells := 0, slots := 0, locals := 0 } : Room) s m #[(.ref a1)] below meth c s₁ [] 0 0 := Stand.of_body Bd
  have e0 : s₁.heap = h0 := by rw [← hh, Bd.state]; rfl
  have N0 := Fr.nil n0
  have pre0 : ∀ t, Steps p.tables e below (s₁.setTop (mkF m 0 #[.val (.ref a1)] [])) t → Steps p.tables e below (s₁.setTop (entryFrame m #[(.ref a1)] 1)) t := fun t k => castTop (own_efrm_emp1 m a1) k
  obtain ⟨T1, X1, e1, st1⟩ := getF X0 hx hZ hown (host := "") (Or.inl (hw _ (List.mem_of_getElem? (i := 47) rfl))) Via.refl e0 P1 (g := (mkF m 1 #[.val (.ref a1)] [(.ref a1)])) rfl rfl (hb hby own_d_prog_42_method_2_1)
  obtain ⟨T2, X2, e2, st2⟩ := getF X1 hx hZ hown (host := "") (Or.inl (hw _ (List.mem_of_getElem? (i := 49) rfl))) Via.refl e1 P2 (g := (mkF m 5 #[.val (.ref a1)] [(.ref a1), (.int w2)])) rfl rfl (hb hby own_d_prog_42_method_2_5)
  obtain ⟨fs, hr, hrun, hended, hW, hsame⟩ := X2.leave (v := some (.int (1 : Int32))) (fun h => by rw [Bd.returns] at h; cases h)
  refine ⟨_, _, pre0 _ ?_, hrun, hended, _, _, rfl, ?_, ⟨_, rfl⟩, hW, hsame.mono (by decide) (by decide)⟩
  · show Steps p.tables e below (s₁.setTop (mkF m 0 #[.val (.ref a1)] [])) _
    refine XS.aloadN X0.here hx rfl (hb hby own_d_prog_42_method_2_0) rfl rfl ?_
    show Steps p.tables e below (s₁.setTop (mkF m 1 #[.val (.ref a1)] [(.ref a1)])) _
    refine st1 _ ?_
    show Steps p.tables e below (T1.setTop (mkF m 4 #[.val (.ref a1)] [(.int w2)])) _
    refine XS.aloadN X1.here hx rfl (hb hby own_d_prog_42_method_2_4) rfl rfl ?_
    show Steps p.tables e below (T1.setTop (mkF m 5 #[.val (.ref a1)] [(.ref a1), (.int w2)])) _
    refine st2 _ ?_
    show Steps p.tables e below (T2.setTop (mkF m 8 #[.val (.ref a1)] [(.int w3), (.int w2)])) _
    refine XS.icmpNo X2.here hx rfl (hb hby own_d_prog_42_method_2_8) rfl (teq hc1).2 ?_
    show Steps p.tables e below (T2.setTop (mkF m 11 #[.val (.ref a1)] [])) _
    refine XS.iconst X2.here hx rfl (hb hby own_d_prog_42_method_2_11) ?_
    show Steps p.tables e below (T2.setTop (mkF m 12 #[.val (.ref a1)] [(.int (1 : Int32))])) _
    refine XS.goto X2.here hx rfl (pc0 := 12) (pc' := 16) rfl (hb hby own_d_prog_42_method_2_12) (by decide) (by decide) ?_
    show Steps p.tables e below (T2.setTop (mkF m 16 #[.val (.ref a1)] [(.int (1 : Int32))])) _
    exact retN X2 hx (t := .boolean) Bd.returns (by simp) (hb hby own_d_prog_42_method_2_16) hr
  · show own_Qrm_emp1 Z G1 G3 a1 w2 w3 h0 n0 _ T2.heap _
    rw [e2]
    exact ⟨rfl, N0, rfl⟩
theorem own_d_prog_42_method_2_15 : decode prog_42_method_2_code 15 = .ok (.iconst 0, 1) := by decide +kernel
def own_Qrm_emp0 (Z : State) (G1 : Int32) (G3 : Value) (a1 : Addr) (w2 : Int32) (w3 : Int32) (h0 : Heap) (n0 : Nat) (v : Option Value) (h : Heap) (L : List Loc) : Prop := (v = some (.int (0 : Int32))) ∧ (Fr n0 L) ∧ (h = h0)
theorem own_efrm_emp0 (m : MethodId) (a1 : Addr) : entryFrame m #[(.ref a1)] 1 = mkF m 0 #[.val (.ref a1)] [] := by first | (simp [entryFrame, mkF, argsToLocals, Value.category]; done) | rfl
set_option maxRecDepth 65536 in
set_option maxHeartbeats 40000000 in
theorem own_rm_emp0 (l : Launch) (Z : State) (a0 : Array Value) (hw : ∀ d ∈ tables_1, d.before a0 Z = true) (ws : List Jvm.Cond) (G1 : Int32) (G3 : Value) (gl : own_Glob Z G1 G3) (a1 : Addr) (w2 : Int32) (w3 : Int32) (h0 : Heap) (n0 : Nat) (Z0 : n0 ≤ h0.size) (P1 : Fld Z h0 a1 "com/example/incorpus/incorpus/Span" "start" "I" (.int w2)) (P2 : Fld Z h0 a1 "com/example/incorpus/incorpus/Span" "end" "I" (.int w3)) (hc1 : ¬ (w2 = w3)) :
    MetFree l (⟨"com/example/incorpus/incorpus/Span", "isEmpty", "()Z"⟩ : MethodName) (head1 (Jvm.Cond.code (⟨"com/example/incorpus/incorpus/Span", "isEmpty", "()Z"⟩ : MethodName) prog_42_method_2_code 1 (some .boolean) :: ws) ({ frames := 0, cells := 0, slots := 0, locals := 0 } : Room)) (fun a U => a = #[(.ref a1)] ∧ Z.Warmed39 U.vm ∧ U.heap = h0) (fun _ _ _ _ _ => True) (fun _ U o U' => ∃ v L, o = .returned v ∧ own_Qrm_emp0 Z G1 G3 a1 w2 w3 h0 n0 v U'.heap L ∧ FrameEnd U o U' L ({ frames := 0, cells := 0, slots := 0, locals := 0 } : Room).cells ({ frames := 0, cells := 0, slots := 0, locals := 0 } : Room).slots) := by
  refine MetFree.of_bodySF (plainFor_of_name own_pn4) hisR ?_
  intro p e s m args below meth c s₁ Bd hml0 hP hK
  obtain ⟨rfl, hZ, hh⟩ := hP
  obtain ⟨O_CS, P_CS, O_SI, P_SI⟩ := id gl
  have hx := Bd.exec
  have hby := Bd.bytes
  have hml : c.maxLocals = 1 := hml0
  have hown : s.vm.findClass "com/example/incorpus/incorpus/Span" = some m.cls := findClass_of_methodNamed Bd.named
  have hnm := (name_of_methodNamed Bd.named Bd.method).1
  have X0 : Stand p l e ({ frames := 0, cells := 0, slots := 0, locals := 0 } : Room) s m #[(.ref a1)] below meth c s₁ [] 0 0 := Stand.of_body Bd
  have e0 : s₁.heap = h0 := by rw [← hh, Bd.state]; rfl
  have N0 := Fr.nil n0
  have pre0 : ∀ t, Steps p.tables e below (s₁.setTop (mkF m 0 #[.val (.ref a1)] [])) t → Steps p.tables e below (s₁.setTop (entryFrame m #[(.ref a1)] 1)) t := fun t k => castTop (own_efrm_emp0 m a1) k
  obtain ⟨T1, X1, e1, st1⟩ := getF X0 hx hZ hown (host := "") (Or.inl (hw _ (List.mem_of_getElem? (i := 47) rfl))) Via.refl e0 P1 (g := (mkF m 1 #[.val (.ref a1)] [(.ref a1)])) rfl rfl (hb hby own_d_prog_42_method_2_1)
  obtain ⟨T2, X2, e2, st2⟩ := getF X1 hx hZ hown (host := "") (Or.inl (hw _ (List.mem_of_getElem? (i := 49) rfl))) Via.refl e1 P2 (g := (mkF m 5 #[.val (.ref a1)] [(.ref a1), (.int w2)])) rfl rfl (hb hby own_d_prog_42_method_2_5)
  obtain ⟨fs, hr, hrun, hended, hW, hsame⟩ := X2.leave (v := some (.int (0 : Int32))) (fun h => by rw [Bd.returns] at h; cases h)
  refine ⟨_, _, pre0 _ ?_, hrun, hended, _, _, rfl, ?_, ⟨_, rfl⟩, hW, hsame.mono (by decide) (by decide)⟩
  · show Steps p.tables e below (s₁.setTop (mkF m 0 #[.val (.ref a1)] [])) _
    refine XS.aloadN X0.here hx rfl (hb hby own_d_prog_42_method_2_0) rfl rfl ?_
    show Steps p.tables e below (s₁.setTop (mkF m 1 #[.val (.ref a1)] [(.ref a1)])) _
    refine st1 _ ?_
    show Steps p.tables e below (T1.setTop (mkF m 4 #[.val (.ref a1)] [(.int w2)])) _
    refine XS.aloadN X1.here hx rfl (hb hby own_d_prog_42_method_2_4) rfl rfl ?_
    show Steps p.tables e below (T1.setTop (mkF m 5 #[.val (.ref a1)] [(.ref a1), (.int w2)])) _
    refine st2 _ ?_
    show Steps p.tables e below (T2.setTop (mkF m 8 #[.val (.ref a1)] [(.int w3), (.int w2)])) _
    refine XS.icmpYes X2.here hx rfl (pc0 := 8) (pc' := 15) rfl (hb hby own_d_prog_42_method_2_8) rfl (feq hc1).2 (by decide) (by decide) ?_
    show Steps p.tables e below (T2.setTop (mkF m 15 #[.val (.ref a1)] [])) _
    refine XS.iconst X2.here hx rfl (hb hby own_d_prog_42_method_2_15) ?_
    show Steps p.tables e below (T2.setTop (mkF m 16 #[.val (.ref a1)] [(.int (0 : Int32))])) _
    exact retN X2 hx (t := .boolean) Bd.returns (by simp) (hb hby own_d_prog_42_method_2_16) hr
  · show own_Qrm_emp0 Z G1 G3 a1 w2 w3 h0 n0 _ T2.heap _
    rw [e2]
    exact ⟨rfl, N0, rfl⟩
theorem own_d_prog_42_method_4_0 : decode prog_42_method_4_code 0 = .ok (.aload_n 0, 1) := by decide +kernel
theorem own_d_prog_42_method_4_1 : decode prog_42_method_4_code 1 = .ok (.getfield 16, 3) := by decide +kernel
theorem own_d_prog_42_method_4_4 : decode prog_42_method_4_code 4 = .ok (.istore_n 3, 1) := by decide +kernel
theorem own_d_prog_42_method_4_5 : decode prog_42_method_4_code 5 = .ok (.iload_n 3, 1) := by decide +kernel
theorem own_d_prog_42_method_4_6 : decode prog_42_method_4_code 6 = .ok (.aload_n 0, 1) := by decide +kernel
theorem own_d_prog_42_method_4_7 : decode prog_42_method_4_code 7 = .ok (.getfield 22, 3) := by decide +kernel
theorem own_d_prog_42_method_4_10 : decode prog_42_method_4_code 10 = .ok (.if_icmp .ge 20, 3) := by decide +kernel
theorem own_d_prog_42_method_4_13 : decode prog_42_method_4_code 13 = .ok (.aload_n 2, 1) := by decide +kernel
theorem own_d_prog_42_method_4_14 : decode prog_42_method_4_code 14 = .ok (.iload_n 3, 1) := by decide +kernel
theorem own_d_prog_42_method_4_15 : decode prog_42_method_4_code 15 = .ok (.invokevirtual 41, 3) := by decide +kernel
theorem own_pd5 : parseMethodDescriptor "(I)C" = some ⟨[.int], some .char⟩ := by decide +kernel
theorem own_d_prog_42_method_4_18 : decode prog_42_method_4_code 18 = .ok (.iload_n 1, 1) := by decide +kernel
theorem own_d_prog_42_method_4_19 : decode prog_42_method_4_code 19 = .ok (.if_icmp .ne 5, 3) := by decide +kernel
theorem own_d_prog_42_method_4_22 : decode prog_42_method_4_code 22 = .ok (.iload_n 3, 1) := by decide +kernel
theorem own_d_prog_42_method_4_23 : decode prog_42_method_4_code 23 = .ok (.ireturn, 1) := by decide +kernel
def own_Qrm_ix0 (Z : State) (G1 : Int32) (G3 : Value) (a1 : Addr) (p2 : Int32) (a3 : Addr) (c4 : Int32) (c5 : Int32) (c6 : Int32) (c7 : Int32) (c8 : Int32) (c9 : Int32) (c10 : Int32) (c11 : Int32) (t12 : Addr) (kb13 : ClassId) (w14 : Int32) (h0 : Heap) (n0 : Nat) (v : Option Value) (h : Heap) (L : List Loc) : Prop := (v = some (.int (0 : Int32))) ∧ (Fr n0 L) ∧ (h = h0)
theorem own_efrm_ix0 (m : MethodId) (a1 : Addr) (p2 : Int32) (a3 : Addr) : entryFrame m #[(.ref a1), (.int p2), (.ref a3)] 4 = mkF m 0 #[.val (.ref a1), .val (.int p2), .val (.ref a3), .unset] [] := by first | (simp [entryFrame, mkF, argsToLocals, Value.category]; done) | rfl
set_option maxRecDepth 65536 in
set_option maxHeartbeats 40000000 in
theorem own_rm_ix0 (l : Launch) (Z : State) (a0 : Array Value) (hw : ∀ d ∈ tables_1, d.before a0 Z = true) (ws : List Jvm.Cond) (G1 : Int32) (G3 : Value) (gl : own_Glob Z G1 G3) (a1 : Addr) (p2 : Int32) (a3 : Addr) (c4 : Int32) (c5 : Int32) (c6 : Int32) (c7 : Int32) (c8 : Int32) (c9 : Int32) (c10 : Int32) (c11 : Int32) (t12 : Addr) (kb13 : ClassId) (w14 : Int32) (h0 : Heap) (n0 : Nat) (Z0 : n0 ≤ h0.size) (X00 : Old Z n0 h0) (P1 : Exa Z h0 a3 "java/lang/String") (P2 : Fld Z h0 a3 "java/lang/String" "value" "[B" (.ref t12)) (P3 : Fld Z h0 a3 "java/lang/String" "coder" "B" (.int (0 : Int32))) (P4 : Arv Z h0 t12 kb13 .byte (8 : Int32) ((([c4, c5, c6, c7, c8, c9, c10, c11] : List Int32).map (fun c => c.toInt8.toInt32)).map Value.int) (.int (0 : Int32))) (P5 : ∀ c ∈ ([c4, c5, c6, c7, c8, c9, c10, c11] : List Int32), ¬ c < 0 ∧ ¬ (255 : Int32) < c) (P6 : Fld Z h0 a1 "com/example/incorpus/incorpus/Span" "start" "I" (.int (0 : Int32))) (P7 : Fld Z h0 a1 "com/example/incorpus/incorpus/Span" "end" "I" (.int w14)) (hc1 : (0 : Int32) < w14) (hc2 : c4 = p2) :
    MetFree l (⟨"com/example/incorpus/incorpus/Span", "indexOf", "(CLjava/lang/String;)I"⟩ : MethodName) (head1 (Jvm.Cond.code (⟨"com/example/incorpus/incorpus/Span", "indexOf", "(CLjava/lang/String;)I"⟩ : MethodName) prog_42_method_4_code 4 (some .int) :: ws) ({ frames := 4, cells := 0, slots := 0, locals := 53 } : Room)) (fun a U => a = #[(.ref a1), (.int p2), (.ref a3)] ∧ Z.Warmed39 U.vm ∧ U.heap = h0) (fun _ _ _ _ _ => True) (fun _ U o U' => ∃ v L, o = .returned v ∧ own_Qrm_ix0 Z G1 G3 a1 p2 a3 c4 c5 c6 c7 c8 c9 c10 c11 t12 kb13 w14 h0 n0 v U'.heap L ∧ FrameEnd U o U' L ({ frames := 4, cells := 0, slots := 0, locals := 53 } : Room).cells ({ frames := 4, cells := 0, slots := 0, locals := 53 } : Room).slots) := by
  refine MetFree.of_bodySF (plainFor_of_name own_pn4) hisR ?_
  intro p e s m args below meth c s₁ Bd hml0 hP hK
  obtain ⟨rfl, hZ, hh⟩ := hP
  obtain ⟨O_CS, P_CS, O_SI, P_SI⟩ := id gl
  have hx := Bd.exec
  have hby := Bd.bytes
  have hml : c.maxLocals = 4 := hml0
  have hown : s.vm.findClass "com/example/incorpus/incorpus/Span" = some m.cls := findClass_of_methodNamed Bd.named
  have hnm := (name_of_methodNamed Bd.named Bd.method).1
  have X0 : Stand p l e ({ frames := 4, cells := 0, slots := 0, locals := 53 } : Room) s m #[(.ref a1), (.int p2), (.ref a3)] below meth c s₁ [] 0 0 := Stand.of_body Bd
  have e0 : s₁.heap = h0 := by rw [← hh, Bd.state]; rfl
  have N0 := Fr.nil n0
  have pre0 : ∀ t, Steps p.tables e below (s₁.setTop (mkF m 0 #[.val (.ref a1), .val (.int p2), .val (.ref a3), .unset] [])) t → Steps p.tables e below (s₁.setTop (entryFrame m #[(.ref a1), (.int p2), (.ref a3)] 4)) t := fun t k => castTop (own_efrm_ix0 m a1 p2 a3) k
  obtain ⟨T1, X1, e1, st1⟩ := getF X0 hx hZ hown (host := "") (Or.inl (hw _ (List.mem_of_getElem? (i := 47) rfl))) Via.refl e0 P6 (g := (mkF m 1 #[.val (.ref a1), .val (.int p2), .val (.ref a3), .unset] [(.ref a1)])) rfl rfl (hb hby own_d_prog_42_method_4_1)
  obtain ⟨T2, X2, e2, st2⟩ := getF X1 hx hZ hown (host := "") (Or.inl (hw _ (List.mem_of_getElem? (i := 49) rfl))) Via.refl e1 P7 (g := (mkF m 7 #[.val (.ref a1), .val (.int p2), .val (.ref a3), .val (.int (0 : Int32))] [(.ref a1), (.int (0 : Int32))])) rfl rfl (hb hby own_d_prog_42_method_4_7)
  have cdh3 : StrChars.Road.CodA ([c4, c5, c6, c7, c8, c9, c10, c11] : List Int32) 0 (8 : Int32) ((([c4, c5, c6, c7, c8, c9, c10, c11] : List Int32).map (fun c => c.toInt8.toInt32)).map Value.int) := (StrChars.Road.codOf (cs := ([c4, c5, c6, c7, c8, c9, c10, c11] : List Int32)) (n := 8) rfl (fun c hc => (P5 c hc).2))
  have hws_wordsChN : ∀ d ∈ StrChars.Road.wordsChN, d.before a0 Z = true := fun d hd => hw d (own_hws_wordsChN d hd)
  obtain ⟨cq4, kq4, q4a, q4b, q4c⟩ := isOf hZ e2 P1
  obtain ⟨_, _, ⟨T4, L4, k4, n4⟩, -, X4, ⟨Lc4, hQ4, l4, y4, z4⟩, st4⟩ := X2.virtualBack hx (y := (⟨"java/lang/String", "charAt", "(I)C"⟩ : MethodName)) (z := (⟨"java/lang/String", "charAt", "(I)C"⟩ : MethodName)) hown (mvT hZ (hw _ (List.mem_of_getElem? (i := 83) rfl))) (mvT hZ (hw _ (List.mem_of_getElem? (i := 57) rfl))) (notFace_of_selects (args := #[]) (mvT hZ (hw _ (List.mem_of_getElem? (i := 59) rfl)))) (mvT hZ (hw _ (List.mem_of_getElem? (i := 59) rfl))) (mvT hZ (hw _ (List.mem_of_getElem? (i := 58) rfl))) (by decide) (StrChars.Road.chN (W := 0) hZ hws_wordsChN (kI := 4) (hw _ (List.mem_of_getElem? (i := 7) rfl)) P1 P2 P3 P4 cdh3 (own_up _ P5) (O_CS.ext X00.2) P_CS (O_SI.ext X00.2) P_SI (Nat.le_of_ble_eq_true rfl) (i := 0) (Nat.le_of_ble_eq_true rfl) (j := (0 : Int32)) rfl (by decide) (by decide)) q4a q4c (g := (mkF m 15 #[.val (.ref a1), .val (.int p2), .val (.ref a3), .val (.int (0 : Int32))] [(.int (0 : Int32)), (.ref a3)])) rfl (by rw [hml]; rfl) (Steps.refl _) (argsL := [(.int (0 : Int32))]) (rest := []) (lenOf own_pd5 rfl) rfl (by show 2 * 0 + _ ≤ _; exact Nat.le_of_eq rfl) (hb hby own_d_prog_42_method_4_15) (fun _ _ => ⟨rfl, e2, (by decide : 0 + 0 ≤ _), (by decide : 0 + 0 ≤ _)⟩)
  dsimp only [Pt.U, Pt.locs, Pt.cells, Pt.slots] at X4 l4 y4 z4 st4 hQ4
  subst y4 z4
  obtain ⟨rfl, rfl, e4⟩ := hQ4
  have N4 : Fr n0 L4 := by rw [l4]; exact Fr.app N0 (Fr.nil n0)
  obtain ⟨fs, hr, hrun, hended, hW, hsame⟩ := X4.leave (v := some (.int (0 : Int32))) (fun h => by rw [Bd.returns] at h; cases h)
  refine ⟨_, _, pre0 _ ?_, hrun, hended, _, _, rfl, ?_, ⟨_, rfl⟩, hW, hsame.mono (by decide) (by decide)⟩
  · show Steps p.tables e below (s₁.setTop (mkF m 0 #[.val (.ref a1), .val (.int p2), .val (.ref a3), .unset] [])) _
    refine XS.aloadN X0.here hx rfl (hb hby own_d_prog_42_method_4_0) rfl rfl ?_
    show Steps p.tables e below (s₁.setTop (mkF m 1 #[.val (.ref a1), .val (.int p2), .val (.ref a3), .unset] [(.ref a1)])) _
    refine st1 _ ?_
    show Steps p.tables e below (T1.setTop (mkF m 4 #[.val (.ref a1), .val (.int p2), .val (.ref a3), .unset] [(.int (0 : Int32))])) _
    refine XS.istoreN X1.here hx rfl (hb hby own_d_prog_42_method_4_4) rfl (l' := #[.val (.ref a1), .val (.int p2), .val (.ref a3), .val (.int (0 : Int32))]) rfl ?_
    show Steps p.tables e below (T1.setTop (mkF m 5 #[.val (.ref a1), .val (.int p2), .val (.ref a3), .val (.int (0 : Int32))] [])) _
    refine XS.iloadN X1.here hx rfl (hb hby own_d_prog_42_method_4_5) rfl ?_
    show Steps p.tables e below (T1.setTop (mkF m 6 #[.val (.ref a1), .val (.int p2), .val (.ref a3), .val (.int (0 : Int32))] [(.int (0 : Int32))])) _
    refine XS.aloadN X1.here hx rfl (hb hby own_d_prog_42_method_4_6) rfl rfl ?_
    show Steps p.tables e below (T1.setTop (mkF m 7 #[.val (.ref a1), .val (.int p2), .val (.ref a3), .val (.int (0 : Int32))] [(.ref a1), (.int (0 : Int32))])) _
    refine st2 _ ?_
    show Steps p.tables e below (T2.setTop (mkF m 10 #[.val (.ref a1), .val (.int p2), .val (.ref a3), .val (.int (0 : Int32))] [(.int w14), (.int (0 : Int32))])) _
    refine XS.icmpNo X2.here hx rfl (hb hby own_d_prog_42_method_4_10) rfl (tlt hc1).2.1 ?_
    show Steps p.tables e below (T2.setTop (mkF m 13 #[.val (.ref a1), .val (.int p2), .val (.ref a3), .val (.int (0 : Int32))] [])) _
    refine XS.aloadN X2.here hx rfl (hb hby own_d_prog_42_method_4_13) rfl rfl ?_
    show Steps p.tables e below (T2.setTop (mkF m 14 #[.val (.ref a1), .val (.int p2), .val (.ref a3), .val (.int (0 : Int32))] [(.ref a3)])) _
    refine XS.iloadN X2.here hx rfl (hb hby own_d_prog_42_method_4_14) rfl ?_
    show Steps p.tables e below (T2.setTop (mkF m 15 #[.val (.ref a1), .val (.int p2), .val (.ref a3), .val (.int (0 : Int32))] [(.int (0 : Int32)), (.ref a3)])) _
    refine st4.trans ?_
    show Steps p.tables e below (T4.setTop (mkF m 18 #[.val (.ref a1), .val (.int p2), .val (.ref a3), .val (.int (0 : Int32))] [(.int c4)])) _
    refine XS.iloadN X4.here hx rfl (hb hby own_d_prog_42_method_4_18) rfl ?_
    show Steps p.tables e below (T4.setTop (mkF m 19 #[.val (.ref a1), .val (.int p2), .val (.ref a3), .val (.int (0 : Int32))] [(.int p2), (.int c4)])) _
    refine XS.icmpNo X4.here hx rfl (hb hby own_d_prog_42_method_4_19) rfl (teq hc2).2 ?_
    show Steps p.tables e below (T4.setTop (mkF m 22 #[.val (.ref a1), .val (.int p2), .val (.ref a3), .val (.int (0 : Int32))] [])) _
    refine XS.iloadN X4.here hx rfl (hb hby own_d_prog_42_method_4_22) rfl ?_
    show Steps p.tables e below (T4.setTop (mkF m 23 #[.val (.ref a1), .val (.int p2), .val (.ref a3), .val (.int (0 : Int32))] [(.int (0 : Int32))])) _
    exact retI X4 hx Bd.returns (hb hby own_d_prog_42_method_4_23) hr
  · show own_Qrm_ix0 Z G1 G3 a1 p2 a3 c4 c5 c6 c7 c8 c9 c10 c11 t12 kb13 w14 h0 n0 _ T4.heap _
    rw [e4]
    exact ⟨rfl, N4, rfl⟩
def own_Qrm_ix1 (Z : State) (G1 : Int32) (G3 : Value) (a1 : Addr) (p2 : Int32) (a3 : Addr) (c4 : Int32) (c5 : Int32) (c6 : Int32) (c7 : Int32) (c8 : Int32) (c9 : Int32) (c10 : Int32) (c11 : Int32) (t12 : Addr) (kb13 : ClassId) (w14 : Int32) (h0 : Heap) (n0 : Nat) (v : Option Value) (h : Heap) (L : List Loc) : Prop := (v = some (.int (1 : Int32))) ∧ (Fr n0 L) ∧ (h = h0)
theorem own_efrm_ix1 (m : MethodId) (a1 : Addr) (p2 : Int32) (a3 : Addr) : entryFrame m #[(.ref a1), (.int p2), (.ref a3)] 4 = mkF m 0 #[.val (.ref a1), .val (.int p2), .val (.ref a3), .unset] [] := by first | (simp [entryFrame, mkF, argsToLocals, Value.category]; done) | rfl
set_option maxRecDepth 65536 in
set_option maxHeartbeats 40000000 in
theorem own_rm_ix1 (l : Launch) (Z : State) (a0 : Array Value) (hw : ∀ d ∈ tables_1, d.before a0 Z = true) (ws : List Jvm.Cond) (G1 : Int32) (G3 : Value) (gl : own_Glob Z G1 G3) (a1 : Addr) (p2 : Int32) (a3 : Addr) (c4 : Int32) (c5 : Int32) (c6 : Int32) (c7 : Int32) (c8 : Int32) (c9 : Int32) (c10 : Int32) (c11 : Int32) (t12 : Addr) (kb13 : ClassId) (w14 : Int32) (h0 : Heap) (n0 : Nat) (Z0 : n0 ≤ h0.size) (X00 : Old Z n0 h0) (P1 : Exa Z h0 a3 "java/lang/String") (P2 : Fld Z h0 a3 "java/lang/String" "value" "[B" (.ref t12)) (P3 : Fld Z h0 a3 "java/lang/String" "coder" "B" (.int (0 : Int32))) (P4 : Arv Z h0 t12 kb13 .byte (8 : Int32) ((([c4, c5, c6, c7, c8, c9, c10, c11] : List Int32).map (fun c => c.toInt8.toInt32)).map Value.int) (.int (0 : Int32))) (P5 : ∀ c ∈ ([c4, c5, c6, c7, c8, c9, c10, c11] : List Int32), ¬ c < 0 ∧ ¬ (255 : Int32) < c) (P6 : Fld Z h0 a1 "com/example/incorpus/incorpus/Span" "start" "I" (.int (1 : Int32))) (P7 : Fld Z h0 a1 "com/example/incorpus/incorpus/Span" "end" "I" (.int w14)) (hc1 : (1 : Int32) < w14) (hc2 : c5 = p2) :
    MetFree l (⟨"com/example/incorpus/incorpus/Span", "indexOf", "(CLjava/lang/String;)I"⟩ : MethodName) (head1 (Jvm.Cond.code (⟨"com/example/incorpus/incorpus/Span", "indexOf", "(CLjava/lang/String;)I"⟩ : MethodName) prog_42_method_4_code 4 (some .int) :: ws) ({ frames := 4, cells := 0, slots := 0, locals := 53 } : Room)) (fun a U => a = #[(.ref a1), (.int p2), (.ref a3)] ∧ Z.Warmed39 U.vm ∧ U.heap = h0) (fun _ _ _ _ _ => True) (fun _ U o U' => ∃ v L, o = .returned v ∧ own_Qrm_ix1 Z G1 G3 a1 p2 a3 c4 c5 c6 c7 c8 c9 c10 c11 t12 kb13 w14 h0 n0 v U'.heap L ∧ FrameEnd U o U' L ({ frames := 4, cells := 0, slots := 0, locals := 53 } : Room).cells ({ frames := 4, cells := 0, slots := 0, locals := 53 } : Room).slots) := by
  refine MetFree.of_bodySF (plainFor_of_name own_pn4) hisR ?_
  intro p e s m args below meth c s₁ Bd hml0 hP hK
  obtain ⟨rfl, hZ, hh⟩ := hP
  obtain ⟨O_CS, P_CS, O_SI, P_SI⟩ := id gl
  have hx := Bd.exec
  have hby := Bd.bytes
  have hml : c.maxLocals = 4 := hml0
  have hown : s.vm.findClass "com/example/incorpus/incorpus/Span" = some m.cls := findClass_of_methodNamed Bd.named
  have hnm := (name_of_methodNamed Bd.named Bd.method).1
  have X0 : Stand p l e ({ frames := 4, cells := 0, slots := 0, locals := 53 } : Room) s m #[(.ref a1), (.int p2), (.ref a3)] below meth c s₁ [] 0 0 := Stand.of_body Bd
  have e0 : s₁.heap = h0 := by rw [← hh, Bd.state]; rfl
  have N0 := Fr.nil n0
  have pre0 : ∀ t, Steps p.tables e below (s₁.setTop (mkF m 0 #[.val (.ref a1), .val (.int p2), .val (.ref a3), .unset] [])) t → Steps p.tables e below (s₁.setTop (entryFrame m #[(.ref a1), (.int p2), (.ref a3)] 4)) t := fun t k => castTop (own_efrm_ix1 m a1 p2 a3) k
  obtain ⟨T1, X1, e1, st1⟩ := getF X0 hx hZ hown (host := "") (Or.inl (hw _ (List.mem_of_getElem? (i := 47) rfl))) Via.refl e0 P6 (g := (mkF m 1 #[.val (.ref a1), .val (.int p2), .val (.ref a3), .unset] [(.ref a1)])) rfl rfl (hb hby own_d_prog_42_method_4_1)
  obtain ⟨T2, X2, e2, st2⟩ := getF X1 hx hZ hown (host := "") (Or.inl (hw _ (List.mem_of_getElem? (i := 49) rfl))) Via.refl e1 P7 (g := (mkF m 7 #[.val (.ref a1), .val (.int p2), .val (.ref a3), .val (.int (1 : Int32))] [(.ref a1), (.int (1 : Int32))])) rfl rfl (hb hby own_d_prog_42_method_4_7)
  have cdh3 : StrChars.Road.CodA ([c4, c5, c6, c7, c8, c9, c10, c11] : List Int32) 0 (8 : Int32) ((([c4, c5, c6, c7, c8, c9, c10, c11] : List Int32).map (fun c => c.toInt8.toInt32)).map Value.int) := (StrChars.Road.codOf (cs := ([c4, c5, c6, c7, c8, c9, c10, c11] : List Int32)) (n := 8) rfl (fun c hc => (P5 c hc).2))
  have hws_wordsChN : ∀ d ∈ StrChars.Road.wordsChN, d.before a0 Z = true := fun d hd => hw d (own_hws_wordsChN d hd)
  obtain ⟨cq4, kq4, q4a, q4b, q4c⟩ := isOf hZ e2 P1
  obtain ⟨_, _, ⟨T4, L4, k4, n4⟩, -, X4, ⟨Lc4, hQ4, l4, y4, z4⟩, st4⟩ := X2.virtualBack hx (y := (⟨"java/lang/String", "charAt", "(I)C"⟩ : MethodName)) (z := (⟨"java/lang/String", "charAt", "(I)C"⟩ : MethodName)) hown (mvT hZ (hw _ (List.mem_of_getElem? (i := 83) rfl))) (mvT hZ (hw _ (List.mem_of_getElem? (i := 57) rfl))) (notFace_of_selects (args := #[]) (mvT hZ (hw _ (List.mem_of_getElem? (i := 59) rfl)))) (mvT hZ (hw _ (List.mem_of_getElem? (i := 59) rfl))) (mvT hZ (hw _ (List.mem_of_getElem? (i := 58) rfl))) (by decide) (StrChars.Road.chN (W := 0) hZ hws_wordsChN (kI := 4) (hw _ (List.mem_of_getElem? (i := 7) rfl)) P1 P2 P3 P4 cdh3 (own_up _ P5) (O_CS.ext X00.2) P_CS (O_SI.ext X00.2) P_SI (Nat.le_of_ble_eq_true rfl) (i := 1) (Nat.le_of_ble_eq_true rfl) (j := (1 : Int32)) rfl (by decide) (by decide)) q4a q4c (g := (mkF m 15 #[.val (.ref a1), .val (.int p2), .val (.ref a3), .val (.int (1 : Int32))] [(.int (1 : Int32)), (.ref a3)])) rfl (by rw [hml]; rfl) (Steps.refl _) (argsL := [(.int (1 : Int32))]) (rest := []) (lenOf own_pd5 rfl) rfl (by show 2 * 0 + _ ≤ _; exact Nat.le_of_eq rfl) (hb hby own_d_prog_42_method_4_15) (fun _ _ => ⟨rfl, e2, (by decide : 0 + 0 ≤ _), (by decide : 0 + 0 ≤ _)⟩)
  dsimp only [Pt.U, Pt.locs, Pt.cells, Pt.slots] at X4 l4 y4 z4 st4 hQ4
  subst y4 z4
  obtain ⟨rfl, rfl, e4⟩ := hQ4
  have N4 : Fr n0 L4 := by rw [l4]; exact Fr.app N0 (Fr.nil n0)
  obtain ⟨fs, hr, hrun, hended, hW, hsame⟩ := X4.leave (v := some (.int (1 : Int32))) (fun h => by rw [Bd.returns] at h; cases h)
  refine ⟨_, _, pre0 _ ?_, hrun, hended, _, _, rfl, ?_, ⟨_, rfl⟩, hW, hsame.mono (by decide) (by decide)⟩
  · show Steps p.tables e below (s₁.setTop (mkF m 0 #[.val (.ref a1), .val (.int p2), .val (.ref a3), .unset] [])) _
    refine XS.aloadN X0.here hx rfl (hb hby own_d_prog_42_method_4_0) rfl rfl ?_
    show Steps p.tables e below (s₁.setTop (mkF m 1 #[.val (.ref a1), .val (.int p2), .val (.ref a3), .unset] [(.ref a1)])) _
    refine st1 _ ?_
    show Steps p.tables e below (T1.setTop (mkF m 4 #[.val (.ref a1), .val (.int p2), .val (.ref a3), .unset] [(.int (1 : Int32))])) _
    refine XS.istoreN X1.here hx rfl (hb hby own_d_prog_42_method_4_4) rfl (l' := #[.val (.ref a1), .val (.int p2), .val (.ref a3), .val (.int (1 : Int32))]) rfl ?_
    show Steps p.tables e below (T1.setTop (mkF m 5 #[.val (.ref a1), .val (.int p2), .val (.ref a3), .val (.int (1 : Int32))] [])) _
    refine XS.iloadN X1.here hx rfl (hb hby own_d_prog_42_method_4_5) rfl ?_
    show Steps p.tables e below (T1.setTop (mkF m 6 #[.val (.ref a1), .val (.int p2), .val (.ref a3), .val (.int (1 : Int32))] [(.int (1 : Int32))])) _
    refine XS.aloadN X1.here hx rfl (hb hby own_d_prog_42_method_4_6) rfl rfl ?_
    show Steps p.tables e below (T1.setTop (mkF m 7 #[.val (.ref a1), .val (.int p2), .val (.ref a3), .val (.int (1 : Int32))] [(.ref a1), (.int (1 : Int32))])) _
    refine st2 _ ?_
    show Steps p.tables e below (T2.setTop (mkF m 10 #[.val (.ref a1), .val (.int p2), .val (.ref a3), .val (.int (1 : Int32))] [(.int w14), (.int (1 : Int32))])) _
    refine XS.icmpNo X2.here hx rfl (hb hby own_d_prog_42_method_4_10) rfl (tlt hc1).2.1 ?_
    show Steps p.tables e below (T2.setTop (mkF m 13 #[.val (.ref a1), .val (.int p2), .val (.ref a3), .val (.int (1 : Int32))] [])) _
    refine XS.aloadN X2.here hx rfl (hb hby own_d_prog_42_method_4_13) rfl rfl ?_
    show Steps p.tables e below (T2.setTop (mkF m 14 #[.val (.ref a1), .val (.int p2), .val (.ref a3), .val (.int (1 : Int32))] [(.ref a3)])) _
    refine XS.iloadN X2.here hx rfl (hb hby own_d_prog_42_method_4_14) rfl ?_
    show Steps p.tables e below (T2.setTop (mkF m 15 #[.val (.ref a1), .val (.int p2), .val (.ref a3), .val (.int (1 : Int32))] [(.int (1 : Int32)), (.ref a3)])) _
    refine st4.trans ?_
    show Steps p.tables e below (T4.setTop (mkF m 18 #[.val (.ref a1), .val (.int p2), .val (.ref a3), .val (.int (1 : Int32))] [(.int c5)])) _
    refine XS.iloadN X4.here hx rfl (hb hby own_d_prog_42_method_4_18) rfl ?_
    show Steps p.tables e below (T4.setTop (mkF m 19 #[.val (.ref a1), .val (.int p2), .val (.ref a3), .val (.int (1 : Int32))] [(.int p2), (.int c5)])) _
    refine XS.icmpNo X4.here hx rfl (hb hby own_d_prog_42_method_4_19) rfl (teq hc2).2 ?_
    show Steps p.tables e below (T4.setTop (mkF m 22 #[.val (.ref a1), .val (.int p2), .val (.ref a3), .val (.int (1 : Int32))] [])) _
    refine XS.iloadN X4.here hx rfl (hb hby own_d_prog_42_method_4_22) rfl ?_
    show Steps p.tables e below (T4.setTop (mkF m 23 #[.val (.ref a1), .val (.int p2), .val (.ref a3), .val (.int (1 : Int32))] [(.int (1 : Int32))])) _
    exact retI X4 hx Bd.returns (hb hby own_d_prog_42_method_4_23) hr
  · show own_Qrm_ix1 Z G1 G3 a1 p2 a3 c4 c5 c6 c7 c8 c9 c10 c11 t12 kb13 w14 h0 n0 _ T4.heap _
    rw [e4]
    exact ⟨rfl, N4, rfl⟩
def own_Qrm_ix2 (Z : State) (G1 : Int32) (G3 : Value) (a1 : Addr) (p2 : Int32) (a3 : Addr) (c4 : Int32) (c5 : Int32) (c6 : Int32) (c7 : Int32) (c8 : Int32) (c9 : Int32) (c10 : Int32) (c11 : Int32) (t12 : Addr) (kb13 : ClassId) (w14 : Int32) (h0 : Heap) (n0 : Nat) (v : Option Value) (h : Heap) (L : List Loc) : Prop := (v = some (.int (2 : Int32))) ∧ (Fr n0 L) ∧ (h = h0)
theorem own_efrm_ix2 (m : MethodId) (a1 : Addr) (p2 : Int32) (a3 : Addr) : entryFrame m #[(.ref a1), (.int p2), (.ref a3)] 4 = mkF m 0 #[.val (.ref a1), .val (.int p2), .val (.ref a3), .unset] [] := by first | (simp [entryFrame, mkF, argsToLocals, Value.category]; done) | rfl
set_option maxRecDepth 65536 in
set_option maxHeartbeats 40000000 in
theorem own_rm_ix2 (l : Launch) (Z : State) (a0 : Array Value) (hw : ∀ d ∈ tables_1, d.before a0 Z = true) (ws : List Jvm.Cond) (G1 : Int32) (G3 : Value) (gl : own_Glob Z G1 G3) (a1 : Addr) (p2 : Int32) (a3 : Addr) (c4 : Int32) (c5 : Int32) (c6 : Int32) (c7 : Int32) (c8 : Int32) (c9 : Int32) (c10 : Int32) (c11 : Int32) (t12 : Addr) (kb13 : ClassId) (w14 : Int32) (h0 : Heap) (n0 : Nat) (Z0 : n0 ≤ h0.size) (X00 : Old Z n0 h0) (P1 : Exa Z h0 a3 "java/lang/String") (P2 : Fld Z h0 a3 "java/lang/String" "value" "[B" (.ref t12)) (P3 : Fld Z h0 a3 "java/lang/String" "coder" "B" (.int (0 : Int32))) (P4 : Arv Z h0 t12 kb13 .byte (8 : Int32) ((([c4, c5, c6, c7, c8, c9, c10, c11] : List Int32).map (fun c => c.toInt8.toInt32)).map Value.int) (.int (0 : Int32))) (P5 : ∀ c ∈ ([c4, c5, c6, c7, c8, c9, c10, c11] : List Int32), ¬ c < 0 ∧ ¬ (255 : Int32) < c) (P6 : Fld Z h0 a1 "com/example/incorpus/incorpus/Span" "start" "I" (.int (2 : Int32))) (P7 : Fld Z h0 a1 "com/example/incorpus/incorpus/Span" "end" "I" (.int w14)) (hc1 : (2 : Int32) < w14) (hc2 : c6 = p2) :
    MetFree l (⟨"com/example/incorpus/incorpus/Span", "indexOf", "(CLjava/lang/String;)I"⟩ : MethodName) (head1 (Jvm.Cond.code (⟨"com/example/incorpus/incorpus/Span", "indexOf", "(CLjava/lang/String;)I"⟩ : MethodName) prog_42_method_4_code 4 (some .int) :: ws) ({ frames := 4, cells := 0, slots := 0, locals := 53 } : Room)) (fun a U => a = #[(.ref a1), (.int p2), (.ref a3)] ∧ Z.Warmed39 U.vm ∧ U.heap = h0) (fun _ _ _ _ _ => True) (fun _ U o U' => ∃ v L, o = .returned v ∧ own_Qrm_ix2 Z G1 G3 a1 p2 a3 c4 c5 c6 c7 c8 c9 c10 c11 t12 kb13 w14 h0 n0 v U'.heap L ∧ FrameEnd U o U' L ({ frames := 4, cells := 0, slots := 0, locals := 53 } : Room).cells ({ frames := 4, cells := 0, slots := 0, locals := 53 } : Room).slots) := by
  refine MetFree.of_bodySF (plainFor_of_name own_pn4) hisR ?_
  intro p e s m args below meth c s₁ Bd hml0 hP hK
  obtain ⟨rfl, hZ, hh⟩ := hP
  obtain ⟨O_CS, P_CS, O_SI, P_SI⟩ := id gl
  have hx := Bd.exec
  have hby := Bd.bytes
  have hml : c.maxLocals = 4 := hml0
  have hown : s.vm.findClass "com/example/incorpus/incorpus/Span" = some m.cls := findClass_of_methodNamed Bd.named
  have hnm := (name_of_methodNamed Bd.named Bd.method).1
  have X0 : Stand p l e ({ frames := 4, cells := 0, slots := 0, locals := 53 } : Room) s m #[(.ref a1), (.int p2), (.ref a3)] below meth c s₁ [] 0 0 := Stand.of_body Bd
  have e0 : s₁.heap = h0 := by rw [← hh, Bd.state]; rfl
  have N0 := Fr.nil n0
  have pre0 : ∀ t, Steps p.tables e below (s₁.setTop (mkF m 0 #[.val (.ref a1), .val (.int p2), .val (.ref a3), .unset] [])) t → Steps p.tables e below (s₁.setTop (entryFrame m #[(.ref a1), (.int p2), (.ref a3)] 4)) t := fun t k => castTop (own_efrm_ix2 m a1 p2 a3) k
  obtain ⟨T1, X1, e1, st1⟩ := getF X0 hx hZ hown (host := "") (Or.inl (hw _ (List.mem_of_getElem? (i := 47) rfl))) Via.refl e0 P6 (g := (mkF m 1 #[.val (.ref a1), .val (.int p2), .val (.ref a3), .unset] [(.ref a1)])) rfl rfl (hb hby own_d_prog_42_method_4_1)
  obtain ⟨T2, X2, e2, st2⟩ := getF X1 hx hZ hown (host := "") (Or.inl (hw _ (List.mem_of_getElem? (i := 49) rfl))) Via.refl e1 P7 (g := (mkF m 7 #[.val (.ref a1), .val (.int p2), .val (.ref a3), .val (.int (2 : Int32))] [(.ref a1), (.int (2 : Int32))])) rfl rfl (hb hby own_d_prog_42_method_4_7)
  have cdh3 : StrChars.Road.CodA ([c4, c5, c6, c7, c8, c9, c10, c11] : List Int32) 0 (8 : Int32) ((([c4, c5, c6, c7, c8, c9, c10, c11] : List Int32).map (fun c => c.toInt8.toInt32)).map Value.int) := (StrChars.Road.codOf (cs := ([c4, c5, c6, c7, c8, c9, c10, c11] : List Int32)) (n := 8) rfl (fun c hc => (P5 c hc).2))
  have hws_wordsChN : ∀ d ∈ StrChars.Road.wordsChN, d.before a0 Z = true := fun d hd => hw d (own_hws_wordsChN d hd)
  obtain ⟨cq4, kq4, q4a, q4b, q4c⟩ := isOf hZ e2 P1
  obtain ⟨_, _, ⟨T4, L4, k4, n4⟩, -, X4, ⟨Lc4, hQ4, l4, y4, z4⟩, st4⟩ := X2.virtualBack hx (y := (⟨"java/lang/String", "charAt", "(I)C"⟩ : MethodName)) (z := (⟨"java/lang/String", "charAt", "(I)C"⟩ : MethodName)) hown (mvT hZ (hw _ (List.mem_of_getElem? (i := 83) rfl))) (mvT hZ (hw _ (List.mem_of_getElem? (i := 57) rfl))) (notFace_of_selects (args := #[]) (mvT hZ (hw _ (List.mem_of_getElem? (i := 59) rfl)))) (mvT hZ (hw _ (List.mem_of_getElem? (i := 59) rfl))) (mvT hZ (hw _ (List.mem_of_getElem? (i := 58) rfl))) (by decide) (StrChars.Road.chN (W := 0) hZ hws_wordsChN (kI := 4) (hw _ (List.mem_of_getElem? (i := 7) rfl)) P1 P2 P3 P4 cdh3 (own_up _ P5) (O_CS.ext X00.2) P_CS (O_SI.ext X00.2) P_SI (Nat.le_of_ble_eq_true rfl) (i := 2) (Nat.le_of_ble_eq_true rfl) (j := (2 : Int32)) rfl (by decide) (by decide)) q4a q4c (g := (mkF m 15 #[.val (.ref a1), .val (.int p2), .val (.ref a3), .val (.int (2 : Int32))] [(.int (2 : Int32)), (.ref a3)])) rfl (by rw [hml]; rfl) (Steps.refl _) (argsL := [(.int (2 : Int32))]) (rest := []) (lenOf own_pd5 rfl) rfl (by show 2 * 0 + _ ≤ _; exact Nat.le_of_eq rfl) (hb hby own_d_prog_42_method_4_15) (fun _ _ => ⟨rfl, e2, (by decide : 0 + 0 ≤ _), (by decide : 0 + 0 ≤ _)⟩)
  dsimp only [Pt.U, Pt.locs, Pt.cells, Pt.slots] at X4 l4 y4 z4 st4 hQ4
  subst y4 z4
  obtain ⟨rfl, rfl, e4⟩ := hQ4
  have N4 : Fr n0 L4 := by rw [l4]; exact Fr.app N0 (Fr.nil n0)
  obtain ⟨fs, hr, hrun, hended, hW, hsame⟩ := X4.leave (v := some (.int (2 : Int32))) (fun h => by rw [Bd.returns] at h; cases h)
  refine ⟨_, _, pre0 _ ?_, hrun, hended, _, _, rfl, ?_, ⟨_, rfl⟩, hW, hsame.mono (by decide) (by decide)⟩
  · show Steps p.tables e below (s₁.setTop (mkF m 0 #[.val (.ref a1), .val (.int p2), .val (.ref a3), .unset] [])) _
    refine XS.aloadN X0.here hx rfl (hb hby own_d_prog_42_method_4_0) rfl rfl ?_
    show Steps p.tables e below (s₁.setTop (mkF m 1 #[.val (.ref a1), .val (.int p2), .val (.ref a3), .unset] [(.ref a1)])) _
    refine st1 _ ?_
    show Steps p.tables e below (T1.setTop (mkF m 4 #[.val (.ref a1), .val (.int p2), .val (.ref a3), .unset] [(.int (2 : Int32))])) _
    refine XS.istoreN X1.here hx rfl (hb hby own_d_prog_42_method_4_4) rfl (l' := #[.val (.ref a1), .val (.int p2), .val (.ref a3), .val (.int (2 : Int32))]) rfl ?_
    show Steps p.tables e below (T1.setTop (mkF m 5 #[.val (.ref a1), .val (.int p2), .val (.ref a3), .val (.int (2 : Int32))] [])) _
    refine XS.iloadN X1.here hx rfl (hb hby own_d_prog_42_method_4_5) rfl ?_
    show Steps p.tables e below (T1.setTop (mkF m 6 #[.val (.ref a1), .val (.int p2), .val (.ref a3), .val (.int (2 : Int32))] [(.int (2 : Int32))])) _
    refine XS.aloadN X1.here hx rfl (hb hby own_d_prog_42_method_4_6) rfl rfl ?_
    show Steps p.tables e below (T1.setTop (mkF m 7 #[.val (.ref a1), .val (.int p2), .val (.ref a3), .val (.int (2 : Int32))] [(.ref a1), (.int (2 : Int32))])) _
    refine st2 _ ?_
    show Steps p.tables e below (T2.setTop (mkF m 10 #[.val (.ref a1), .val (.int p2), .val (.ref a3), .val (.int (2 : Int32))] [(.int w14), (.int (2 : Int32))])) _
    refine XS.icmpNo X2.here hx rfl (hb hby own_d_prog_42_method_4_10) rfl (tlt hc1).2.1 ?_
    show Steps p.tables e below (T2.setTop (mkF m 13 #[.val (.ref a1), .val (.int p2), .val (.ref a3), .val (.int (2 : Int32))] [])) _
    refine XS.aloadN X2.here hx rfl (hb hby own_d_prog_42_method_4_13) rfl rfl ?_
    show Steps p.tables e below (T2.setTop (mkF m 14 #[.val (.ref a1), .val (.int p2), .val (.ref a3), .val (.int (2 : Int32))] [(.ref a3)])) _
    refine XS.iloadN X2.here hx rfl (hb hby own_d_prog_42_method_4_14) rfl ?_
    show Steps p.tables e below (T2.setTop (mkF m 15 #[.val (.ref a1), .val (.int p2), .val (.ref a3), .val (.int (2 : Int32))] [(.int (2 : Int32)), (.ref a3)])) _
    refine st4.trans ?_
    show Steps p.tables e below (T4.setTop (mkF m 18 #[.val (.ref a1), .val (.int p2), .val (.ref a3), .val (.int (2 : Int32))] [(.int c6)])) _
    refine XS.iloadN X4.here hx rfl (hb hby own_d_prog_42_method_4_18) rfl ?_
    show Steps p.tables e below (T4.setTop (mkF m 19 #[.val (.ref a1), .val (.int p2), .val (.ref a3), .val (.int (2 : Int32))] [(.int p2), (.int c6)])) _
    refine XS.icmpNo X4.here hx rfl (hb hby own_d_prog_42_method_4_19) rfl (teq hc2).2 ?_
    show Steps p.tables e below (T4.setTop (mkF m 22 #[.val (.ref a1), .val (.int p2), .val (.ref a3), .val (.int (2 : Int32))] [])) _
    refine XS.iloadN X4.here hx rfl (hb hby own_d_prog_42_method_4_22) rfl ?_
    show Steps p.tables e below (T4.setTop (mkF m 23 #[.val (.ref a1), .val (.int p2), .val (.ref a3), .val (.int (2 : Int32))] [(.int (2 : Int32))])) _
    exact retI X4 hx Bd.returns (hb hby own_d_prog_42_method_4_23) hr
  · show own_Qrm_ix2 Z G1 G3 a1 p2 a3 c4 c5 c6 c7 c8 c9 c10 c11 t12 kb13 w14 h0 n0 _ T4.heap _
    rw [e4]
    exact ⟨rfl, N4, rfl⟩
def own_Qrm_ix3 (Z : State) (G1 : Int32) (G3 : Value) (a1 : Addr) (p2 : Int32) (a3 : Addr) (c4 : Int32) (c5 : Int32) (c6 : Int32) (c7 : Int32) (c8 : Int32) (c9 : Int32) (c10 : Int32) (c11 : Int32) (t12 : Addr) (kb13 : ClassId) (w14 : Int32) (h0 : Heap) (n0 : Nat) (v : Option Value) (h : Heap) (L : List Loc) : Prop := (v = some (.int (3 : Int32))) ∧ (Fr n0 L) ∧ (h = h0)
theorem own_efrm_ix3 (m : MethodId) (a1 : Addr) (p2 : Int32) (a3 : Addr) : entryFrame m #[(.ref a1), (.int p2), (.ref a3)] 4 = mkF m 0 #[.val (.ref a1), .val (.int p2), .val (.ref a3), .unset] [] := by first | (simp [entryFrame, mkF, argsToLocals, Value.category]; done) | rfl
set_option maxRecDepth 65536 in
set_option maxHeartbeats 40000000 in
theorem own_rm_ix3 (l : Launch) (Z : State) (a0 : Array Value) (hw : ∀ d ∈ tables_1, d.before a0 Z = true) (ws : List Jvm.Cond) (G1 : Int32) (G3 : Value) (gl : own_Glob Z G1 G3) (a1 : Addr) (p2 : Int32) (a3 : Addr) (c4 : Int32) (c5 : Int32) (c6 : Int32) (c7 : Int32) (c8 : Int32) (c9 : Int32) (c10 : Int32) (c11 : Int32) (t12 : Addr) (kb13 : ClassId) (w14 : Int32) (h0 : Heap) (n0 : Nat) (Z0 : n0 ≤ h0.size) (X00 : Old Z n0 h0) (P1 : Exa Z h0 a3 "java/lang/String") (P2 : Fld Z h0 a3 "java/lang/String" "value" "[B" (.ref t12)) (P3 : Fld Z h0 a3 "java/lang/String" "coder" "B" (.int (0 : Int32))) (P4 : Arv Z h0 t12 kb13 .byte (8 : Int32) ((([c4, c5, c6, c7, c8, c9, c10, c11] : List Int32).map (fun c => c.toInt8.toInt32)).map Value.int) (.int (0 : Int32))) (P5 : ∀ c ∈ ([c4, c5, c6, c7, c8, c9, c10, c11] : List Int32), ¬ c < 0 ∧ ¬ (255 : Int32) < c) (P6 : Fld Z h0 a1 "com/example/incorpus/incorpus/Span" "start" "I" (.int (3 : Int32))) (P7 : Fld Z h0 a1 "com/example/incorpus/incorpus/Span" "end" "I" (.int w14)) (hc1 : (3 : Int32) < w14) (hc2 : c7 = p2) :
    MetFree l (⟨"com/example/incorpus/incorpus/Span", "indexOf", "(CLjava/lang/String;)I"⟩ : MethodName) (head1 (Jvm.Cond.code (⟨"com/example/incorpus/incorpus/Span", "indexOf", "(CLjava/lang/String;)I"⟩ : MethodName) prog_42_method_4_code 4 (some .int) :: ws) ({ frames := 4, cells := 0, slots := 0, locals := 53 } : Room)) (fun a U => a = #[(.ref a1), (.int p2), (.ref a3)] ∧ Z.Warmed39 U.vm ∧ U.heap = h0) (fun _ _ _ _ _ => True) (fun _ U o U' => ∃ v L, o = .returned v ∧ own_Qrm_ix3 Z G1 G3 a1 p2 a3 c4 c5 c6 c7 c8 c9 c10 c11 t12 kb13 w14 h0 n0 v U'.heap L ∧ FrameEnd U o U' L ({ frames := 4, cells := 0, slots := 0, locals := 53 } : Room).cells ({ frames := 4, cells := 0, slots := 0, locals := 53 } : Room).slots) := by
  refine MetFree.of_bodySF (plainFor_of_name own_pn4) hisR ?_
  intro p e s m args below meth c s₁ Bd hml0 hP hK
  obtain ⟨rfl, hZ, hh⟩ := hP
  obtain ⟨O_CS, P_CS, O_SI, P_SI⟩ := id gl
  have hx := Bd.exec
  have hby := Bd.bytes
  have hml : c.maxLocals = 4 := hml0
  have hown : s.vm.findClass "com/example/incorpus/incorpus/Span" = some m.cls := findClass_of_methodNamed Bd.named
  have hnm := (name_of_methodNamed Bd.named Bd.method).1
  have X0 : Stand p l e ({ frames := 4, cells := 0, slots := 0, locals := 53 } : Room) s m #[(.ref a1), (.int p2), (.ref a3)] below meth c s₁ [] 0 0 := Stand.of_body Bd
  have e0 : s₁.heap = h0 := by rw [← hh, Bd.state]; rfl
  have N0 := Fr.nil n0
  have pre0 : ∀ t, Steps p.tables e below (s₁.setTop (mkF m 0 #[.val (.ref a1), .val (.int p2), .val (.ref a3), .unset] [])) t → Steps p.tables e below (s₁.setTop (entryFrame m #[(.ref a1), (.int p2), (.ref a3)] 4)) t := fun t k => castTop (own_efrm_ix3 m a1 p2 a3) k
  obtain ⟨T1, X1, e1, st1⟩ := getF X0 hx hZ hown (host := "") (Or.inl (hw _ (List.mem_of_getElem? (i := 47) rfl))) Via.refl e0 P6 (g := (mkF m 1 #[.val (.ref a1), .val (.int p2), .val (.ref a3), .unset] [(.ref a1)])) rfl rfl (hb hby own_d_prog_42_method_4_1)
  obtain ⟨T2, X2, e2, st2⟩ := getF X1 hx hZ hown (host := "") (Or.inl (hw _ (List.mem_of_getElem? (i := 49) rfl))) Via.refl e1 P7 (g := (mkF m 7 #[.val (.ref a1), .val (.int p2), .val (.ref a3), .val (.int (3 : Int32))] [(.ref a1), (.int (3 : Int32))])) rfl rfl (hb hby own_d_prog_42_method_4_7)
  have cdh3 : StrChars.Road.CodA ([c4, c5, c6, c7, c8, c9, c10, c11] : List Int32) 0 (8 : Int32) ((([c4, c5, c6, c7, c8, c9, c10, c11] : List Int32).map (fun c => c.toInt8.toInt32)).map Value.int) := (StrChars.Road.codOf (cs := ([c4, c5, c6, c7, c8, c9, c10, c11] : List Int32)) (n := 8) rfl (fun c hc => (P5 c hc).2))
  have hws_wordsChN : ∀ d ∈ StrChars.Road.wordsChN, d.before a0 Z = true := fun d hd => hw d (own_hws_wordsChN d hd)
  obtain ⟨cq4, kq4, q4a, q4b, q4c⟩ := isOf hZ e2 P1
  obtain ⟨_, _, ⟨T4, L4, k4, n4⟩, -, X4, ⟨Lc4, hQ4, l4, y4, z4⟩, st4⟩ := X2.virtualBack hx (y := (⟨"java/lang/String", "charAt", "(I)C"⟩ : MethodName)) (z := (⟨"java/lang/String", "charAt", "(I)C"⟩ : MethodName)) hown (mvT hZ (hw _ (List.mem_of_getElem? (i := 83) rfl))) (mvT hZ (hw _ (List.mem_of_getElem? (i := 57) rfl))) (notFace_of_selects (args := #[]) (mvT hZ (hw _ (List.mem_of_getElem? (i := 59) rfl)))) (mvT hZ (hw _ (List.mem_of_getElem? (i := 59) rfl))) (mvT hZ (hw _ (List.mem_of_getElem? (i := 58) rfl))) (by decide) (StrChars.Road.chN (W := 0) hZ hws_wordsChN (kI := 4) (hw _ (List.mem_of_getElem? (i := 7) rfl)) P1 P2 P3 P4 cdh3 (own_up _ P5) (O_CS.ext X00.2) P_CS (O_SI.ext X00.2) P_SI (Nat.le_of_ble_eq_true rfl) (i := 3) (Nat.le_of_ble_eq_true rfl) (j := (3 : Int32)) rfl (by decide) (by decide)) q4a q4c (g := (mkF m 15 #[.val (.ref a1), .val (.int p2), .val (.ref a3), .val (.int (3 : Int32))] [(.int (3 : Int32)), (.ref a3)])) rfl (by rw [hml]; rfl) (Steps.refl _) (argsL := [(.int (3 : Int32))]) (rest := []) (lenOf own_pd5 rfl) rfl (by show 2 * 0 + _ ≤ _; exact Nat.le_of_eq rfl) (hb hby own_d_prog_42_method_4_15) (fun _ _ => ⟨rfl, e2, (by decide : 0 + 0 ≤ _), (by decide : 0 + 0 ≤ _)⟩)
  dsimp only [Pt.U, Pt.locs, Pt.cells, Pt.slots] at X4 l4 y4 z4 st4 hQ4
  subst y4 z4
  obtain ⟨rfl, rfl, e4⟩ := hQ4
  have N4 : Fr n0 L4 := by rw [l4]; exact Fr.app N0 (Fr.nil n0)
  obtain ⟨fs, hr, hrun, hended, hW, hsame⟩ := X4.leave (v := some (.int (3 : Int32))) (fun h => by rw [Bd.returns] at h; cases h)
  refine ⟨_, _, pre0 _ ?_, hrun, hended, _, _, rfl, ?_, ⟨_, rfl⟩, hW, hsame.mono (by decide) (by decide)⟩
  · show Steps p.tables e below (s₁.setTop (mkF m 0 #[.val (.ref a1), .val (.int p2), .val (.ref a3), .unset] [])) _
    refine XS.aloadN X0.here hx rfl (hb hby own_d_prog_42_method_4_0) rfl rfl ?_
    show Steps p.tables e below (s₁.setTop (mkF m 1 #[.val (.ref a1), .val (.int p2), .val (.ref a3), .unset] [(.ref a1)])) _
    refine st1 _ ?_
    show Steps p.tables e below (T1.setTop (mkF m 4 #[.val (.ref a1), .val (.int p2), .val (.ref a3), .unset] [(.int (3 : Int32))])) _
    refine XS.istoreN X1.here hx rfl (hb hby own_d_prog_42_method_4_4) rfl (l' := #[.val (.ref a1), .val (.int p2), .val (.ref a3), .val (.int (3 : Int32))]) rfl ?_
    show Steps p.tables e below (T1.setTop (mkF m 5 #[.val (.ref a1), .val (.int p2), .val (.ref a3), .val (.int (3 : Int32))] [])) _
    refine XS.iloadN X1.here hx rfl (hb hby own_d_prog_42_method_4_5) rfl ?_
    show Steps p.tables e below (T1.setTop (mkF m 6 #[.val (.ref a1), .val (.int p2), .val (.ref a3), .val (.int (3 : Int32))] [(.int (3 : Int32))])) _
    refine XS.aloadN X1.here hx rfl (hb hby own_d_prog_42_method_4_6) rfl rfl ?_
    show Steps p.tables e below (T1.setTop (mkF m 7 #[.val (.ref a1), .val (.int p2), .val (.ref a3), .val (.int (3 : Int32))] [(.ref a1), (.int (3 : Int32))])) _
    refine st2 _ ?_
    show Steps p.tables e below (T2.setTop (mkF m 10 #[.val (.ref a1), .val (.int p2), .val (.ref a3), .val (.int (3 : Int32))] [(.int w14), (.int (3 : Int32))])) _
    refine XS.icmpNo X2.here hx rfl (hb hby own_d_prog_42_method_4_10) rfl (tlt hc1).2.1 ?_
    show Steps p.tables e below (T2.setTop (mkF m 13 #[.val (.ref a1), .val (.int p2), .val (.ref a3), .val (.int (3 : Int32))] [])) _
    refine XS.aloadN X2.here hx rfl (hb hby own_d_prog_42_method_4_13) rfl rfl ?_
    show Steps p.tables e below (T2.setTop (mkF m 14 #[.val (.ref a1), .val (.int p2), .val (.ref a3), .val (.int (3 : Int32))] [(.ref a3)])) _
    refine XS.iloadN X2.here hx rfl (hb hby own_d_prog_42_method_4_14) rfl ?_
    show Steps p.tables e below (T2.setTop (mkF m 15 #[.val (.ref a1), .val (.int p2), .val (.ref a3), .val (.int (3 : Int32))] [(.int (3 : Int32)), (.ref a3)])) _
    refine st4.trans ?_
    show Steps p.tables e below (T4.setTop (mkF m 18 #[.val (.ref a1), .val (.int p2), .val (.ref a3), .val (.int (3 : Int32))] [(.int c7)])) _
    refine XS.iloadN X4.here hx rfl (hb hby own_d_prog_42_method_4_18) rfl ?_
    show Steps p.tables e below (T4.setTop (mkF m 19 #[.val (.ref a1), .val (.int p2), .val (.ref a3), .val (.int (3 : Int32))] [(.int p2), (.int c7)])) _
    refine XS.icmpNo X4.here hx rfl (hb hby own_d_prog_42_method_4_19) rfl (teq hc2).2 ?_
    show Steps p.tables e below (T4.setTop (mkF m 22 #[.val (.ref a1), .val (.int p2), .val (.ref a3), .val (.int (3 : Int32))] [])) _
    refine XS.iloadN X4.here hx rfl (hb hby own_d_prog_42_method_4_22) rfl ?_
    show Steps p.tables e below (T4.setTop (mkF m 23 #[.val (.ref a1), .val (.int p2), .val (.ref a3), .val (.int (3 : Int32))] [(.int (3 : Int32))])) _
    exact retI X4 hx Bd.returns (hb hby own_d_prog_42_method_4_23) hr
  · show own_Qrm_ix3 Z G1 G3 a1 p2 a3 c4 c5 c6 c7 c8 c9 c10 c11 t12 kb13 w14 h0 n0 _ T4.heap _
    rw [e4]
    exact ⟨rfl, N4, rfl⟩
theorem own_d_prog_42_method_4_30 : decode prog_42_method_4_code 30 = .ok (.iconst (-1), 1) := by decide +kernel
theorem own_d_prog_42_method_4_31 : decode prog_42_method_4_code 31 = .ok (.ireturn, 1) := by decide +kernel
def own_Qrm_ixE (Z : State) (G1 : Int32) (G3 : Value) (a1 : Addr) (p2 : Int32) (a3 : Addr) (w4 : Int32) (w5 : Int32) (h0 : Heap) (n0 : Nat) (v : Option Value) (h : Heap) (L : List Loc) : Prop := (v = some (.int (-1 : Int32))) ∧ (Fr n0 L) ∧ (h = h0)
theorem own_efrm_ixE (m : MethodId) (a1 : Addr) (p2 : Int32) (a3 : Addr) : entryFrame m #[(.ref a1), (.int p2), (.ref a3)] 4 = mkF m 0 #[.val (.ref a1), .val (.int p2), .val (.ref a3), .unset] [] := by first | (simp [entryFrame, mkF, argsToLocals, Value.category]; done) | rfl
set_option maxRecDepth 65536 in
set_option maxHeartbeats 40000000 in
theorem own_rm_ixE (l : Launch) (Z : State) (a0 : Array Value) (hw : ∀ d ∈ tables_1, d.before a0 Z = true) (ws : List Jvm.Cond) (G1 : Int32) (G3 : Value) (gl : own_Glob Z G1 G3) (a1 : Addr) (p2 : Int32) (a3 : Addr) (w4 : Int32) (w5 : Int32) (h0 : Heap) (n0 : Nat) (Z0 : n0 ≤ h0.size) (P1 : Fld Z h0 a1 "com/example/incorpus/incorpus/Span" "start" "I" (.int w4)) (P2 : Fld Z h0 a1 "com/example/incorpus/incorpus/Span" "end" "I" (.int w5)) (hc1 : ¬ (w4 < w5)) :
    MetFree l (⟨"com/example/incorpus/incorpus/Span", "indexOf", "(CLjava/lang/String;)I"⟩ : MethodName) (head1 (Jvm.Cond.code (⟨"com/example/incorpus/incorpus/Span", "indexOf", "(CLjava/lang/String;)I"⟩ : MethodName) prog_42_method_4_code 4 (some .int) :: ws) ({ frames := 0, cells := 0, slots := 0, locals := 0 } : Room)) (fun a U => a = #[(.ref a1), (.int p2), (.ref a3)] ∧ Z.Warmed39 U.vm ∧ U.heap = h0) (fun _ _ _ _ _ => True) (fun _ U o U' => ∃ v L, o = .returned v ∧ own_Qrm_ixE Z G1 G3 a1 p2 a3 w4 w5 h0 n0 v U'.heap L ∧ FrameEnd U o U' L ({ frames := 0, cells := 0, slots := 0, locals := 0 } : Room).cells ({ frames := 0, cells := 0, slots := 0, locals := 0 } : Room).slots) := by
  refine MetFree.of_bodySF (plainFor_of_name own_pn4) hisR ?_
  intro p e s m args below meth c s₁ Bd hml0 hP hK
  obtain ⟨rfl, hZ, hh⟩ := hP
  obtain ⟨O_CS, P_CS, O_SI, P_SI⟩ := id gl
  have hx := Bd.exec
  have hby := Bd.bytes
  have hml : c.maxLocals = 4 := hml0
  have hown : s.vm.findClass "com/example/incorpus/incorpus/Span" = some m.cls := findClass_of_methodNamed Bd.named
  have hnm := (name_of_methodNamed Bd.named Bd.method).1
  have X0 : Stand p l e ({ frames := 0, cells := 0, slots := 0, locals := 0 } : Room) s m #[(.ref a1), (.int p2), (.ref a3)] below meth c s₁ [] 0 0 := Stand.of_body Bd
  have e0 : s₁.heap = h0 := by rw [← hh, Bd.state]; rfl
  have N0 := Fr.nil n0
  have pre0 : ∀ t, Steps p.tables e below (s₁.setTop (mkF m 0 #[.val (.ref a1), .val (.int p2), .val (.ref a3), .unset] [])) t → Steps p.tables e below (s₁.setTop (entryFrame m #[(.ref a1), (.int p2), (.ref a3)] 4)) t := fun t k => castTop (own_efrm_ixE m a1 p2 a3) k
  obtain ⟨T1, X1, e1, st1⟩ := getF X0 hx hZ hown (host := "") (Or.inl (hw _ (List.mem_of_getElem? (i := 47) rfl))) Via.refl e0 P1 (g := (mkF m 1 #[.val (.ref a1), .val (.int p2), .val (.ref a3), .unset] [(.ref a1)])) rfl rfl (hb hby own_d_prog_42_method_4_1)
  obtain ⟨T2, X2, e2, st2⟩ := getF X1 hx hZ hown (host := "") (Or.inl (hw _ (List.mem_of_getElem? (i := 49) rfl))) Via.refl e1 P2 (g := (mkF m 7 #[.val (.ref a1), .val (.int p2), .val (.ref a3), .val (.int w4)] [(.ref a1), (.int w4)])) rfl rfl (hb hby own_d_prog_42_method_4_7)
  obtain ⟨fs, hr, hrun, hended, hW, hsame⟩ := X2.leave (v := some (.int (-1 : Int32))) (fun h => by rw [Bd.returns] at h; cases h)
  refine ⟨_, _, pre0 _ ?_, hrun, hended, _, _, rfl, ?_, ⟨_, rfl⟩, hW, hsame.mono (by decide) (by decide)⟩
  · show Steps p.tables e below (s₁.setTop (mkF m 0 #[.val (.ref a1), .val (.int p2), .val (.ref a3), .unset] [])) _
    refine XS.aloadN X0.here hx rfl (hb hby own_d_prog_42_method_4_0) rfl rfl ?_
    show Steps p.tables e below (s₁.setTop (mkF m 1 #[.val (.ref a1), .val (.int p2), .val (.ref a3), .unset] [(.ref a1)])) _
    refine st1 _ ?_
    show Steps p.tables e below (T1.setTop (mkF m 4 #[.val (.ref a1), .val (.int p2), .val (.ref a3), .unset] [(.int w4)])) _
    refine XS.istoreN X1.here hx rfl (hb hby own_d_prog_42_method_4_4) rfl (l' := #[.val (.ref a1), .val (.int p2), .val (.ref a3), .val (.int w4)]) rfl ?_
    show Steps p.tables e below (T1.setTop (mkF m 5 #[.val (.ref a1), .val (.int p2), .val (.ref a3), .val (.int w4)] [])) _
    refine XS.iloadN X1.here hx rfl (hb hby own_d_prog_42_method_4_5) rfl ?_
    show Steps p.tables e below (T1.setTop (mkF m 6 #[.val (.ref a1), .val (.int p2), .val (.ref a3), .val (.int w4)] [(.int w4)])) _
    refine XS.aloadN X1.here hx rfl (hb hby own_d_prog_42_method_4_6) rfl rfl ?_
    show Steps p.tables e below (T1.setTop (mkF m 7 #[.val (.ref a1), .val (.int p2), .val (.ref a3), .val (.int w4)] [(.ref a1), (.int w4)])) _
    refine st2 _ ?_
    show Steps p.tables e below (T2.setTop (mkF m 10 #[.val (.ref a1), .val (.int p2), .val (.ref a3), .val (.int w4)] [(.int w5), (.int w4)])) _
    refine XS.icmpYes X2.here hx rfl (pc0 := 10) (pc' := 30) rfl (hb hby own_d_prog_42_method_4_10) rfl (flt hc1).2.1 (by decide) (by decide) ?_
    show Steps p.tables e below (T2.setTop (mkF m 30 #[.val (.ref a1), .val (.int p2), .val (.ref a3), .val (.int w4)] [])) _
    refine XS.iconst X2.here hx rfl (hb hby own_d_prog_42_method_4_30) ?_
    show Steps p.tables e below (T2.setTop (mkF m 31 #[.val (.ref a1), .val (.int p2), .val (.ref a3), .val (.int w4)] [(.int (-1 : Int32))])) _
    exact retI X2 hx Bd.returns (hb hby own_d_prog_42_method_4_31) hr
  · show own_Qrm_ixE Z G1 G3 a1 p2 a3 w4 w5 h0 n0 _ T2.heap _
    rw [e2]
    exact ⟨rfl, N0, rfl⟩
theorem own_pd6 : parseMethodDescriptor "(II)V" = some ⟨[.int, .int], none⟩ := by decide +kernel
theorem own_pd7 : parseMethodDescriptor "()Z" = some ⟨[], some .boolean⟩ := by decide +kernel
set_option maxRecDepth 65536 in
set_option maxHeartbeats 40000000 in
theorem own_k100 {p : Program} {l : Launch} {e : Env} {s : State} {m : MethodId} {below : List Frame} {meth : Method} {c : Code} {s₁ : State} {Z : State} {a0 : Array Value} (hw : ∀ d ∈ tables_1, d.before a0 Z = true) (G1 : Int32) (G3 : Value) (gl : own_Glob Z G1 G3) (p1 : Int32) (p2 : Int32) (p3 : Int32) (q4 : Int64) (p5 : Int32) (i6 : Int32) (i7 : Int32) (i8 : Int32) (r9 : Addr) (r10 : Addr) {h0 : Heap} {n0 : Nat} (Z0 : n0 ≤ h0.size) (X00 : Old Z n0 h0) (hl : i7 = (0 : Int32)) (hbs : ¬ ((2147483644 : Int32) < (own_bs p5))) (hbl : ¬ (own_bl p2 = (0 : Int32)))
    {locs0 : List Loc} (X0 : Stand p l e room_1 s m #[(.int p1), (.int p2), (.int p3), (.long q4), (.int p5)] below meth c s₁ locs0 4 22) (N0 : Fr n0 locs0) (hx : p.tables.exec = Jvm.exec) (hZ : Z.Warmed39 s.vm) (hby : c.code = code) (hml : c.maxLocals = 17) (hown : s.vm.findClass "com/example/incorpus/incorpus/SpanIsEmptyPinLaw" = some m.cls) (e0 : s₁.heap = h0) (hret : meth.sig.returnType = some .boolean) (hlk : meth.locks = false) :
    ∃ s₂ o, Steps p.tables e below (s₁.setTop (mkF m 97 #[.val (.int p1), .val (.int p2), .val (.int p3), .val (.long q4), .second, .val (.int p5), .val (.int i6), .val (.int i7), .val (.int i8), .val (.ref r9), .val (.ref r10), .val (.int (1 : Int32)), .val (.int (1 : Int32)), .unset, .unset, .unset, .unset] [])) s₂ ∧ s₂.status = .running ∧ Ended s₂ below o ∧ ∃ v L, o = .returned v ∧ own_Qlaw h0 n0 v s₂.heap L ∧ FrameEnd s o s₂ L room_1.cells room_1.slots := by
  obtain ⟨O_CS, P_CS, O_SI, P_SI⟩ := id gl
  obtain ⟨T1, h1, X1, e1, E1, A1, D1, U1, st1⟩ := newO X0 hx hZ hown (hw _ (List.mem_of_getElem? (i := 35) rfl)) (hw _ (List.mem_of_getElem? (i := 36) rfl)) (hw _ (List.mem_of_getElem? (i := 37) rfl)) e0 (g := (mkF m 124 #[.val (.int p1), .val (.int p2), .val (.int p3), .val (.long q4), .second, .val (.int p5), .val (.int i6), .val (.int i7), .val (.int i8), .val (.ref r9), .val (.ref r10), .val (.int (1 : Int32)), .val (.int (1 : Int32)), .val (.int (own_bs p5)), .val (.int (own_bl p2)), .unset, .unset] [])) rfl (hb hby at_124) (by decide) (by decide)
  obtain ⟨b1, g1⟩ : ∃ z, z = h0.size := ⟨_, rfl⟩
  rw [← g1] at A1 D1 U1 st1
  have Kp2 : Keep h0 h1 [] := (Keep.refl h0 []).ext E1
  have Fh3 : Fld Z h1 b1 "com/example/incorpus/incorpus/Span" "start" "I" (.int (0 : Int32)) := (D1 (Or.inr (hw _ (List.mem_of_getElem? (i := 48) rfl))) (ty := .int) (by decide))
  have gh4 : n0 ≤ b1 := Nat.le_trans Z0 (Nat.le_of_eq g1.symm)
  have Fh5 : Fld Z h1 b1 "com/example/incorpus/incorpus/Span" "end" "I" (.int (0 : Int32)) := (D1 (Or.inr (hw _ (List.mem_of_getElem? (i := 50) rfl))) (ty := .int) (by decide))
  obtain ⟨_, _, ⟨T6, L6, k6, n6⟩, -, X6, ⟨Lc6, hQ6, l6, y6, z6⟩, st6⟩ := X1.specialBack hx (y := (⟨"com/example/incorpus/incorpus/Span", "<init>", "(II)V"⟩ : MethodName)) rfl hown (mvT hZ (hw _ (List.mem_of_getElem? (i := 38) rfl))) (mvT hZ (hw _ (List.mem_of_getElem? (i := 39) rfl))) (mvT hZ (hw _ (List.mem_of_getElem? (i := 40) rfl))) (by decide) (backOf (W := 1) (own_rm_span l Z a0 hw [] G1 G3 gl b1 (own_bs p5) ((own_bs p5) + (own_bl p2)) ((.int (0 : Int32))) ((.int (0 : Int32))) h1 n0 (Nat.le_trans Z0 Kp2.1) A1 Fh3 gh4 Fh5 ((own_bsn p5) : ¬ ((own_bs p5) < (0 : Int32))) ((own_pl1 p2 p5 hbs).1 : ¬ (((own_bs p5) + (own_bl p2)) < (own_bs p5)))) hZ (hw _ (List.mem_of_getElem? (i := 40) rfl)) (hw _ (List.mem_of_getElem? (i := 37) rfl)) (by decide) (by decide)) (g := (mkF m 135 #[.val (.int p1), .val (.int p2), .val (.int p3), .val (.long q4), .second, .val (.int p5), .val (.int i6), .val (.int i7), .val (.int i8), .val (.ref r9), .val (.ref r10), .val (.int (1 : Int32)), .val (.int (1 : Int32)), .val (.int (own_bs p5)), .val (.int (own_bl p2)), .unset, .unset] [(.int ((own_bs p5) + (own_bl p2))), (.int (own_bs p5)), (.ref b1), (.ref b1)])) rfl (by rw [hml]; rfl) (Steps.refl _) (a := b1) (argsL := [(.int (own_bs p5)), (.int ((own_bs p5) + (own_bl p2)))]) (rest := [(.ref b1)]) (lenOf own_pd6 rfl) rfl (by show 2 * 0 + _ ≤ _; exact Nat.le_of_eq rfl) (hb hby at_135) (fun _ _ => ⟨rfl, e1, (by decide : 5 + 0 ≤ _), (by decide : 24 + 0 ≤ _)⟩)
  dsimp only [Pt.U, Pt.locs, Pt.cells, Pt.slots] at X6 l6 y6 z6 st6 hQ6
  subst y6 z6
  obtain ⟨rfl, Nq6, Kq6, f6_0, f6_1, f6_2⟩ := hQ6
  have N6 : Fr n0 L6 := by rw [l6]; exact Fr.app N0 Nq6
  have Kp7 : Keep h0 T6.heap [] := Kp2.trans Kq6 (allS (Or.inr (Nat.le_trans (Keep.refl h0 []).1 (Nat.le_of_eq g1.symm))) all0)
  obtain ⟨cq8, kq8, q8a, q8b, q8c⟩ := isOf hZ rfl f6_0
  obtain ⟨_, _, ⟨T8, L8, k8, n8⟩, -, X8, ⟨Lc8, hQ8, l8, y8, z8⟩, st8⟩ := X6.virtualBack hx (y := (⟨"com/example/incorpus/incorpus/Span", "isEmpty", "()Z"⟩ : MethodName)) (z := (⟨"com/example/incorpus/incorpus/Span", "isEmpty", "()Z"⟩ : MethodName)) hown (mvT hZ (hw _ (List.mem_of_getElem? (i := 51) rfl))) (mvT hZ (hw _ (List.mem_of_getElem? (i := 52) rfl))) (notFace_of_selects (args := #[]) (mvT hZ (hw _ (List.mem_of_getElem? (i := 54) rfl)))) (mvT hZ (hw _ (List.mem_of_getElem? (i := 54) rfl))) (mvT hZ (hw _ (List.mem_of_getElem? (i := 53) rfl))) (by decide) (backOf (W := 0) (own_rm_emp0 l Z a0 hw [] G1 G3 gl b1 (own_bs p5) ((own_bs p5) + (own_bl p2)) T6.heap n0 (Nat.le_trans Z0 Kp7.1) f6_1 f6_2 (((own_pl1 p2 p5 hbs).2 hbl) : ¬ ((own_bs p5) = ((own_bs p5) + (own_bl p2))))) hZ (hw _ (List.mem_of_getElem? (i := 55) rfl)) (hw _ (List.mem_of_getElem? (i := 37) rfl)) (by decide) (by decide)) q8a q8c (g := (mkF m 142 #[.val (.int p1), .val (.int p2), .val (.int p3), .val (.long q4), .second, .val (.int p5), .val (.int i6), .val (.int i7), .val (.int i8), .val (.ref r9), .val (.ref r10), .val (.int (1 : Int32)), .val (.int (1 : Int32)), .val (.int (own_bs p5)), .val (.int (own_bl p2)), .val (.ref b1), .unset] [(.ref b1)])) rfl (by rw [hml]; rfl) (Steps.refl _) (argsL := []) (rest := []) (lenOf own_pd7 rfl) rfl (by show 2 * 0 + _ ≤ _; exact Nat.le_of_eq rfl) (hb hby at_142) (fun _ _ => ⟨rfl, rfl, (by decide : 5 + 0 ≤ _), (by decide : 24 + 0 ≤ _)⟩)
  dsimp only [Pt.U, Pt.locs, Pt.cells, Pt.slots] at X8 l8 y8 z8 st8 hQ8
  subst y8 z8
  obtain ⟨rfl, Nq8, e8⟩ := hQ8
  have N8 : Fr n0 L8 := by rw [l8]; exact Fr.app N6 Nq8
  obtain ⟨fs, hr, hrun, hended, hW, hsame⟩ := X8.leave (v := some (.int (1 : Int32))) (fun h => by rw [hret] at h; cases h)
  refine ⟨_, _, ?_, hrun, hended, _, _, rfl, ⟨rfl, N8⟩, ⟨_, rfl⟩, hW, hsame.mono (by decide) (by decide)⟩
  show Steps p.tables e below (s₁.setTop (mkF m 97 #[.val (.int p1), .val (.int p2), .val (.int p3), .val (.long q4), .second, .val (.int p5), .val (.int i6), .val (.int i7), .val (.int i8), .val (.ref r9), .val (.ref r10), .val (.int (1 : Int32)), .val (.int (1 : Int32)), .unset, .unset, .unset, .unset] [])) _
  refine XS.iload X0.here hx rfl (hb hby at_97) rfl ?_
  show Steps p.tables e below (s₁.setTop (mkF m 99 #[.val (.int p1), .val (.int p2), .val (.int p3), .val (.long q4), .second, .val (.int p5), .val (.int i6), .val (.int i7), .val (.int i8), .val (.ref r9), .val (.ref r10), .val (.int (1 : Int32)), .val (.int (1 : Int32)), .unset, .unset, .unset, .unset] [(.int p5)])) _
  refine X0.ldcInt hx hown (mvT hZ (hw _ (List.mem_of_getElem? (i := 84) rfl))) (g := (mkF m 99 #[.val (.int p1), .val (.int p2), .val (.int p3), .val (.long q4), .second, .val (.int p5), .val (.int i6), .val (.int i7), .val (.int i8), .val (.ref r9), .val (.ref r10), .val (.int (1 : Int32)), .val (.int (1 : Int32)), .unset, .unset, .unset, .unset] [(.int p5)])) rfl (hb hby at_99) _ ?_
  show Steps p.tables e below (s₁.setTop (mkF m 101 #[.val (.int p1), .val (.int p2), .val (.int p3), .val (.long q4), .second, .val (.int p5), .val (.int i6), .val (.int i7), .val (.int i8), .val (.ref r9), .val (.ref r10), .val (.int (1 : Int32)), .val (.int (1 : Int32)), .unset, .unset, .unset, .unset] [(.int (2147483647 : Int32)), (.int p5)])) _
  refine XS.iand X0.here hx rfl (hb hby at_101) rfl ?_
  show Steps p.tables e below (s₁.setTop (mkF m 102 #[.val (.int p1), .val (.int p2), .val (.int p3), .val (.long q4), .second, .val (.int p5), .val (.int i6), .val (.int i7), .val (.int i8), .val (.ref r9), .val (.ref r10), .val (.int (1 : Int32)), .val (.int (1 : Int32)), .unset, .unset, .unset, .unset] [(.int (own_bs p5))])) _
  refine XS.istore X0.here hx rfl (hb hby at_102) rfl (l' := #[.val (.int p1), .val (.int p2), .val (.int p3), .val (.long q4), .second, .val (.int p5), .val (.int i6), .val (.int i7), .val (.int i8), .val (.ref r9), .val (.ref r10), .val (.int (1 : Int32)), .val (.int (1 : Int32)), .val (.int (own_bs p5)), .unset, .unset, .unset]) rfl ?_
  show Steps p.tables e below (s₁.setTop (mkF m 104 #[.val (.int p1), .val (.int p2), .val (.int p3), .val (.long q4), .second, .val (.int p5), .val (.int i6), .val (.int i7), .val (.int i8), .val (.ref r9), .val (.ref r10), .val (.int (1 : Int32)), .val (.int (1 : Int32)), .val (.int (own_bs p5)), .unset, .unset, .unset] [])) _
  refine XS.iload X0.here hx rfl (hb hby at_104) rfl ?_
  show Steps p.tables e below (s₁.setTop (mkF m 106 #[.val (.int p1), .val (.int p2), .val (.int p3), .val (.long q4), .second, .val (.int p5), .val (.int i6), .val (.int i7), .val (.int i8), .val (.ref r9), .val (.ref r10), .val (.int (1 : Int32)), .val (.int (1 : Int32)), .val (.int (own_bs p5)), .unset, .unset, .unset] [(.int (own_bs p5))])) _
  refine X0.ldcInt hx hown (mvT hZ (hw _ (List.mem_of_getElem? (i := 85) rfl))) (g := (mkF m 106 #[.val (.int p1), .val (.int p2), .val (.int p3), .val (.long q4), .second, .val (.int p5), .val (.int i6), .val (.int i7), .val (.int i8), .val (.ref r9), .val (.ref r10), .val (.int (1 : Int32)), .val (.int (1 : Int32)), .val (.int (own_bs p5)), .unset, .unset, .unset] [(.int (own_bs p5))])) rfl (hb hby at_106) _ ?_
  show Steps p.tables e below (s₁.setTop (mkF m 108 #[.val (.int p1), .val (.int p2), .val (.int p3), .val (.long q4), .second, .val (.int p5), .val (.int i6), .val (.int i7), .val (.int i8), .val (.ref r9), .val (.ref r10), .val (.int (1 : Int32)), .val (.int (1 : Int32)), .val (.int (own_bs p5)), .unset, .unset, .unset] [(.int (2147483644 : Int32)), (.int (own_bs p5))])) _
  refine XS.icmpYes X0.here hx rfl (pc0 := 108) (pc' := 117) rfl (hb hby at_108) rfl (flt (hbs : ¬ ((2147483644 : Int32) < (own_bs p5)))).2.2.2 (by decide) (by decide) ?_
  show Steps p.tables e below (s₁.setTop (mkF m 117 #[.val (.int p1), .val (.int p2), .val (.int p3), .val (.long q4), .second, .val (.int p5), .val (.int i6), .val (.int i7), .val (.int i8), .val (.ref r9), .val (.ref r10), .val (.int (1 : Int32)), .val (.int (1 : Int32)), .val (.int (own_bs p5)), .unset, .unset, .unset] [])) _
  refine XS.iloadN X0.here hx rfl (hb hby at_117) rfl ?_
  show Steps p.tables e below (s₁.setTop (mkF m 118 #[.val (.int p1), .val (.int p2), .val (.int p3), .val (.long q4), .second, .val (.int p5), .val (.int i6), .val (.int i7), .val (.int i8), .val (.ref r9), .val (.ref r10), .val (.int (1 : Int32)), .val (.int (1 : Int32)), .val (.int (own_bs p5)), .unset, .unset, .unset] [(.int p2)])) _
  refine XS.iconst X0.here hx rfl (hb hby at_118) ?_
  show Steps p.tables e below (s₁.setTop (mkF m 119 #[.val (.int p1), .val (.int p2), .val (.int p3), .val (.long q4), .second, .val (.int p5), .val (.int i6), .val (.int i7), .val (.int i8), .val (.ref r9), .val (.ref r10), .val (.int (1 : Int32)), .val (.int (1 : Int32)), .val (.int (own_bs p5)), .unset, .unset, .unset] [(.int (2 : Int32)), (.int p2)])) _
  refine XS.iushr X0.here hx rfl (hb hby at_119) rfl ?_
  show Steps p.tables e below (s₁.setTop (mkF m 120 #[.val (.int p1), .val (.int p2), .val (.int p3), .val (.long q4), .second, .val (.int p5), .val (.int i6), .val (.int i7), .val (.int i8), .val (.ref r9), .val (.ref r10), .val (.int (1 : Int32)), .val (.int (1 : Int32)), .val (.int (own_bs p5)), .unset, .unset, .unset] [(.int ((p2.toUInt32 >>> ((2 : Int32) &&& 31).toUInt32).toInt32))])) _
  refine XS.iconst X0.here hx rfl (hb hby at_120) ?_
  show Steps p.tables e below (s₁.setTop (mkF m 121 #[.val (.int p1), .val (.int p2), .val (.int p3), .val (.long q4), .second, .val (.int p5), .val (.int i6), .val (.int i7), .val (.int i8), .val (.ref r9), .val (.ref r10), .val (.int (1 : Int32)), .val (.int (1 : Int32)), .val (.int (own_bs p5)), .unset, .unset, .unset] [(.int (3 : Int32)), (.int ((p2.toUInt32 >>> ((2 : Int32) &&& 31).toUInt32).toInt32))])) _
  refine XS.iand X0.here hx rfl (hb hby at_121) rfl ?_
  show Steps p.tables e below (s₁.setTop (mkF m 122 #[.val (.int p1), .val (.int p2), .val (.int p3), .val (.long q4), .second, .val (.int p5), .val (.int i6), .val (.int i7), .val (.int i8), .val (.ref r9), .val (.ref r10), .val (.int (1 : Int32)), .val (.int (1 : Int32)), .val (.int (own_bs p5)), .unset, .unset, .unset] [(.int (own_bl p2))])) _
  refine XS.istore X0.here hx rfl (hb hby at_122) rfl (l' := #[.val (.int p1), .val (.int p2), .val (.int p3), .val (.long q4), .second, .val (.int p5), .val (.int i6), .val (.int i7), .val (.int i8), .val (.ref r9), .val (.ref r10), .val (.int (1 : Int32)), .val (.int (1 : Int32)), .val (.int (own_bs p5)), .val (.int (own_bl p2)), .unset, .unset]) rfl ?_
  show Steps p.tables e below (s₁.setTop (mkF m 124 #[.val (.int p1), .val (.int p2), .val (.int p3), .val (.long q4), .second, .val (.int p5), .val (.int i6), .val (.int i7), .val (.int i8), .val (.ref r9), .val (.ref r10), .val (.int (1 : Int32)), .val (.int (1 : Int32)), .val (.int (own_bs p5)), .val (.int (own_bl p2)), .unset, .unset] [])) _
  refine st1 _ ?_
  show Steps p.tables e below (T1.setTop (mkF m 127 #[.val (.int p1), .val (.int p2), .val (.int p3), .val (.long q4), .second, .val (.int p5), .val (.int i6), .val (.int i7), .val (.int i8), .val (.ref r9), .val (.ref r10), .val (.int (1 : Int32)), .val (.int (1 : Int32)), .val (.int (own_bs p5)), .val (.int (own_bl p2)), .unset, .unset] [(.ref b1)])) _
  refine XS.dup X1.here hx rfl (hb hby at_127) rfl rfl ?_
  show Steps p.tables e below (T1.setTop (mkF m 128 #[.val (.int p1), .val (.int p2), .val (.int p3), .val (.long q4), .second, .val (.int p5), .val (.int i6), .val (.int i7), .val (.int i8), .val (.ref r9), .val (.ref r10), .val (.int (1 : Int32)), .val (.int (1 : Int32)), .val (.int (own_bs p5)), .val (.int (own_bl p2)), .unset, .unset] [(.ref b1), (.ref b1)])) _
  refine XS.iload X1.here hx rfl (hb hby at_128) rfl ?_
  show Steps p.tables e below (T1.setTop (mkF m 130 #[.val (.int p1), .val (.int p2), .val (.int p3), .val (.long q4), .second, .val (.int p5), .val (.int i6), .val (.int i7), .val (.int i8), .val (.ref r9), .val (.ref r10), .val (.int (1 : Int32)), .val (.int (1 : Int32)), .val (.int (own_bs p5)), .val (.int (own_bl p2)), .unset, .unset] [(.int (own_bs p5)), (.ref b1), (.ref b1)])) _
  refine XS.iload X1.here hx rfl (hb hby at_130) rfl ?_
  show Steps p.tables e below (T1.setTop (mkF m 132 #[.val (.int p1), .val (.int p2), .val (.int p3), .val (.long q4), .second, .val (.int p5), .val (.int i6), .val (.int i7), .val (.int i8), .val (.ref r9), .val (.ref r10), .val (.int (1 : Int32)), .val (.int (1 : Int32)), .val (.int (own_bs p5)), .val (.int (own_bl p2)), .unset, .unset] [(.int (own_bs p5)), (.int (own_bs p5)), (.ref b1), (.ref b1)])) _
  refine XS.iload X1.here hx rfl (hb hby at_132) rfl ?_
  show Steps p.tables e below (T1.setTop (mkF m 134 #[.val (.int p1), .val (.int p2), .val (.int p3), .val (.long q4), .second, .val (.int p5), .val (.int i6), .val (.int i7), .val (.int i8), .val (.ref r9), .val (.ref r10), .val (.int (1 : Int32)), .val (.int (1 : Int32)), .val (.int (own_bs p5)), .val (.int (own_bl p2)), .unset, .unset] [(.int (own_bl p2)), (.int (own_bs p5)), (.int (own_bs p5)), (.ref b1), (.ref b1)])) _
  refine XS.iadd X1.here hx rfl (hb hby at_134) rfl ?_
  show Steps p.tables e below (T1.setTop (mkF m 135 #[.val (.int p1), .val (.int p2), .val (.int p3), .val (.long q4), .second, .val (.int p5), .val (.int i6), .val (.int i7), .val (.int i8), .val (.ref r9), .val (.ref r10), .val (.int (1 : Int32)), .val (.int (1 : Int32)), .val (.int (own_bs p5)), .val (.int (own_bl p2)), .unset, .unset] [(.int ((own_bs p5) + (own_bl p2))), (.int (own_bs p5)), (.ref b1), (.ref b1)])) _
  refine st6.trans ?_
  show Steps p.tables e below (T6.setTop (mkF m 138 #[.val (.int p1), .val (.int p2), .val (.int p3), .val (.long q4), .second, .val (.int p5), .val (.int i6), .val (.int i7), .val (.int i8), .val (.ref r9), .val (.ref r10), .val (.int (1 : Int32)), .val (.int (1 : Int32)), .val (.int (own_bs p5)), .val (.int (own_bl p2)), .unset, .unset] [(.ref b1)])) _
  refine XS.astore X6.here hx rfl (hb hby at_138) rfl rfl (l' := #[.val (.int p1), .val (.int p2), .val (.int p3), .val (.long q4), .second, .val (.int p5), .val (.int i6), .val (.int i7), .val (.int i8), .val (.ref r9), .val (.ref r10), .val (.int (1 : Int32)), .val (.int (1 : Int32)), .val (.int (own_bs p5)), .val (.int (own_bl p2)), .val (.ref b1), .unset]) rfl ?_
  show Steps p.tables e below (T6.setTop (mkF m 140 #[.val (.int p1), .val (.int p2), .val (.int p3), .val (.long q4), .second, .val (.int p5), .val (.int i6), .val (.int i7), .val (.int i8), .val (.ref r9), .val (.ref r10), .val (.int (1 : Int32)), .val (.int (1 : Int32)), .val (.int (own_bs p5)), .val (.int (own_bl p2)), .val (.ref b1), .unset] [])) _
  refine XS.aload X6.here hx rfl (hb hby at_140) rfl rfl ?_
  show Steps p.tables e below (T6.setTop (mkF m 142 #[.val (.int p1), .val (.int p2), .val (.int p3), .val (.long q4), .second, .val (.int p5), .val (.int i6), .val (.int i7), .val (.int i8), .val (.ref r9), .val (.ref r10), .val (.int (1 : Int32)), .val (.int (1 : Int32)), .val (.int (own_bs p5)), .val (.int (own_bl p2)), .val (.ref b1), .unset] [(.ref b1)])) _
  refine st8.trans ?_
  show Steps p.tables e below (T8.setTop (mkF m 145 #[.val (.int p1), .val (.int p2), .val (.int p3), .val (.long q4), .second, .val (.int p5), .val (.int i6), .val (.int i7), .val (.int i8), .val (.ref r9), .val (.ref r10), .val (.int (1 : Int32)), .val (.int (1 : Int32)), .val (.int (own_bs p5)), .val (.int (own_bl p2)), .val (.ref b1), .unset] [(.int (0 : Int32))])) _
  refine XS.istore X8.here hx rfl (hb hby at_145) rfl (l' := #[.val (.int p1), .val (.int p2), .val (.int p3), .val (.long q4), .second, .val (.int p5), .val (.int i6), .val (.int i7), .val (.int i8), .val (.ref r9), .val (.ref r10), .val (.int (1 : Int32)), .val (.int (1 : Int32)), .val (.int (own_bs p5)), .val (.int (own_bl p2)), .val (.ref b1), .val (.int (0 : Int32))]) rfl ?_
  show Steps p.tables e below (T8.setTop (mkF m 147 #[.val (.int p1), .val (.int p2), .val (.int p3), .val (.long q4), .second, .val (.int p5), .val (.int i6), .val (.int i7), .val (.int i8), .val (.ref r9), .val (.ref r10), .val (.int (1 : Int32)), .val (.int (1 : Int32)), .val (.int (own_bs p5)), .val (.int (own_bl p2)), .val (.ref b1), .val (.int (0 : Int32))] [])) _
  refine XS.iload X8.here hx rfl (hb hby at_147) rfl ?_
  show Steps p.tables e below (T8.setTop (mkF m 149 #[.val (.int p1), .val (.int p2), .val (.int p3), .val (.long q4), .second, .val (.int p5), .val (.int i6), .val (.int i7), .val (.int i8), .val (.ref r9), .val (.ref r10), .val (.int (1 : Int32)), .val (.int (1 : Int32)), .val (.int (own_bs p5)), .val (.int (own_bl p2)), .val (.ref b1), .val (.int (0 : Int32))] [(.int (1 : Int32))])) _
  refine XS.iload X8.here hx rfl (hb hby at_149) rfl ?_
  show Steps p.tables e below (T8.setTop (mkF m 151 #[.val (.int p1), .val (.int p2), .val (.int p3), .val (.long q4), .second, .val (.int p5), .val (.int i6), .val (.int i7), .val (.int i8), .val (.ref r9), .val (.ref r10), .val (.int (1 : Int32)), .val (.int (1 : Int32)), .val (.int (own_bs p5)), .val (.int (own_bl p2)), .val (.ref b1), .val (.int (0 : Int32))] [(.int i7), (.int (1 : Int32))])) _
  refine XS.ifNo X8.here hx rfl (hb hby at_151) rfl ((if0 _ _).trans (teq (hl : i7 = (0 : Int32))).2) ?_
  show Steps p.tables e below (T8.setTop (mkF m 154 #[.val (.int p1), .val (.int p2), .val (.int p3), .val (.long q4), .second, .val (.int p5), .val (.int i6), .val (.int i7), .val (.int i8), .val (.ref r9), .val (.ref r10), .val (.int (1 : Int32)), .val (.int (1 : Int32)), .val (.int (own_bs p5)), .val (.int (own_bl p2)), .val (.ref b1), .val (.int (0 : Int32))] [(.int (1 : Int32))])) _
  refine XS.iconst X8.here hx rfl (hb hby at_154) ?_
  show Steps p.tables e below (T8.setTop (mkF m 155 #[.val (.int p1), .val (.int p2), .val (.int p3), .val (.long q4), .second, .val (.int p5), .val (.int i6), .val (.int i7), .val (.int i8), .val (.ref r9), .val (.ref r10), .val (.int (1 : Int32)), .val (.int (1 : Int32)), .val (.int (own_bs p5)), .val (.int (own_bl p2)), .val (.ref b1), .val (.int (0 : Int32))] [(.int (1 : Int32)), (.int (1 : Int32))])) _
  refine XS.goto X8.here hx rfl (pc0 := 155) (pc' := 159) rfl (hb hby at_155) (by decide) (by decide) ?_
  show Steps p.tables e below (T8.setTop (mkF m 159 #[.val (.int p1), .val (.int p2), .val (.int p3), .val (.long q4), .second, .val (.int p5), .val (.int i6), .val (.int i7), .val (.int i8), .val (.ref r9), .val (.ref r10), .val (.int (1 : Int32)), .val (.int (1 : Int32)), .val (.int (own_bs p5)), .val (.int (own_bl p2)), .val (.ref b1), .val (.int (0 : Int32))] [(.int (1 : Int32)), (.int (1 : Int32))])) _
  refine XS.icmpNo X8.here hx rfl (hb hby at_159) rfl (teq (rfl : (1 : Int32) = (1 : Int32))).2 ?_
  show Steps p.tables e below (T8.setTop (mkF m 162 #[.val (.int p1), .val (.int p2), .val (.int p3), .val (.long q4), .second, .val (.int p5), .val (.int i6), .val (.int i7), .val (.int i8), .val (.ref r9), .val (.ref r10), .val (.int (1 : Int32)), .val (.int (1 : Int32)), .val (.int (own_bs p5)), .val (.int (own_bl p2)), .val (.ref b1), .val (.int (0 : Int32))] [])) _
  refine XS.iload X8.here hx rfl (hb hby at_162) rfl ?_
  show Steps p.tables e below (T8.setTop (mkF m 164 #[.val (.int p1), .val (.int p2), .val (.int p3), .val (.long q4), .second, .val (.int p5), .val (.int i6), .val (.int i7), .val (.int i8), .val (.ref r9), .val (.ref r10), .val (.int (1 : Int32)), .val (.int (1 : Int32)), .val (.int (own_bs p5)), .val (.int (own_bl p2)), .val (.ref b1), .val (.int (0 : Int32))] [(.int (1 : Int32))])) _
  refine XS.ifNo X8.here hx rfl (hb hby at_164) rfl ((if0 _ _).trans (feq (by decide : ¬ ((1 : Int32) = (0 : Int32)))).1) ?_
  show Steps p.tables e below (T8.setTop (mkF m 167 #[.val (.int p1), .val (.int p2), .val (.int p3), .val (.long q4), .second, .val (.int p5), .val (.int i6), .val (.int i7), .val (.int i8), .val (.ref r9), .val (.ref r10), .val (.int (1 : Int32)), .val (.int (1 : Int32)), .val (.int (own_bs p5)), .val (.int (own_bl p2)), .val (.ref b1), .val (.int (0 : Int32))] [])) _
  refine XS.iload X8.here hx rfl (hb hby at_167) rfl ?_
  show Steps p.tables e below (T8.setTop (mkF m 169 #[.val (.int p1), .val (.int p2), .val (.int p3), .val (.long q4), .second, .val (.int p5), .val (.int i6), .val (.int i7), .val (.int i8), .val (.ref r9), .val (.ref r10), .val (.int (1 : Int32)), .val (.int (1 : Int32)), .val (.int (own_bs p5)), .val (.int (own_bl p2)), .val (.ref b1), .val (.int (0 : Int32))] [(.int (0 : Int32))])) _
  refine XS.iload X8.here hx rfl (hb hby at_169) rfl ?_
  show Steps p.tables e below (T8.setTop (mkF m 171 #[.val (.int p1), .val (.int p2), .val (.int p3), .val (.long q4), .second, .val (.int p5), .val (.int i6), .val (.int i7), .val (.int i8), .val (.ref r9), .val (.ref r10), .val (.int (1 : Int32)), .val (.int (1 : Int32)), .val (.int (own_bs p5)), .val (.int (own_bl p2)), .val (.ref b1), .val (.int (0 : Int32))] [(.int (own_bl p2)), (.int (0 : Int32))])) _
  refine XS.ifYes X8.here hx rfl (pc0 := 171) (pc' := 178) rfl (hb hby at_171) rfl ((if0 _ _).trans (feq (hbl : ¬ ((own_bl p2) = (0 : Int32)))).2) (by decide) (by decide) ?_
  show Steps p.tables e below (T8.setTop (mkF m 178 #[.val (.int p1), .val (.int p2), .val (.int p3), .val (.long q4), .second, .val (.int p5), .val (.int i6), .val (.int i7), .val (.int i8), .val (.ref r9), .val (.ref r10), .val (.int (1 : Int32)), .val (.int (1 : Int32)), .val (.int (own_bs p5)), .val (.int (own_bl p2)), .val (.ref b1), .val (.int (0 : Int32))] [(.int (0 : Int32))])) _
  refine XS.iconst X8.here hx rfl (hb hby at_178) ?_
  show Steps p.tables e below (T8.setTop (mkF m 179 #[.val (.int p1), .val (.int p2), .val (.int p3), .val (.long q4), .second, .val (.int p5), .val (.int i6), .val (.int i7), .val (.int i8), .val (.ref r9), .val (.ref r10), .val (.int (1 : Int32)), .val (.int (1 : Int32)), .val (.int (own_bs p5)), .val (.int (own_bl p2)), .val (.ref b1), .val (.int (0 : Int32))] [(.int (0 : Int32)), (.int (0 : Int32))])) _
  refine XS.icmpNo X8.here hx rfl (hb hby at_179) rfl (teq (rfl : (0 : Int32) = (0 : Int32))).2 ?_
  show Steps p.tables e below (T8.setTop (mkF m 182 #[.val (.int p1), .val (.int p2), .val (.int p3), .val (.long q4), .second, .val (.int p5), .val (.int i6), .val (.int i7), .val (.int i8), .val (.ref r9), .val (.ref r10), .val (.int (1 : Int32)), .val (.int (1 : Int32)), .val (.int (own_bs p5)), .val (.int (own_bl p2)), .val (.ref b1), .val (.int (0 : Int32))] [])) _
  refine XS.iconst X8.here hx rfl (hb hby at_182) ?_
  show Steps p.tables e below (T8.setTop (mkF m 183 #[.val (.int p1), .val (.int p2), .val (.int p3), .val (.long q4), .second, .val (.int p5), .val (.int i6), .val (.int i7), .val (.int i8), .val (.ref r9), .val (.ref r10), .val (.int (1 : Int32)), .val (.int (1 : Int32)), .val (.int (own_bs p5)), .val (.int (own_bl p2)), .val (.ref b1), .val (.int (0 : Int32))] [(.int (1 : Int32))])) _
  refine XS.goto X8.here hx rfl (pc0 := 183) (pc' := 187) rfl (hb hby at_183) (by decide) (by decide) ?_
  show Steps p.tables e below (T8.setTop (mkF m 187 #[.val (.int p1), .val (.int p2), .val (.int p3), .val (.long q4), .second, .val (.int p5), .val (.int i6), .val (.int i7), .val (.int i8), .val (.ref r9), .val (.ref r10), .val (.int (1 : Int32)), .val (.int (1 : Int32)), .val (.int (own_bs p5)), .val (.int (own_bl p2)), .val (.ref b1), .val (.int (0 : Int32))] [(.int (1 : Int32))])) _
  exact retN X8 hx (t := .boolean) hret (by simp) (hb hby at_187) hr
set_option maxRecDepth 65536 in
set_option maxHeartbeats 40000000 in
theorem own_k101 {p : Program} {l : Launch} {e : Env} {s : State} {m : MethodId} {below : List Frame} {meth : Method} {c : Code} {s₁ : State} {Z : State} {a0 : Array Value} (hw : ∀ d ∈ tables_1, d.before a0 Z = true) (G1 : Int32) (G3 : Value) (gl : own_Glob Z G1 G3) (p1 : Int32) (p2 : Int32) (p3 : Int32) (q4 : Int64) (p5 : Int32) (i6 : Int32) (i7 : Int32) (i8 : Int32) (r9 : Addr) (r10 : Addr) {h0 : Heap} {n0 : Nat} (Z0 : n0 ≤ h0.size) (X00 : Old Z n0 h0) (hl : i7 = (0 : Int32)) (hbs : ¬ ((2147483644 : Int32) < (own_bs p5))) (hbl : own_bl p2 = 0)
    {locs0 : List Loc} (X0 : Stand p l e room_1 s m #[(.int p1), (.int p2), (.int p3), (.long q4), (.int p5)] below meth c s₁ locs0 4 22) (N0 : Fr n0 locs0) (hx : p.tables.exec = Jvm.exec) (hZ : Z.Warmed39 s.vm) (hby : c.code = code) (hml : c.maxLocals = 17) (hown : s.vm.findClass "com/example/incorpus/incorpus/SpanIsEmptyPinLaw" = some m.cls) (e0 : s₁.heap = h0) (hret : meth.sig.returnType = some .boolean) (hlk : meth.locks = false) :
    ∃ s₂ o, Steps p.tables e below (s₁.setTop (mkF m 97 #[.val (.int p1), .val (.int p2), .val (.int p3), .val (.long q4), .second, .val (.int p5), .val (.int i6), .val (.int i7), .val (.int i8), .val (.ref r9), .val (.ref r10), .val (.int (1 : Int32)), .val (.int (1 : Int32)), .unset, .unset, .unset, .unset] [])) s₂ ∧ s₂.status = .running ∧ Ended s₂ below o ∧ ∃ v L, o = .returned v ∧ own_Qlaw h0 n0 v s₂.heap L ∧ FrameEnd s o s₂ L room_1.cells room_1.slots := by
  obtain ⟨O_CS, P_CS, O_SI, P_SI⟩ := id gl
  obtain ⟨T1, h1, X1, e1, E1, A1, D1, U1, st1⟩ := newO X0 hx hZ hown (hw _ (List.mem_of_getElem? (i := 35) rfl)) (hw _ (List.mem_of_getElem? (i := 36) rfl)) (hw _ (List.mem_of_getElem? (i := 37) rfl)) e0 (g := (mkF m 124 #[.val (.int p1), .val (.int p2), .val (.int p3), .val (.long q4), .second, .val (.int p5), .val (.int i6), .val (.int i7), .val (.int i8), .val (.ref r9), .val (.ref r10), .val (.int (1 : Int32)), .val (.int (1 : Int32)), .val (.int (own_bs p5)), .val (.int (0 : Int32)), .unset, .unset] [])) rfl (hb hby at_124) (by decide) (by decide)
  obtain ⟨b1, g1⟩ : ∃ z, z = h0.size := ⟨_, rfl⟩
  rw [← g1] at A1 D1 U1 st1
  have Kp2 : Keep h0 h1 [] := (Keep.refl h0 []).ext E1
  have Fh3 : Fld Z h1 b1 "com/example/incorpus/incorpus/Span" "start" "I" (.int (0 : Int32)) := (D1 (Or.inr (hw _ (List.mem_of_getElem? (i := 48) rfl))) (ty := .int) (by decide))
  have gh4 : n0 ≤ b1 := Nat.le_trans Z0 (Nat.le_of_eq g1.symm)
  have Fh5 : Fld Z h1 b1 "com/example/incorpus/incorpus/Span" "end" "I" (.int (0 : Int32)) := (D1 (Or.inr (hw _ (List.mem_of_getElem? (i := 50) rfl))) (ty := .int) (by decide))
  obtain ⟨_, _, ⟨T6, L6, k6, n6⟩, -, X6, ⟨Lc6, hQ6, l6, y6, z6⟩, st6⟩ := X1.specialBack hx (y := (⟨"com/example/incorpus/incorpus/Span", "<init>", "(II)V"⟩ : MethodName)) rfl hown (mvT hZ (hw _ (List.mem_of_getElem? (i := 38) rfl))) (mvT hZ (hw _ (List.mem_of_getElem? (i := 39) rfl))) (mvT hZ (hw _ (List.mem_of_getElem? (i := 40) rfl))) (by decide) (backOf (W := 1) (own_rm_span l Z a0 hw [] G1 G3 gl b1 (own_bs p5) (own_bs p5) ((.int (0 : Int32))) ((.int (0 : Int32))) h1 n0 (Nat.le_trans Z0 Kp2.1) A1 Fh3 gh4 Fh5 ((own_bsn p5) : ¬ ((own_bs p5) < (0 : Int32))) (Int32.lt_irrefl : ¬ ((own_bs p5) < (own_bs p5)))) hZ (hw _ (List.mem_of_getElem? (i := 40) rfl)) (hw _ (List.mem_of_getElem? (i := 37) rfl)) (by decide) (by decide)) (g := (mkF m 135 #[.val (.int p1), .val (.int p2), .val (.int p3), .val (.long q4), .second, .val (.int p5), .val (.int i6), .val (.int i7), .val (.int i8), .val (.ref r9), .val (.ref r10), .val (.int (1 : Int32)), .val (.int (1 : Int32)), .val (.int (own_bs p5)), .val (.int (0 : Int32)), .unset, .unset] [(.int (own_bs p5)), (.int (own_bs p5)), (.ref b1), (.ref b1)])) rfl (by rw [hml]; rfl) (Steps.refl _) (a := b1) (argsL := [(.int (own_bs p5)), (.int (own_bs p5))]) (rest := [(.ref b1)]) (lenOf own_pd6 rfl) rfl (by show 2 * 0 + _ ≤ _; exact Nat.le_of_eq rfl) (hb hby at_135) (fun _ _ => ⟨rfl, e1, (by decide : 5 + 0 ≤ _), (by decide : 24 + 0 ≤ _)⟩)
  dsimp only [Pt.U, Pt.locs, Pt.cells, Pt.slots] at X6 l6 y6 z6 st6 hQ6
  subst y6 z6
  obtain ⟨rfl, Nq6, Kq6, f6_0, f6_1, f6_2⟩ := hQ6
  have N6 : Fr n0 L6 := by rw [l6]; exact Fr.app N0 Nq6
  have Kp7 : Keep h0 T6.heap [] := Kp2.trans Kq6 (allS (Or.inr (Nat.le_trans (Keep.refl h0 []).1 (Nat.le_of_eq g1.symm))) all0)
  obtain ⟨cq8, kq8, q8a, q8b, q8c⟩ := isOf hZ rfl f6_0
  obtain ⟨_, _, ⟨T8, L8, k8, n8⟩, -, X8, ⟨Lc8, hQ8, l8, y8, z8⟩, st8⟩ := X6.virtualBack hx (y := (⟨"com/example/incorpus/incorpus/Span", "isEmpty", "()Z"⟩ : MethodName)) (z := (⟨"com/example/incorpus/incorpus/Span", "isEmpty", "()Z"⟩ : MethodName)) hown (mvT hZ (hw _ (List.mem_of_getElem? (i := 51) rfl))) (mvT hZ (hw _ (List.mem_of_getElem? (i := 52) rfl))) (notFace_of_selects (args := #[]) (mvT hZ (hw _ (List.mem_of_getElem? (i := 54) rfl)))) (mvT hZ (hw _ (List.mem_of_getElem? (i := 54) rfl))) (mvT hZ (hw _ (List.mem_of_getElem? (i := 53) rfl))) (by decide) (backOf (W := 0) (own_rm_emp1 l Z a0 hw [] G1 G3 gl b1 (own_bs p5) (own_bs p5) T6.heap n0 (Nat.le_trans Z0 Kp7.1) f6_1 f6_2 (rfl : (own_bs p5) = (own_bs p5))) hZ (hw _ (List.mem_of_getElem? (i := 55) rfl)) (hw _ (List.mem_of_getElem? (i := 37) rfl)) (by decide) (by decide)) q8a q8c (g := (mkF m 142 #[.val (.int p1), .val (.int p2), .val (.int p3), .val (.long q4), .second, .val (.int p5), .val (.int i6), .val (.int i7), .val (.int i8), .val (.ref r9), .val (.ref r10), .val (.int (1 : Int32)), .val (.int (1 : Int32)), .val (.int (own_bs p5)), .val (.int (0 : Int32)), .val (.ref b1), .unset] [(.ref b1)])) rfl (by rw [hml]; rfl) (Steps.refl _) (argsL := []) (rest := []) (lenOf own_pd7 rfl) rfl (by show 2 * 0 + _ ≤ _; exact Nat.le_of_eq rfl) (hb hby at_142) (fun _ _ => ⟨rfl, rfl, (by decide : 5 + 0 ≤ _), (by decide : 24 + 0 ≤ _)⟩)
  dsimp only [Pt.U, Pt.locs, Pt.cells, Pt.slots] at X8 l8 y8 z8 st8 hQ8
  subst y8 z8
  obtain ⟨rfl, Nq8, e8⟩ := hQ8
  have N8 : Fr n0 L8 := by rw [l8]; exact Fr.app N6 Nq8
  obtain ⟨fs, hr, hrun, hended, hW, hsame⟩ := X8.leave (v := some (.int (1 : Int32))) (fun h => by rw [hret] at h; cases h)
  refine ⟨_, _, ?_, hrun, hended, _, _, rfl, ⟨rfl, N8⟩, ⟨_, rfl⟩, hW, hsame.mono (by decide) (by decide)⟩
  show Steps p.tables e below (s₁.setTop (mkF m 97 #[.val (.int p1), .val (.int p2), .val (.int p3), .val (.long q4), .second, .val (.int p5), .val (.int i6), .val (.int i7), .val (.int i8), .val (.ref r9), .val (.ref r10), .val (.int (1 : Int32)), .val (.int (1 : Int32)), .unset, .unset, .unset, .unset] [])) _
  refine XS.iload X0.here hx rfl (hb hby at_97) rfl ?_
  show Steps p.tables e below (s₁.setTop (mkF m 99 #[.val (.int p1), .val (.int p2), .val (.int p3), .val (.long q4), .second, .val (.int p5), .val (.int i6), .val (.int i7), .val (.int i8), .val (.ref r9), .val (.ref r10), .val (.int (1 : Int32)), .val (.int (1 : Int32)), .unset, .unset, .unset, .unset] [(.int p5)])) _
  refine X0.ldcInt hx hown (mvT hZ (hw _ (List.mem_of_getElem? (i := 84) rfl))) (g := (mkF m 99 #[.val (.int p1), .val (.int p2), .val (.int p3), .val (.long q4), .second, .val (.int p5), .val (.int i6), .val (.int i7), .val (.int i8), .val (.ref r9), .val (.ref r10), .val (.int (1 : Int32)), .val (.int (1 : Int32)), .unset, .unset, .unset, .unset] [(.int p5)])) rfl (hb hby at_99) _ ?_
  show Steps p.tables e below (s₁.setTop (mkF m 101 #[.val (.int p1), .val (.int p2), .val (.int p3), .val (.long q4), .second, .val (.int p5), .val (.int i6), .val (.int i7), .val (.int i8), .val (.ref r9), .val (.ref r10), .val (.int (1 : Int32)), .val (.int (1 : Int32)), .unset, .unset, .unset, .unset] [(.int (2147483647 : Int32)), (.int p5)])) _
  refine XS.iand X0.here hx rfl (hb hby at_101) rfl ?_
  show Steps p.tables e below (s₁.setTop (mkF m 102 #[.val (.int p1), .val (.int p2), .val (.int p3), .val (.long q4), .second, .val (.int p5), .val (.int i6), .val (.int i7), .val (.int i8), .val (.ref r9), .val (.ref r10), .val (.int (1 : Int32)), .val (.int (1 : Int32)), .unset, .unset, .unset, .unset] [(.int (own_bs p5))])) _
  refine XS.istore X0.here hx rfl (hb hby at_102) rfl (l' := #[.val (.int p1), .val (.int p2), .val (.int p3), .val (.long q4), .second, .val (.int p5), .val (.int i6), .val (.int i7), .val (.int i8), .val (.ref r9), .val (.ref r10), .val (.int (1 : Int32)), .val (.int (1 : Int32)), .val (.int (own_bs p5)), .unset, .unset, .unset]) rfl ?_
  show Steps p.tables e below (s₁.setTop (mkF m 104 #[.val (.int p1), .val (.int p2), .val (.int p3), .val (.long q4), .second, .val (.int p5), .val (.int i6), .val (.int i7), .val (.int i8), .val (.ref r9), .val (.ref r10), .val (.int (1 : Int32)), .val (.int (1 : Int32)), .val (.int (own_bs p5)), .unset, .unset, .unset] [])) _
  refine XS.iload X0.here hx rfl (hb hby at_104) rfl ?_
  show Steps p.tables e below (s₁.setTop (mkF m 106 #[.val (.int p1), .val (.int p2), .val (.int p3), .val (.long q4), .second, .val (.int p5), .val (.int i6), .val (.int i7), .val (.int i8), .val (.ref r9), .val (.ref r10), .val (.int (1 : Int32)), .val (.int (1 : Int32)), .val (.int (own_bs p5)), .unset, .unset, .unset] [(.int (own_bs p5))])) _
  refine X0.ldcInt hx hown (mvT hZ (hw _ (List.mem_of_getElem? (i := 85) rfl))) (g := (mkF m 106 #[.val (.int p1), .val (.int p2), .val (.int p3), .val (.long q4), .second, .val (.int p5), .val (.int i6), .val (.int i7), .val (.int i8), .val (.ref r9), .val (.ref r10), .val (.int (1 : Int32)), .val (.int (1 : Int32)), .val (.int (own_bs p5)), .unset, .unset, .unset] [(.int (own_bs p5))])) rfl (hb hby at_106) _ ?_
  show Steps p.tables e below (s₁.setTop (mkF m 108 #[.val (.int p1), .val (.int p2), .val (.int p3), .val (.long q4), .second, .val (.int p5), .val (.int i6), .val (.int i7), .val (.int i8), .val (.ref r9), .val (.ref r10), .val (.int (1 : Int32)), .val (.int (1 : Int32)), .val (.int (own_bs p5)), .unset, .unset, .unset] [(.int (2147483644 : Int32)), (.int (own_bs p5))])) _
  refine XS.icmpYes X0.here hx rfl (pc0 := 108) (pc' := 117) rfl (hb hby at_108) rfl (flt (hbs : ¬ ((2147483644 : Int32) < (own_bs p5)))).2.2.2 (by decide) (by decide) ?_
  show Steps p.tables e below (s₁.setTop (mkF m 117 #[.val (.int p1), .val (.int p2), .val (.int p3), .val (.long q4), .second, .val (.int p5), .val (.int i6), .val (.int i7), .val (.int i8), .val (.ref r9), .val (.ref r10), .val (.int (1 : Int32)), .val (.int (1 : Int32)), .val (.int (own_bs p5)), .unset, .unset, .unset] [])) _
  refine XS.iloadN X0.here hx rfl (hb hby at_117) rfl ?_
  show Steps p.tables e below (s₁.setTop (mkF m 118 #[.val (.int p1), .val (.int p2), .val (.int p3), .val (.long q4), .second, .val (.int p5), .val (.int i6), .val (.int i7), .val (.int i8), .val (.ref r9), .val (.ref r10), .val (.int (1 : Int32)), .val (.int (1 : Int32)), .val (.int (own_bs p5)), .unset, .unset, .unset] [(.int p2)])) _
  refine XS.iconst X0.here hx rfl (hb hby at_118) ?_
  show Steps p.tables e below (s₁.setTop (mkF m 119 #[.val (.int p1), .val (.int p2), .val (.int p3), .val (.long q4), .second, .val (.int p5), .val (.int i6), .val (.int i7), .val (.int i8), .val (.ref r9), .val (.ref r10), .val (.int (1 : Int32)), .val (.int (1 : Int32)), .val (.int (own_bs p5)), .unset, .unset, .unset] [(.int (2 : Int32)), (.int p2)])) _
  refine XS.iushr X0.here hx rfl (hb hby at_119) rfl ?_
  show Steps p.tables e below (s₁.setTop (mkF m 120 #[.val (.int p1), .val (.int p2), .val (.int p3), .val (.long q4), .second, .val (.int p5), .val (.int i6), .val (.int i7), .val (.int i8), .val (.ref r9), .val (.ref r10), .val (.int (1 : Int32)), .val (.int (1 : Int32)), .val (.int (own_bs p5)), .unset, .unset, .unset] [(.int ((p2.toUInt32 >>> ((2 : Int32) &&& 31).toUInt32).toInt32))])) _
  refine XS.iconst X0.here hx rfl (hb hby at_120) ?_
  show Steps p.tables e below (s₁.setTop (mkF m 121 #[.val (.int p1), .val (.int p2), .val (.int p3), .val (.long q4), .second, .val (.int p5), .val (.int i6), .val (.int i7), .val (.int i8), .val (.ref r9), .val (.ref r10), .val (.int (1 : Int32)), .val (.int (1 : Int32)), .val (.int (own_bs p5)), .unset, .unset, .unset] [(.int (3 : Int32)), (.int ((p2.toUInt32 >>> ((2 : Int32) &&& 31).toUInt32).toInt32))])) _
  refine XS.iand X0.here hx rfl (hb hby at_121) rfl ?_
  show Steps p.tables e below (s₁.setTop (mkF m 122 #[.val (.int p1), .val (.int p2), .val (.int p3), .val (.long q4), .second, .val (.int p5), .val (.int i6), .val (.int i7), .val (.int i8), .val (.ref r9), .val (.ref r10), .val (.int (1 : Int32)), .val (.int (1 : Int32)), .val (.int (own_bs p5)), .unset, .unset, .unset] [(.int (own_bl p2))])) _
  rw [hbl]
  show Steps p.tables e below (s₁.setTop (mkF m 122 #[.val (.int p1), .val (.int p2), .val (.int p3), .val (.long q4), .second, .val (.int p5), .val (.int i6), .val (.int i7), .val (.int i8), .val (.ref r9), .val (.ref r10), .val (.int (1 : Int32)), .val (.int (1 : Int32)), .val (.int (own_bs p5)), .unset, .unset, .unset] [(.int (0 : Int32))])) _
  refine XS.istore X0.here hx rfl (hb hby at_122) rfl (l' := #[.val (.int p1), .val (.int p2), .val (.int p3), .val (.long q4), .second, .val (.int p5), .val (.int i6), .val (.int i7), .val (.int i8), .val (.ref r9), .val (.ref r10), .val (.int (1 : Int32)), .val (.int (1 : Int32)), .val (.int (own_bs p5)), .val (.int (0 : Int32)), .unset, .unset]) rfl ?_
  show Steps p.tables e below (s₁.setTop (mkF m 124 #[.val (.int p1), .val (.int p2), .val (.int p3), .val (.long q4), .second, .val (.int p5), .val (.int i6), .val (.int i7), .val (.int i8), .val (.ref r9), .val (.ref r10), .val (.int (1 : Int32)), .val (.int (1 : Int32)), .val (.int (own_bs p5)), .val (.int (0 : Int32)), .unset, .unset] [])) _
  refine st1 _ ?_
  show Steps p.tables e below (T1.setTop (mkF m 127 #[.val (.int p1), .val (.int p2), .val (.int p3), .val (.long q4), .second, .val (.int p5), .val (.int i6), .val (.int i7), .val (.int i8), .val (.ref r9), .val (.ref r10), .val (.int (1 : Int32)), .val (.int (1 : Int32)), .val (.int (own_bs p5)), .val (.int (0 : Int32)), .unset, .unset] [(.ref b1)])) _
  refine XS.dup X1.here hx rfl (hb hby at_127) rfl rfl ?_
  show Steps p.tables e below (T1.setTop (mkF m 128 #[.val (.int p1), .val (.int p2), .val (.int p3), .val (.long q4), .second, .val (.int p5), .val (.int i6), .val (.int i7), .val (.int i8), .val (.ref r9), .val (.ref r10), .val (.int (1 : Int32)), .val (.int (1 : Int32)), .val (.int (own_bs p5)), .val (.int (0 : Int32)), .unset, .unset] [(.ref b1), (.ref b1)])) _
  refine XS.iload X1.here hx rfl (hb hby at_128) rfl ?_
  show Steps p.tables e below (T1.setTop (mkF m 130 #[.val (.int p1), .val (.int p2), .val (.int p3), .val (.long q4), .second, .val (.int p5), .val (.int i6), .val (.int i7), .val (.int i8), .val (.ref r9), .val (.ref r10), .val (.int (1 : Int32)), .val (.int (1 : Int32)), .val (.int (own_bs p5)), .val (.int (0 : Int32)), .unset, .unset] [(.int (own_bs p5)), (.ref b1), (.ref b1)])) _
  refine XS.iload X1.here hx rfl (hb hby at_130) rfl ?_
  show Steps p.tables e below (T1.setTop (mkF m 132 #[.val (.int p1), .val (.int p2), .val (.int p3), .val (.long q4), .second, .val (.int p5), .val (.int i6), .val (.int i7), .val (.int i8), .val (.ref r9), .val (.ref r10), .val (.int (1 : Int32)), .val (.int (1 : Int32)), .val (.int (own_bs p5)), .val (.int (0 : Int32)), .unset, .unset] [(.int (own_bs p5)), (.int (own_bs p5)), (.ref b1), (.ref b1)])) _
  refine XS.iload X1.here hx rfl (hb hby at_132) rfl ?_
  show Steps p.tables e below (T1.setTop (mkF m 134 #[.val (.int p1), .val (.int p2), .val (.int p3), .val (.long q4), .second, .val (.int p5), .val (.int i6), .val (.int i7), .val (.int i8), .val (.ref r9), .val (.ref r10), .val (.int (1 : Int32)), .val (.int (1 : Int32)), .val (.int (own_bs p5)), .val (.int (0 : Int32)), .unset, .unset] [(.int (0 : Int32)), (.int (own_bs p5)), (.int (own_bs p5)), (.ref b1), (.ref b1)])) _
  refine XS.iadd X1.here hx rfl (hb hby at_134) rfl ?_
  show Steps p.tables e below (T1.setTop (mkF m 135 #[.val (.int p1), .val (.int p2), .val (.int p3), .val (.long q4), .second, .val (.int p5), .val (.int i6), .val (.int i7), .val (.int i8), .val (.ref r9), .val (.ref r10), .val (.int (1 : Int32)), .val (.int (1 : Int32)), .val (.int (own_bs p5)), .val (.int (0 : Int32)), .unset, .unset] [(.int ((own_bs p5) + (0 : Int32))), (.int (own_bs p5)), (.ref b1), (.ref b1)])) _
  rw [(own_add0 (own_bs p5))]
  show Steps p.tables e below (T1.setTop (mkF m 135 #[.val (.int p1), .val (.int p2), .val (.int p3), .val (.long q4), .second, .val (.int p5), .val (.int i6), .val (.int i7), .val (.int i8), .val (.ref r9), .val (.ref r10), .val (.int (1 : Int32)), .val (.int (1 : Int32)), .val (.int (own_bs p5)), .val (.int (0 : Int32)), .unset, .unset] [(.int (own_bs p5)), (.int (own_bs p5)), (.ref b1), (.ref b1)])) _
  refine st6.trans ?_
  show Steps p.tables e below (T6.setTop (mkF m 138 #[.val (.int p1), .val (.int p2), .val (.int p3), .val (.long q4), .second, .val (.int p5), .val (.int i6), .val (.int i7), .val (.int i8), .val (.ref r9), .val (.ref r10), .val (.int (1 : Int32)), .val (.int (1 : Int32)), .val (.int (own_bs p5)), .val (.int (0 : Int32)), .unset, .unset] [(.ref b1)])) _
  refine XS.astore X6.here hx rfl (hb hby at_138) rfl rfl (l' := #[.val (.int p1), .val (.int p2), .val (.int p3), .val (.long q4), .second, .val (.int p5), .val (.int i6), .val (.int i7), .val (.int i8), .val (.ref r9), .val (.ref r10), .val (.int (1 : Int32)), .val (.int (1 : Int32)), .val (.int (own_bs p5)), .val (.int (0 : Int32)), .val (.ref b1), .unset]) rfl ?_
  show Steps p.tables e below (T6.setTop (mkF m 140 #[.val (.int p1), .val (.int p2), .val (.int p3), .val (.long q4), .second, .val (.int p5), .val (.int i6), .val (.int i7), .val (.int i8), .val (.ref r9), .val (.ref r10), .val (.int (1 : Int32)), .val (.int (1 : Int32)), .val (.int (own_bs p5)), .val (.int (0 : Int32)), .val (.ref b1), .unset] [])) _
  refine XS.aload X6.here hx rfl (hb hby at_140) rfl rfl ?_
  show Steps p.tables e below (T6.setTop (mkF m 142 #[.val (.int p1), .val (.int p2), .val (.int p3), .val (.long q4), .second, .val (.int p5), .val (.int i6), .val (.int i7), .val (.int i8), .val (.ref r9), .val (.ref r10), .val (.int (1 : Int32)), .val (.int (1 : Int32)), .val (.int (own_bs p5)), .val (.int (0 : Int32)), .val (.ref b1), .unset] [(.ref b1)])) _
  refine st8.trans ?_
  show Steps p.tables e below (T8.setTop (mkF m 145 #[.val (.int p1), .val (.int p2), .val (.int p3), .val (.long q4), .second, .val (.int p5), .val (.int i6), .val (.int i7), .val (.int i8), .val (.ref r9), .val (.ref r10), .val (.int (1 : Int32)), .val (.int (1 : Int32)), .val (.int (own_bs p5)), .val (.int (0 : Int32)), .val (.ref b1), .unset] [(.int (1 : Int32))])) _
  refine XS.istore X8.here hx rfl (hb hby at_145) rfl (l' := #[.val (.int p1), .val (.int p2), .val (.int p3), .val (.long q4), .second, .val (.int p5), .val (.int i6), .val (.int i7), .val (.int i8), .val (.ref r9), .val (.ref r10), .val (.int (1 : Int32)), .val (.int (1 : Int32)), .val (.int (own_bs p5)), .val (.int (0 : Int32)), .val (.ref b1), .val (.int (1 : Int32))]) rfl ?_
  show Steps p.tables e below (T8.setTop (mkF m 147 #[.val (.int p1), .val (.int p2), .val (.int p3), .val (.long q4), .second, .val (.int p5), .val (.int i6), .val (.int i7), .val (.int i8), .val (.ref r9), .val (.ref r10), .val (.int (1 : Int32)), .val (.int (1 : Int32)), .val (.int (own_bs p5)), .val (.int (0 : Int32)), .val (.ref b1), .val (.int (1 : Int32))] [])) _
  refine XS.iload X8.here hx rfl (hb hby at_147) rfl ?_
  show Steps p.tables e below (T8.setTop (mkF m 149 #[.val (.int p1), .val (.int p2), .val (.int p3), .val (.long q4), .second, .val (.int p5), .val (.int i6), .val (.int i7), .val (.int i8), .val (.ref r9), .val (.ref r10), .val (.int (1 : Int32)), .val (.int (1 : Int32)), .val (.int (own_bs p5)), .val (.int (0 : Int32)), .val (.ref b1), .val (.int (1 : Int32))] [(.int (1 : Int32))])) _
  refine XS.iload X8.here hx rfl (hb hby at_149) rfl ?_
  show Steps p.tables e below (T8.setTop (mkF m 151 #[.val (.int p1), .val (.int p2), .val (.int p3), .val (.long q4), .second, .val (.int p5), .val (.int i6), .val (.int i7), .val (.int i8), .val (.ref r9), .val (.ref r10), .val (.int (1 : Int32)), .val (.int (1 : Int32)), .val (.int (own_bs p5)), .val (.int (0 : Int32)), .val (.ref b1), .val (.int (1 : Int32))] [(.int i7), (.int (1 : Int32))])) _
  refine XS.ifNo X8.here hx rfl (hb hby at_151) rfl ((if0 _ _).trans (teq (hl : i7 = (0 : Int32))).2) ?_
  show Steps p.tables e below (T8.setTop (mkF m 154 #[.val (.int p1), .val (.int p2), .val (.int p3), .val (.long q4), .second, .val (.int p5), .val (.int i6), .val (.int i7), .val (.int i8), .val (.ref r9), .val (.ref r10), .val (.int (1 : Int32)), .val (.int (1 : Int32)), .val (.int (own_bs p5)), .val (.int (0 : Int32)), .val (.ref b1), .val (.int (1 : Int32))] [(.int (1 : Int32))])) _
  refine XS.iconst X8.here hx rfl (hb hby at_154) ?_
  show Steps p.tables e below (T8.setTop (mkF m 155 #[.val (.int p1), .val (.int p2), .val (.int p3), .val (.long q4), .second, .val (.int p5), .val (.int i6), .val (.int i7), .val (.int i8), .val (.ref r9), .val (.ref r10), .val (.int (1 : Int32)), .val (.int (1 : Int32)), .val (.int (own_bs p5)), .val (.int (0 : Int32)), .val (.ref b1), .val (.int (1 : Int32))] [(.int (1 : Int32)), (.int (1 : Int32))])) _
  refine XS.goto X8.here hx rfl (pc0 := 155) (pc' := 159) rfl (hb hby at_155) (by decide) (by decide) ?_
  show Steps p.tables e below (T8.setTop (mkF m 159 #[.val (.int p1), .val (.int p2), .val (.int p3), .val (.long q4), .second, .val (.int p5), .val (.int i6), .val (.int i7), .val (.int i8), .val (.ref r9), .val (.ref r10), .val (.int (1 : Int32)), .val (.int (1 : Int32)), .val (.int (own_bs p5)), .val (.int (0 : Int32)), .val (.ref b1), .val (.int (1 : Int32))] [(.int (1 : Int32)), (.int (1 : Int32))])) _
  refine XS.icmpNo X8.here hx rfl (hb hby at_159) rfl (teq (rfl : (1 : Int32) = (1 : Int32))).2 ?_
  show Steps p.tables e below (T8.setTop (mkF m 162 #[.val (.int p1), .val (.int p2), .val (.int p3), .val (.long q4), .second, .val (.int p5), .val (.int i6), .val (.int i7), .val (.int i8), .val (.ref r9), .val (.ref r10), .val (.int (1 : Int32)), .val (.int (1 : Int32)), .val (.int (own_bs p5)), .val (.int (0 : Int32)), .val (.ref b1), .val (.int (1 : Int32))] [])) _
  refine XS.iload X8.here hx rfl (hb hby at_162) rfl ?_
  show Steps p.tables e below (T8.setTop (mkF m 164 #[.val (.int p1), .val (.int p2), .val (.int p3), .val (.long q4), .second, .val (.int p5), .val (.int i6), .val (.int i7), .val (.int i8), .val (.ref r9), .val (.ref r10), .val (.int (1 : Int32)), .val (.int (1 : Int32)), .val (.int (own_bs p5)), .val (.int (0 : Int32)), .val (.ref b1), .val (.int (1 : Int32))] [(.int (1 : Int32))])) _
  refine XS.ifNo X8.here hx rfl (hb hby at_164) rfl ((if0 _ _).trans (feq (by decide : ¬ ((1 : Int32) = (0 : Int32)))).1) ?_
  show Steps p.tables e below (T8.setTop (mkF m 167 #[.val (.int p1), .val (.int p2), .val (.int p3), .val (.long q4), .second, .val (.int p5), .val (.int i6), .val (.int i7), .val (.int i8), .val (.ref r9), .val (.ref r10), .val (.int (1 : Int32)), .val (.int (1 : Int32)), .val (.int (own_bs p5)), .val (.int (0 : Int32)), .val (.ref b1), .val (.int (1 : Int32))] [])) _
  refine XS.iload X8.here hx rfl (hb hby at_167) rfl ?_
  show Steps p.tables e below (T8.setTop (mkF m 169 #[.val (.int p1), .val (.int p2), .val (.int p3), .val (.long q4), .second, .val (.int p5), .val (.int i6), .val (.int i7), .val (.int i8), .val (.ref r9), .val (.ref r10), .val (.int (1 : Int32)), .val (.int (1 : Int32)), .val (.int (own_bs p5)), .val (.int (0 : Int32)), .val (.ref b1), .val (.int (1 : Int32))] [(.int (1 : Int32))])) _
  refine XS.iload X8.here hx rfl (hb hby at_169) rfl ?_
  show Steps p.tables e below (T8.setTop (mkF m 171 #[.val (.int p1), .val (.int p2), .val (.int p3), .val (.long q4), .second, .val (.int p5), .val (.int i6), .val (.int i7), .val (.int i8), .val (.ref r9), .val (.ref r10), .val (.int (1 : Int32)), .val (.int (1 : Int32)), .val (.int (own_bs p5)), .val (.int (0 : Int32)), .val (.ref b1), .val (.int (1 : Int32))] [(.int (0 : Int32)), (.int (1 : Int32))])) _
  refine XS.ifNo X8.here hx rfl (hb hby at_171) rfl ((if0 _ _).trans (teq (rfl : (0 : Int32) = (0 : Int32))).2) ?_
  show Steps p.tables e below (T8.setTop (mkF m 174 #[.val (.int p1), .val (.int p2), .val (.int p3), .val (.long q4), .second, .val (.int p5), .val (.int i6), .val (.int i7), .val (.int i8), .val (.ref r9), .val (.ref r10), .val (.int (1 : Int32)), .val (.int (1 : Int32)), .val (.int (own_bs p5)), .val (.int (0 : Int32)), .val (.ref b1), .val (.int (1 : Int32))] [(.int (1 : Int32))])) _
  refine XS.iconst X8.here hx rfl (hb hby at_174) ?_
  show Steps p.tables e below (T8.setTop (mkF m 175 #[.val (.int p1), .val (.int p2), .val (.int p3), .val (.long q4), .second, .val (.int p5), .val (.int i6), .val (.int i7), .val (.int i8), .val (.ref r9), .val (.ref r10), .val (.int (1 : Int32)), .val (.int (1 : Int32)), .val (.int (own_bs p5)), .val (.int (0 : Int32)), .val (.ref b1), .val (.int (1 : Int32))] [(.int (1 : Int32)), (.int (1 : Int32))])) _
  refine XS.goto X8.here hx rfl (pc0 := 175) (pc' := 179) rfl (hb hby at_175) (by decide) (by decide) ?_
  show Steps p.tables e below (T8.setTop (mkF m 179 #[.val (.int p1), .val (.int p2), .val (.int p3), .val (.long q4), .second, .val (.int p5), .val (.int i6), .val (.int i7), .val (.int i8), .val (.ref r9), .val (.ref r10), .val (.int (1 : Int32)), .val (.int (1 : Int32)), .val (.int (own_bs p5)), .val (.int (0 : Int32)), .val (.ref b1), .val (.int (1 : Int32))] [(.int (1 : Int32)), (.int (1 : Int32))])) _
  refine XS.icmpNo X8.here hx rfl (hb hby at_179) rfl (teq (rfl : (1 : Int32) = (1 : Int32))).2 ?_
  show Steps p.tables e below (T8.setTop (mkF m 182 #[.val (.int p1), .val (.int p2), .val (.int p3), .val (.long q4), .second, .val (.int p5), .val (.int i6), .val (.int i7), .val (.int i8), .val (.ref r9), .val (.ref r10), .val (.int (1 : Int32)), .val (.int (1 : Int32)), .val (.int (own_bs p5)), .val (.int (0 : Int32)), .val (.ref b1), .val (.int (1 : Int32))] [])) _
  refine XS.iconst X8.here hx rfl (hb hby at_182) ?_
  show Steps p.tables e below (T8.setTop (mkF m 183 #[.val (.int p1), .val (.int p2), .val (.int p3), .val (.long q4), .second, .val (.int p5), .val (.int i6), .val (.int i7), .val (.int i8), .val (.ref r9), .val (.ref r10), .val (.int (1 : Int32)), .val (.int (1 : Int32)), .val (.int (own_bs p5)), .val (.int (0 : Int32)), .val (.ref b1), .val (.int (1 : Int32))] [(.int (1 : Int32))])) _
  refine XS.goto X8.here hx rfl (pc0 := 183) (pc' := 187) rfl (hb hby at_183) (by decide) (by decide) ?_
  show Steps p.tables e below (T8.setTop (mkF m 187 #[.val (.int p1), .val (.int p2), .val (.int p3), .val (.long q4), .second, .val (.int p5), .val (.int i6), .val (.int i7), .val (.int i8), .val (.ref r9), .val (.ref r10), .val (.int (1 : Int32)), .val (.int (1 : Int32)), .val (.int (own_bs p5)), .val (.int (0 : Int32)), .val (.ref b1), .val (.int (1 : Int32))] [(.int (1 : Int32))])) _
  exact retN X8 hx (t := .boolean) hret (by simp) (hb hby at_187) hr
set_option maxRecDepth 65536 in
set_option maxHeartbeats 40000000 in
theorem own_k110 {p : Program} {l : Launch} {e : Env} {s : State} {m : MethodId} {below : List Frame} {meth : Method} {c : Code} {s₁ : State} {Z : State} {a0 : Array Value} (hw : ∀ d ∈ tables_1, d.before a0 Z = true) (G1 : Int32) (G3 : Value) (gl : own_Glob Z G1 G3) (p1 : Int32) (p2 : Int32) (p3 : Int32) (q4 : Int64) (p5 : Int32) (i6 : Int32) (i7 : Int32) (i8 : Int32) (r9 : Addr) (r10 : Addr) {h0 : Heap} {n0 : Nat} (Z0 : n0 ≤ h0.size) (X00 : Old Z n0 h0) (hl : i7 = (0 : Int32)) (hbs : (2147483644 : Int32) < (own_bs p5)) (hbl : ¬ (own_bl p2 = (0 : Int32)))
    {locs0 : List Loc} (X0 : Stand p l e room_1 s m #[(.int p1), (.int p2), (.int p3), (.long q4), (.int p5)] below meth c s₁ locs0 4 22) (N0 : Fr n0 locs0) (hx : p.tables.exec = Jvm.exec) (hZ : Z.Warmed39 s.vm) (hby : c.code = code) (hml : c.maxLocals = 17) (hown : s.vm.findClass "com/example/incorpus/incorpus/SpanIsEmptyPinLaw" = some m.cls) (e0 : s₁.heap = h0) (hret : meth.sig.returnType = some .boolean) (hlk : meth.locks = false) :
    ∃ s₂ o, Steps p.tables e below (s₁.setTop (mkF m 97 #[.val (.int p1), .val (.int p2), .val (.int p3), .val (.long q4), .second, .val (.int p5), .val (.int i6), .val (.int i7), .val (.int i8), .val (.ref r9), .val (.ref r10), .val (.int (1 : Int32)), .val (.int (1 : Int32)), .unset, .unset, .unset, .unset] [])) s₂ ∧ s₂.status = .running ∧ Ended s₂ below o ∧ ∃ v L, o = .returned v ∧ own_Qlaw h0 n0 v s₂.heap L ∧ FrameEnd s o s₂ L room_1.cells room_1.slots := by
  obtain ⟨O_CS, P_CS, O_SI, P_SI⟩ := id gl
  obtain ⟨T1, h1, X1, e1, E1, A1, D1, U1, st1⟩ := newO X0 hx hZ hown (hw _ (List.mem_of_getElem? (i := 35) rfl)) (hw _ (List.mem_of_getElem? (i := 36) rfl)) (hw _ (List.mem_of_getElem? (i := 37) rfl)) e0 (g := (mkF m 124 #[.val (.int p1), .val (.int p2), .val (.int p3), .val (.long q4), .second, .val (.int p5), .val (.int i6), .val (.int i7), .val (.int i8), .val (.ref r9), .val (.ref r10), .val (.int (1 : Int32)), .val (.int (1 : Int32)), .val (.int (own_bs3 p5)), .val (.int (own_bl p2)), .unset, .unset] [])) rfl (hb hby at_124) (by decide) (by decide)
  obtain ⟨b1, g1⟩ : ∃ z, z = h0.size := ⟨_, rfl⟩
  rw [← g1] at A1 D1 U1 st1
  have Kp2 : Keep h0 h1 [] := (Keep.refl h0 []).ext E1
  have Fh3 : Fld Z h1 b1 "com/example/incorpus/incorpus/Span" "start" "I" (.int (0 : Int32)) := (D1 (Or.inr (hw _ (List.mem_of_getElem? (i := 48) rfl))) (ty := .int) (by decide))
  have gh4 : n0 ≤ b1 := Nat.le_trans Z0 (Nat.le_of_eq g1.symm)
  have Fh5 : Fld Z h1 b1 "com/example/incorpus/incorpus/Span" "end" "I" (.int (0 : Int32)) := (D1 (Or.inr (hw _ (List.mem_of_getElem? (i := 50) rfl))) (ty := .int) (by decide))
  obtain ⟨_, _, ⟨T6, L6, k6, n6⟩, -, X6, ⟨Lc6, hQ6, l6, y6, z6⟩, st6⟩ := X1.specialBack hx (y := (⟨"com/example/incorpus/incorpus/Span", "<init>", "(II)V"⟩ : MethodName)) rfl hown (mvT hZ (hw _ (List.mem_of_getElem? (i := 38) rfl))) (mvT hZ (hw _ (List.mem_of_getElem? (i := 39) rfl))) (mvT hZ (hw _ (List.mem_of_getElem? (i := 40) rfl))) (by decide) (backOf (W := 1) (own_rm_span l Z a0 hw [] G1 G3 gl b1 (own_bs3 p5) ((own_bs3 p5) + (own_bl p2)) ((.int (0 : Int32))) ((.int (0 : Int32))) h1 n0 (Nat.le_trans Z0 Kp2.1) A1 Fh3 gh4 Fh5 ((own_bs3n p5 hbs) : ¬ ((own_bs3 p5) < (0 : Int32))) ((own_pl2 p2 p5 hbs).1 : ¬ (((own_bs3 p5) + (own_bl p2)) < (own_bs3 p5)))) hZ (hw _ (List.mem_of_getElem? (i := 40) rfl)) (hw _ (List.mem_of_getElem? (i := 37) rfl)) (by decide) (by decide)) (g := (mkF m 135 #[.val (.int p1), .val (.int p2), .val (.int p3), .val (.long q4), .second, .val (.int p5), .val (.int i6), .val (.int i7), .val (.int i8), .val (.ref r9), .val (.ref r10), .val (.int (1 : Int32)), .val (.int (1 : Int32)), .val (.int (own_bs3 p5)), .val (.int (own_bl p2)), .unset, .unset] [(.int ((own_bs3 p5) + (own_bl p2))), (.int (own_bs3 p5)), (.ref b1), (.ref b1)])) rfl (by rw [hml]; rfl) (Steps.refl _) (a := b1) (argsL := [(.int (own_bs3 p5)), (.int ((own_bs3 p5) + (own_bl p2)))]) (rest := [(.ref b1)]) (lenOf own_pd6 rfl) rfl (by show 2 * 0 + _ ≤ _; exact Nat.le_of_eq rfl) (hb hby at_135) (fun _ _ => ⟨rfl, e1, (by decide : 5 + 0 ≤ _), (by decide : 24 + 0 ≤ _)⟩)
  dsimp only [Pt.U, Pt.locs, Pt.cells, Pt.slots] at X6 l6 y6 z6 st6 hQ6
  subst y6 z6
  obtain ⟨rfl, Nq6, Kq6, f6_0, f6_1, f6_2⟩ := hQ6
  have N6 : Fr n0 L6 := by rw [l6]; exact Fr.app N0 Nq6
  have Kp7 : Keep h0 T6.heap [] := Kp2.trans Kq6 (allS (Or.inr (Nat.le_trans (Keep.refl h0 []).1 (Nat.le_of_eq g1.symm))) all0)
  obtain ⟨cq8, kq8, q8a, q8b, q8c⟩ := isOf hZ rfl f6_0
  obtain ⟨_, _, ⟨T8, L8, k8, n8⟩, -, X8, ⟨Lc8, hQ8, l8, y8, z8⟩, st8⟩ := X6.virtualBack hx (y := (⟨"com/example/incorpus/incorpus/Span", "isEmpty", "()Z"⟩ : MethodName)) (z := (⟨"com/example/incorpus/incorpus/Span", "isEmpty", "()Z"⟩ : MethodName)) hown (mvT hZ (hw _ (List.mem_of_getElem? (i := 51) rfl))) (mvT hZ (hw _ (List.mem_of_getElem? (i := 52) rfl))) (notFace_of_selects (args := #[]) (mvT hZ (hw _ (List.mem_of_getElem? (i := 54) rfl)))) (mvT hZ (hw _ (List.mem_of_getElem? (i := 54) rfl))) (mvT hZ (hw _ (List.mem_of_getElem? (i := 53) rfl))) (by decide) (backOf (W := 0) (own_rm_emp0 l Z a0 hw [] G1 G3 gl b1 (own_bs3 p5) ((own_bs3 p5) + (own_bl p2)) T6.heap n0 (Nat.le_trans Z0 Kp7.1) f6_1 f6_2 (((own_pl2 p2 p5 hbs).2 hbl) : ¬ ((own_bs3 p5) = ((own_bs3 p5) + (own_bl p2))))) hZ (hw _ (List.mem_of_getElem? (i := 55) rfl)) (hw _ (List.mem_of_getElem? (i := 37) rfl)) (by decide) (by decide)) q8a q8c (g := (mkF m 142 #[.val (.int p1), .val (.int p2), .val (.int p3), .val (.long q4), .second, .val (.int p5), .val (.int i6), .val (.int i7), .val (.int i8), .val (.ref r9), .val (.ref r10), .val (.int (1 : Int32)), .val (.int (1 : Int32)), .val (.int (own_bs3 p5)), .val (.int (own_bl p2)), .val (.ref b1), .unset] [(.ref b1)])) rfl (by rw [hml]; rfl) (Steps.refl _) (argsL := []) (rest := []) (lenOf own_pd7 rfl) rfl (by show 2 * 0 + _ ≤ _; exact Nat.le_of_eq rfl) (hb hby at_142) (fun _ _ => ⟨rfl, rfl, (by decide : 5 + 0 ≤ _), (by decide : 24 + 0 ≤ _)⟩)
  dsimp only [Pt.U, Pt.locs, Pt.cells, Pt.slots] at X8 l8 y8 z8 st8 hQ8
  subst y8 z8
  obtain ⟨rfl, Nq8, e8⟩ := hQ8
  have N8 : Fr n0 L8 := by rw [l8]; exact Fr.app N6 Nq8
  obtain ⟨fs, hr, hrun, hended, hW, hsame⟩ := X8.leave (v := some (.int (1 : Int32))) (fun h => by rw [hret] at h; cases h)
  refine ⟨_, _, ?_, hrun, hended, _, _, rfl, ⟨rfl, N8⟩, ⟨_, rfl⟩, hW, hsame.mono (by decide) (by decide)⟩
  show Steps p.tables e below (s₁.setTop (mkF m 97 #[.val (.int p1), .val (.int p2), .val (.int p3), .val (.long q4), .second, .val (.int p5), .val (.int i6), .val (.int i7), .val (.int i8), .val (.ref r9), .val (.ref r10), .val (.int (1 : Int32)), .val (.int (1 : Int32)), .unset, .unset, .unset, .unset] [])) _
  refine XS.iload X0.here hx rfl (hb hby at_97) rfl ?_
  show Steps p.tables e below (s₁.setTop (mkF m 99 #[.val (.int p1), .val (.int p2), .val (.int p3), .val (.long q4), .second, .val (.int p5), .val (.int i6), .val (.int i7), .val (.int i8), .val (.ref r9), .val (.ref r10), .val (.int (1 : Int32)), .val (.int (1 : Int32)), .unset, .unset, .unset, .unset] [(.int p5)])) _
  refine X0.ldcInt hx hown (mvT hZ (hw _ (List.mem_of_getElem? (i := 84) rfl))) (g := (mkF m 99 #[.val (.int p1), .val (.int p2), .val (.int p3), .val (.long q4), .second, .val (.int p5), .val (.int i6), .val (.int i7), .val (.int i8), .val (.ref r9), .val (.ref r10), .val (.int (1 : Int32)), .val (.int (1 : Int32)), .unset, .unset, .unset, .unset] [(.int p5)])) rfl (hb hby at_99) _ ?_
  show Steps p.tables e below (s₁.setTop (mkF m 101 #[.val (.int p1), .val (.int p2), .val (.int p3), .val (.long q4), .second, .val (.int p5), .val (.int i6), .val (.int i7), .val (.int i8), .val (.ref r9), .val (.ref r10), .val (.int (1 : Int32)), .val (.int (1 : Int32)), .unset, .unset, .unset, .unset] [(.int (2147483647 : Int32)), (.int p5)])) _
  refine XS.iand X0.here hx rfl (hb hby at_101) rfl ?_
  show Steps p.tables e below (s₁.setTop (mkF m 102 #[.val (.int p1), .val (.int p2), .val (.int p3), .val (.long q4), .second, .val (.int p5), .val (.int i6), .val (.int i7), .val (.int i8), .val (.ref r9), .val (.ref r10), .val (.int (1 : Int32)), .val (.int (1 : Int32)), .unset, .unset, .unset, .unset] [(.int (own_bs p5))])) _
  refine XS.istore X0.here hx rfl (hb hby at_102) rfl (l' := #[.val (.int p1), .val (.int p2), .val (.int p3), .val (.long q4), .second, .val (.int p5), .val (.int i6), .val (.int i7), .val (.int i8), .val (.ref r9), .val (.ref r10), .val (.int (1 : Int32)), .val (.int (1 : Int32)), .val (.int (own_bs p5)), .unset, .unset, .unset]) rfl ?_
  show Steps p.tables e below (s₁.setTop (mkF m 104 #[.val (.int p1), .val (.int p2), .val (.int p3), .val (.long q4), .second, .val (.int p5), .val (.int i6), .val (.int i7), .val (.int i8), .val (.ref r9), .val (.ref r10), .val (.int (1 : Int32)), .val (.int (1 : Int32)), .val (.int (own_bs p5)), .unset, .unset, .unset] [])) _
  refine XS.iload X0.here hx rfl (hb hby at_104) rfl ?_
  show Steps p.tables e below (s₁.setTop (mkF m 106 #[.val (.int p1), .val (.int p2), .val (.int p3), .val (.long q4), .second, .val (.int p5), .val (.int i6), .val (.int i7), .val (.int i8), .val (.ref r9), .val (.ref r10), .val (.int (1 : Int32)), .val (.int (1 : Int32)), .val (.int (own_bs p5)), .unset, .unset, .unset] [(.int (own_bs p5))])) _
  refine X0.ldcInt hx hown (mvT hZ (hw _ (List.mem_of_getElem? (i := 85) rfl))) (g := (mkF m 106 #[.val (.int p1), .val (.int p2), .val (.int p3), .val (.long q4), .second, .val (.int p5), .val (.int i6), .val (.int i7), .val (.int i8), .val (.ref r9), .val (.ref r10), .val (.int (1 : Int32)), .val (.int (1 : Int32)), .val (.int (own_bs p5)), .unset, .unset, .unset] [(.int (own_bs p5))])) rfl (hb hby at_106) _ ?_
  show Steps p.tables e below (s₁.setTop (mkF m 108 #[.val (.int p1), .val (.int p2), .val (.int p3), .val (.long q4), .second, .val (.int p5), .val (.int i6), .val (.int i7), .val (.int i8), .val (.ref r9), .val (.ref r10), .val (.int (1 : Int32)), .val (.int (1 : Int32)), .val (.int (own_bs p5)), .unset, .unset, .unset] [(.int (2147483644 : Int32)), (.int (own_bs p5))])) _
  refine XS.icmpNo X0.here hx rfl (hb hby at_108) rfl (tlt (hbs : (2147483644 : Int32) < (own_bs p5))).2.2.2 ?_
  show Steps p.tables e below (s₁.setTop (mkF m 111 #[.val (.int p1), .val (.int p2), .val (.int p3), .val (.long q4), .second, .val (.int p5), .val (.int i6), .val (.int i7), .val (.int i8), .val (.ref r9), .val (.ref r10), .val (.int (1 : Int32)), .val (.int (1 : Int32)), .val (.int (own_bs p5)), .unset, .unset, .unset] [])) _
  refine XS.iload X0.here hx rfl (hb hby at_111) rfl ?_
  show Steps p.tables e below (s₁.setTop (mkF m 113 #[.val (.int p1), .val (.int p2), .val (.int p3), .val (.long q4), .second, .val (.int p5), .val (.int i6), .val (.int i7), .val (.int i8), .val (.ref r9), .val (.ref r10), .val (.int (1 : Int32)), .val (.int (1 : Int32)), .val (.int (own_bs p5)), .unset, .unset, .unset] [(.int (own_bs p5))])) _
  refine XS.iconst X0.here hx rfl (hb hby at_113) ?_
  show Steps p.tables e below (s₁.setTop (mkF m 114 #[.val (.int p1), .val (.int p2), .val (.int p3), .val (.long q4), .second, .val (.int p5), .val (.int i6), .val (.int i7), .val (.int i8), .val (.ref r9), .val (.ref r10), .val (.int (1 : Int32)), .val (.int (1 : Int32)), .val (.int (own_bs p5)), .unset, .unset, .unset] [(.int (3 : Int32)), (.int (own_bs p5))])) _
  refine XS.isub X0.here hx rfl (hb hby at_114) rfl ?_
  show Steps p.tables e below (s₁.setTop (mkF m 115 #[.val (.int p1), .val (.int p2), .val (.int p3), .val (.long q4), .second, .val (.int p5), .val (.int i6), .val (.int i7), .val (.int i8), .val (.ref r9), .val (.ref r10), .val (.int (1 : Int32)), .val (.int (1 : Int32)), .val (.int (own_bs p5)), .unset, .unset, .unset] [(.int (own_bs3 p5))])) _
  refine XS.istore X0.here hx rfl (hb hby at_115) rfl (l' := #[.val (.int p1), .val (.int p2), .val (.int p3), .val (.long q4), .second, .val (.int p5), .val (.int i6), .val (.int i7), .val (.int i8), .val (.ref r9), .val (.ref r10), .val (.int (1 : Int32)), .val (.int (1 : Int32)), .val (.int (own_bs3 p5)), .unset, .unset, .unset]) rfl ?_
  show Steps p.tables e below (s₁.setTop (mkF m 117 #[.val (.int p1), .val (.int p2), .val (.int p3), .val (.long q4), .second, .val (.int p5), .val (.int i6), .val (.int i7), .val (.int i8), .val (.ref r9), .val (.ref r10), .val (.int (1 : Int32)), .val (.int (1 : Int32)), .val (.int (own_bs3 p5)), .unset, .unset, .unset] [])) _
  refine XS.iloadN X0.here hx rfl (hb hby at_117) rfl ?_
  show Steps p.tables e below (s₁.setTop (mkF m 118 #[.val (.int p1), .val (.int p2), .val (.int p3), .val (.long q4), .second, .val (.int p5), .val (.int i6), .val (.int i7), .val (.int i8), .val (.ref r9), .val (.ref r10), .val (.int (1 : Int32)), .val (.int (1 : Int32)), .val (.int (own_bs3 p5)), .unset, .unset, .unset] [(.int p2)])) _
  refine XS.iconst X0.here hx rfl (hb hby at_118) ?_
  show Steps p.tables e below (s₁.setTop (mkF m 119 #[.val (.int p1), .val (.int p2), .val (.int p3), .val (.long q4), .second, .val (.int p5), .val (.int i6), .val (.int i7), .val (.int i8), .val (.ref r9), .val (.ref r10), .val (.int (1 : Int32)), .val (.int (1 : Int32)), .val (.int (own_bs3 p5)), .unset, .unset, .unset] [(.int (2 : Int32)), (.int p2)])) _
  refine XS.iushr X0.here hx rfl (hb hby at_119) rfl ?_
  show Steps p.tables e below (s₁.setTop (mkF m 120 #[.val (.int p1), .val (.int p2), .val (.int p3), .val (.long q4), .second, .val (.int p5), .val (.int i6), .val (.int i7), .val (.int i8), .val (.ref r9), .val (.ref r10), .val (.int (1 : Int32)), .val (.int (1 : Int32)), .val (.int (own_bs3 p5)), .unset, .unset, .unset] [(.int ((p2.toUInt32 >>> ((2 : Int32) &&& 31).toUInt32).toInt32))])) _
  refine XS.iconst X0.here hx rfl (hb hby at_120) ?_
  show Steps p.tables e below (s₁.setTop (mkF m 121 #[.val (.int p1), .val (.int p2), .val (.int p3), .val (.long q4), .second, .val (.int p5), .val (.int i6), .val (.int i7), .val (.int i8), .val (.ref r9), .val (.ref r10), .val (.int (1 : Int32)), .val (.int (1 : Int32)), .val (.int (own_bs3 p5)), .unset, .unset, .unset] [(.int (3 : Int32)), (.int ((p2.toUInt32 >>> ((2 : Int32) &&& 31).toUInt32).toInt32))])) _
  refine XS.iand X0.here hx rfl (hb hby at_121) rfl ?_
  show Steps p.tables e below (s₁.setTop (mkF m 122 #[.val (.int p1), .val (.int p2), .val (.int p3), .val (.long q4), .second, .val (.int p5), .val (.int i6), .val (.int i7), .val (.int i8), .val (.ref r9), .val (.ref r10), .val (.int (1 : Int32)), .val (.int (1 : Int32)), .val (.int (own_bs3 p5)), .unset, .unset, .unset] [(.int (own_bl p2))])) _
  refine XS.istore X0.here hx rfl (hb hby at_122) rfl (l' := #[.val (.int p1), .val (.int p2), .val (.int p3), .val (.long q4), .second, .val (.int p5), .val (.int i6), .val (.int i7), .val (.int i8), .val (.ref r9), .val (.ref r10), .val (.int (1 : Int32)), .val (.int (1 : Int32)), .val (.int (own_bs3 p5)), .val (.int (own_bl p2)), .unset, .unset]) rfl ?_
  show Steps p.tables e below (s₁.setTop (mkF m 124 #[.val (.int p1), .val (.int p2), .val (.int p3), .val (.long q4), .second, .val (.int p5), .val (.int i6), .val (.int i7), .val (.int i8), .val (.ref r9), .val (.ref r10), .val (.int (1 : Int32)), .val (.int (1 : Int32)), .val (.int (own_bs3 p5)), .val (.int (own_bl p2)), .unset, .unset] [])) _
  refine st1 _ ?_
  show Steps p.tables e below (T1.setTop (mkF m 127 #[.val (.int p1), .val (.int p2), .val (.int p3), .val (.long q4), .second, .val (.int p5), .val (.int i6), .val (.int i7), .val (.int i8), .val (.ref r9), .val (.ref r10), .val (.int (1 : Int32)), .val (.int (1 : Int32)), .val (.int (own_bs3 p5)), .val (.int (own_bl p2)), .unset, .unset] [(.ref b1)])) _
  refine XS.dup X1.here hx rfl (hb hby at_127) rfl rfl ?_
  show Steps p.tables e below (T1.setTop (mkF m 128 #[.val (.int p1), .val (.int p2), .val (.int p3), .val (.long q4), .second, .val (.int p5), .val (.int i6), .val (.int i7), .val (.int i8), .val (.ref r9), .val (.ref r10), .val (.int (1 : Int32)), .val (.int (1 : Int32)), .val (.int (own_bs3 p5)), .val (.int (own_bl p2)), .unset, .unset] [(.ref b1), (.ref b1)])) _
  refine XS.iload X1.here hx rfl (hb hby at_128) rfl ?_
  show Steps p.tables e below (T1.setTop (mkF m 130 #[.val (.int p1), .val (.int p2), .val (.int p3), .val (.long q4), .second, .val (.int p5), .val (.int i6), .val (.int i7), .val (.int i8), .val (.ref r9), .val (.ref r10), .val (.int (1 : Int32)), .val (.int (1 : Int32)), .val (.int (own_bs3 p5)), .val (.int (own_bl p2)), .unset, .unset] [(.int (own_bs3 p5)), (.ref b1), (.ref b1)])) _
  refine XS.iload X1.here hx rfl (hb hby at_130) rfl ?_
  show Steps p.tables e below (T1.setTop (mkF m 132 #[.val (.int p1), .val (.int p2), .val (.int p3), .val (.long q4), .second, .val (.int p5), .val (.int i6), .val (.int i7), .val (.int i8), .val (.ref r9), .val (.ref r10), .val (.int (1 : Int32)), .val (.int (1 : Int32)), .val (.int (own_bs3 p5)), .val (.int (own_bl p2)), .unset, .unset] [(.int (own_bs3 p5)), (.int (own_bs3 p5)), (.ref b1), (.ref b1)])) _
  refine XS.iload X1.here hx rfl (hb hby at_132) rfl ?_
  show Steps p.tables e below (T1.setTop (mkF m 134 #[.val (.int p1), .val (.int p2), .val (.int p3), .val (.long q4), .second, .val (.int p5), .val (.int i6), .val (.int i7), .val (.int i8), .val (.ref r9), .val (.ref r10), .val (.int (1 : Int32)), .val (.int (1 : Int32)), .val (.int (own_bs3 p5)), .val (.int (own_bl p2)), .unset, .unset] [(.int (own_bl p2)), (.int (own_bs3 p5)), (.int (own_bs3 p5)), (.ref b1), (.ref b1)])) _
  refine XS.iadd X1.here hx rfl (hb hby at_134) rfl ?_
  show Steps p.tables e below (T1.setTop (mkF m 135 #[.val (.int p1), .val (.int p2), .val (.int p3), .val (.long q4), .second, .val (.int p5), .val (.int i6), .val (.int i7), .val (.int i8), .val (.ref r9), .val (.ref r10), .val (.int (1 : Int32)), .val (.int (1 : Int32)), .val (.int (own_bs3 p5)), .val (.int (own_bl p2)), .unset, .unset] [(.int ((own_bs3 p5) + (own_bl p2))), (.int (own_bs3 p5)), (.ref b1), (.ref b1)])) _
  refine st6.trans ?_
  show Steps p.tables e below (T6.setTop (mkF m 138 #[.val (.int p1), .val (.int p2), .val (.int p3), .val (.long q4), .second, .val (.int p5), .val (.int i6), .val (.int i7), .val (.int i8), .val (.ref r9), .val (.ref r10), .val (.int (1 : Int32)), .val (.int (1 : Int32)), .val (.int (own_bs3 p5)), .val (.int (own_bl p2)), .unset, .unset] [(.ref b1)])) _
  refine XS.astore X6.here hx rfl (hb hby at_138) rfl rfl (l' := #[.val (.int p1), .val (.int p2), .val (.int p3), .val (.long q4), .second, .val (.int p5), .val (.int i6), .val (.int i7), .val (.int i8), .val (.ref r9), .val (.ref r10), .val (.int (1 : Int32)), .val (.int (1 : Int32)), .val (.int (own_bs3 p5)), .val (.int (own_bl p2)), .val (.ref b1), .unset]) rfl ?_
  show Steps p.tables e below (T6.setTop (mkF m 140 #[.val (.int p1), .val (.int p2), .val (.int p3), .val (.long q4), .second, .val (.int p5), .val (.int i6), .val (.int i7), .val (.int i8), .val (.ref r9), .val (.ref r10), .val (.int (1 : Int32)), .val (.int (1 : Int32)), .val (.int (own_bs3 p5)), .val (.int (own_bl p2)), .val (.ref b1), .unset] [])) _
  refine XS.aload X6.here hx rfl (hb hby at_140) rfl rfl ?_
  show Steps p.tables e below (T6.setTop (mkF m 142 #[.val (.int p1), .val (.int p2), .val (.int p3), .val (.long q4), .second, .val (.int p5), .val (.int i6), .val (.int i7), .val (.int i8), .val (.ref r9), .val (.ref r10), .val (.int (1 : Int32)), .val (.int (1 : Int32)), .val (.int (own_bs3 p5)), .val (.int (own_bl p2)), .val (.ref b1), .unset] [(.ref b1)])) _
  refine st8.trans ?_
  show Steps p.tables e below (T8.setTop (mkF m 145 #[.val (.int p1), .val (.int p2), .val (.int p3), .val (.long q4), .second, .val (.int p5), .val (.int i6), .val (.int i7), .val (.int i8), .val (.ref r9), .val (.ref r10), .val (.int (1 : Int32)), .val (.int (1 : Int32)), .val (.int (own_bs3 p5)), .val (.int (own_bl p2)), .val (.ref b1), .unset] [(.int (0 : Int32))])) _
  refine XS.istore X8.here hx rfl (hb hby at_145) rfl (l' := #[.val (.int p1), .val (.int p2), .val (.int p3), .val (.long q4), .second, .val (.int p5), .val (.int i6), .val (.int i7), .val (.int i8), .val (.ref r9), .val (.ref r10), .val (.int (1 : Int32)), .val (.int (1 : Int32)), .val (.int (own_bs3 p5)), .val (.int (own_bl p2)), .val (.ref b1), .val (.int (0 : Int32))]) rfl ?_
  show Steps p.tables e below (T8.setTop (mkF m 147 #[.val (.int p1), .val (.int p2), .val (.int p3), .val (.long q4), .second, .val (.int p5), .val (.int i6), .val (.int i7), .val (.int i8), .val (.ref r9), .val (.ref r10), .val (.int (1 : Int32)), .val (.int (1 : Int32)), .val (.int (own_bs3 p5)), .val (.int (own_bl p2)), .val (.ref b1), .val (.int (0 : Int32))] [])) _
  refine XS.iload X8.here hx rfl (hb hby at_147) rfl ?_
  show Steps p.tables e below (T8.setTop (mkF m 149 #[.val (.int p1), .val (.int p2), .val (.int p3), .val (.long q4), .second, .val (.int p5), .val (.int i6), .val (.int i7), .val (.int i8), .val (.ref r9), .val (.ref r10), .val (.int (1 : Int32)), .val (.int (1 : Int32)), .val (.int (own_bs3 p5)), .val (.int (own_bl p2)), .val (.ref b1), .val (.int (0 : Int32))] [(.int (1 : Int32))])) _
  refine XS.iload X8.here hx rfl (hb hby at_149) rfl ?_
  show Steps p.tables e below (T8.setTop (mkF m 151 #[.val (.int p1), .val (.int p2), .val (.int p3), .val (.long q4), .second, .val (.int p5), .val (.int i6), .val (.int i7), .val (.int i8), .val (.ref r9), .val (.ref r10), .val (.int (1 : Int32)), .val (.int (1 : Int32)), .val (.int (own_bs3 p5)), .val (.int (own_bl p2)), .val (.ref b1), .val (.int (0 : Int32))] [(.int i7), (.int (1 : Int32))])) _
  refine XS.ifNo X8.here hx rfl (hb hby at_151) rfl ((if0 _ _).trans (teq (hl : i7 = (0 : Int32))).2) ?_
  show Steps p.tables e below (T8.setTop (mkF m 154 #[.val (.int p1), .val (.int p2), .val (.int p3), .val (.long q4), .second, .val (.int p5), .val (.int i6), .val (.int i7), .val (.int i8), .val (.ref r9), .val (.ref r10), .val (.int (1 : Int32)), .val (.int (1 : Int32)), .val (.int (own_bs3 p5)), .val (.int (own_bl p2)), .val (.ref b1), .val (.int (0 : Int32))] [(.int (1 : Int32))])) _
  refine XS.iconst X8.here hx rfl (hb hby at_154) ?_
  show Steps p.tables e below (T8.setTop (mkF m 155 #[.val (.int p1), .val (.int p2), .val (.int p3), .val (.long q4), .second, .val (.int p5), .val (.int i6), .val (.int i7), .val (.int i8), .val (.ref r9), .val (.ref r10), .val (.int (1 : Int32)), .val (.int (1 : Int32)), .val (.int (own_bs3 p5)), .val (.int (own_bl p2)), .val (.ref b1), .val (.int (0 : Int32))] [(.int (1 : Int32)), (.int (1 : Int32))])) _
  refine XS.goto X8.here hx rfl (pc0 := 155) (pc' := 159) rfl (hb hby at_155) (by decide) (by decide) ?_
  show Steps p.tables e below (T8.setTop (mkF m 159 #[.val (.int p1), .val (.int p2), .val (.int p3), .val (.long q4), .second, .val (.int p5), .val (.int i6), .val (.int i7), .val (.int i8), .val (.ref r9), .val (.ref r10), .val (.int (1 : Int32)), .val (.int (1 : Int32)), .val (.int (own_bs3 p5)), .val (.int (own_bl p2)), .val (.ref b1), .val (.int (0 : Int32))] [(.int (1 : Int32)), (.int (1 : Int32))])) _
  refine XS.icmpNo X8.here hx rfl (hb hby at_159) rfl (teq (rfl : (1 : Int32) = (1 : Int32))).2 ?_
  show Steps p.tables e below (T8.setTop (mkF m 162 #[.val (.int p1), .val (.int p2), .val (.int p3), .val (.long q4), .second, .val (.int p5), .val (.int i6), .val (.int i7), .val (.int i8), .val (.ref r9), .val (.ref r10), .val (.int (1 : Int32)), .val (.int (1 : Int32)), .val (.int (own_bs3 p5)), .val (.int (own_bl p2)), .val (.ref b1), .val (.int (0 : Int32))] [])) _
  refine XS.iload X8.here hx rfl (hb hby at_162) rfl ?_
  show Steps p.tables e below (T8.setTop (mkF m 164 #[.val (.int p1), .val (.int p2), .val (.int p3), .val (.long q4), .second, .val (.int p5), .val (.int i6), .val (.int i7), .val (.int i8), .val (.ref r9), .val (.ref r10), .val (.int (1 : Int32)), .val (.int (1 : Int32)), .val (.int (own_bs3 p5)), .val (.int (own_bl p2)), .val (.ref b1), .val (.int (0 : Int32))] [(.int (1 : Int32))])) _
  refine XS.ifNo X8.here hx rfl (hb hby at_164) rfl ((if0 _ _).trans (feq (by decide : ¬ ((1 : Int32) = (0 : Int32)))).1) ?_
  show Steps p.tables e below (T8.setTop (mkF m 167 #[.val (.int p1), .val (.int p2), .val (.int p3), .val (.long q4), .second, .val (.int p5), .val (.int i6), .val (.int i7), .val (.int i8), .val (.ref r9), .val (.ref r10), .val (.int (1 : Int32)), .val (.int (1 : Int32)), .val (.int (own_bs3 p5)), .val (.int (own_bl p2)), .val (.ref b1), .val (.int (0 : Int32))] [])) _
  refine XS.iload X8.here hx rfl (hb hby at_167) rfl ?_
  show Steps p.tables e below (T8.setTop (mkF m 169 #[.val (.int p1), .val (.int p2), .val (.int p3), .val (.long q4), .second, .val (.int p5), .val (.int i6), .val (.int i7), .val (.int i8), .val (.ref r9), .val (.ref r10), .val (.int (1 : Int32)), .val (.int (1 : Int32)), .val (.int (own_bs3 p5)), .val (.int (own_bl p2)), .val (.ref b1), .val (.int (0 : Int32))] [(.int (0 : Int32))])) _
  refine XS.iload X8.here hx rfl (hb hby at_169) rfl ?_
  show Steps p.tables e below (T8.setTop (mkF m 171 #[.val (.int p1), .val (.int p2), .val (.int p3), .val (.long q4), .second, .val (.int p5), .val (.int i6), .val (.int i7), .val (.int i8), .val (.ref r9), .val (.ref r10), .val (.int (1 : Int32)), .val (.int (1 : Int32)), .val (.int (own_bs3 p5)), .val (.int (own_bl p2)), .val (.ref b1), .val (.int (0 : Int32))] [(.int (own_bl p2)), (.int (0 : Int32))])) _
  refine XS.ifYes X8.here hx rfl (pc0 := 171) (pc' := 178) rfl (hb hby at_171) rfl ((if0 _ _).trans (feq (hbl : ¬ ((own_bl p2) = (0 : Int32)))).2) (by decide) (by decide) ?_
  show Steps p.tables e below (T8.setTop (mkF m 178 #[.val (.int p1), .val (.int p2), .val (.int p3), .val (.long q4), .second, .val (.int p5), .val (.int i6), .val (.int i7), .val (.int i8), .val (.ref r9), .val (.ref r10), .val (.int (1 : Int32)), .val (.int (1 : Int32)), .val (.int (own_bs3 p5)), .val (.int (own_bl p2)), .val (.ref b1), .val (.int (0 : Int32))] [(.int (0 : Int32))])) _
  refine XS.iconst X8.here hx rfl (hb hby at_178) ?_
  show Steps p.tables e below (T8.setTop (mkF m 179 #[.val (.int p1), .val (.int p2), .val (.int p3), .val (.long q4), .second, .val (.int p5), .val (.int i6), .val (.int i7), .val (.int i8), .val (.ref r9), .val (.ref r10), .val (.int (1 : Int32)), .val (.int (1 : Int32)), .val (.int (own_bs3 p5)), .val (.int (own_bl p2)), .val (.ref b1), .val (.int (0 : Int32))] [(.int (0 : Int32)), (.int (0 : Int32))])) _
  refine XS.icmpNo X8.here hx rfl (hb hby at_179) rfl (teq (rfl : (0 : Int32) = (0 : Int32))).2 ?_
  show Steps p.tables e below (T8.setTop (mkF m 182 #[.val (.int p1), .val (.int p2), .val (.int p3), .val (.long q4), .second, .val (.int p5), .val (.int i6), .val (.int i7), .val (.int i8), .val (.ref r9), .val (.ref r10), .val (.int (1 : Int32)), .val (.int (1 : Int32)), .val (.int (own_bs3 p5)), .val (.int (own_bl p2)), .val (.ref b1), .val (.int (0 : Int32))] [])) _
  refine XS.iconst X8.here hx rfl (hb hby at_182) ?_
  show Steps p.tables e below (T8.setTop (mkF m 183 #[.val (.int p1), .val (.int p2), .val (.int p3), .val (.long q4), .second, .val (.int p5), .val (.int i6), .val (.int i7), .val (.int i8), .val (.ref r9), .val (.ref r10), .val (.int (1 : Int32)), .val (.int (1 : Int32)), .val (.int (own_bs3 p5)), .val (.int (own_bl p2)), .val (.ref b1), .val (.int (0 : Int32))] [(.int (1 : Int32))])) _
  refine XS.goto X8.here hx rfl (pc0 := 183) (pc' := 187) rfl (hb hby at_183) (by decide) (by decide) ?_
  show Steps p.tables e below (T8.setTop (mkF m 187 #[.val (.int p1), .val (.int p2), .val (.int p3), .val (.long q4), .second, .val (.int p5), .val (.int i6), .val (.int i7), .val (.int i8), .val (.ref r9), .val (.ref r10), .val (.int (1 : Int32)), .val (.int (1 : Int32)), .val (.int (own_bs3 p5)), .val (.int (own_bl p2)), .val (.ref b1), .val (.int (0 : Int32))] [(.int (1 : Int32))])) _
  exact retN X8 hx (t := .boolean) hret (by simp) (hb hby at_187) hr
set_option maxRecDepth 65536 in
set_option maxHeartbeats 40000000 in
theorem own_k111 {p : Program} {l : Launch} {e : Env} {s : State} {m : MethodId} {below : List Frame} {meth : Method} {c : Code} {s₁ : State} {Z : State} {a0 : Array Value} (hw : ∀ d ∈ tables_1, d.before a0 Z = true) (G1 : Int32) (G3 : Value) (gl : own_Glob Z G1 G3) (p1 : Int32) (p2 : Int32) (p3 : Int32) (q4 : Int64) (p5 : Int32) (i6 : Int32) (i7 : Int32) (i8 : Int32) (r9 : Addr) (r10 : Addr) {h0 : Heap} {n0 : Nat} (Z0 : n0 ≤ h0.size) (X00 : Old Z n0 h0) (hl : i7 = (0 : Int32)) (hbs : (2147483644 : Int32) < (own_bs p5)) (hbl : own_bl p2 = 0)
    {locs0 : List Loc} (X0 : Stand p l e room_1 s m #[(.int p1), (.int p2), (.int p3), (.long q4), (.int p5)] below meth c s₁ locs0 4 22) (N0 : Fr n0 locs0) (hx : p.tables.exec = Jvm.exec) (hZ : Z.Warmed39 s.vm) (hby : c.code = code) (hml : c.maxLocals = 17) (hown : s.vm.findClass "com/example/incorpus/incorpus/SpanIsEmptyPinLaw" = some m.cls) (e0 : s₁.heap = h0) (hret : meth.sig.returnType = some .boolean) (hlk : meth.locks = false) :
    ∃ s₂ o, Steps p.tables e below (s₁.setTop (mkF m 97 #[.val (.int p1), .val (.int p2), .val (.int p3), .val (.long q4), .second, .val (.int p5), .val (.int i6), .val (.int i7), .val (.int i8), .val (.ref r9), .val (.ref r10), .val (.int (1 : Int32)), .val (.int (1 : Int32)), .unset, .unset, .unset, .unset] [])) s₂ ∧ s₂.status = .running ∧ Ended s₂ below o ∧ ∃ v L, o = .returned v ∧ own_Qlaw h0 n0 v s₂.heap L ∧ FrameEnd s o s₂ L room_1.cells room_1.slots := by
  obtain ⟨O_CS, P_CS, O_SI, P_SI⟩ := id gl
  obtain ⟨T1, h1, X1, e1, E1, A1, D1, U1, st1⟩ := newO X0 hx hZ hown (hw _ (List.mem_of_getElem? (i := 35) rfl)) (hw _ (List.mem_of_getElem? (i := 36) rfl)) (hw _ (List.mem_of_getElem? (i := 37) rfl)) e0 (g := (mkF m 124 #[.val (.int p1), .val (.int p2), .val (.int p3), .val (.long q4), .second, .val (.int p5), .val (.int i6), .val (.int i7), .val (.int i8), .val (.ref r9), .val (.ref r10), .val (.int (1 : Int32)), .val (.int (1 : Int32)), .val (.int (own_bs3 p5)), .val (.int (0 : Int32)), .unset, .unset] [])) rfl (hb hby at_124) (by decide) (by decide)
  obtain ⟨b1, g1⟩ : ∃ z, z = h0.size := ⟨_, rfl⟩
  rw [← g1] at A1 D1 U1 st1
  have Kp2 : Keep h0 h1 [] := (Keep.refl h0 []).ext E1
  have Fh3 : Fld Z h1 b1 "com/example/incorpus/incorpus/Span" "start" "I" (.int (0 : Int32)) := (D1 (Or.inr (hw _ (List.mem_of_getElem? (i := 48) rfl))) (ty := .int) (by decide))
  have gh4 : n0 ≤ b1 := Nat.le_trans Z0 (Nat.le_of_eq g1.symm)
  have Fh5 : Fld Z h1 b1 "com/example/incorpus/incorpus/Span" "end" "I" (.int (0 : Int32)) := (D1 (Or.inr (hw _ (List.mem_of_getElem? (i := 50) rfl))) (ty := .int) (by decide))
  obtain ⟨_, _, ⟨T6, L6, k6, n6⟩, -, X6, ⟨Lc6, hQ6, l6, y6, z6⟩, st6⟩ := X1.specialBack hx (y := (⟨"com/example/incorpus/incorpus/Span", "<init>", "(II)V"⟩ : MethodName)) rfl hown (mvT hZ (hw _ (List.mem_of_getElem? (i := 38) rfl))) (mvT hZ (hw _ (List.mem_of_getElem? (i := 39) rfl))) (mvT hZ (hw _ (List.mem_of_getElem? (i := 40) rfl))) (by decide) (backOf (W := 1) (own_rm_span l Z a0 hw [] G1 G3 gl b1 (own_bs3 p5) (own_bs3 p5) ((.int (0 : Int32))) ((.int (0 : Int32))) h1 n0 (Nat.le_trans Z0 Kp2.1) A1 Fh3 gh4 Fh5 ((own_bs3n p5 hbs) : ¬ ((own_bs3 p5) < (0 : Int32))) (Int32.lt_irrefl : ¬ ((own_bs3 p5) < (own_bs3 p5)))) hZ (hw _ (List.mem_of_getElem? (i := 40) rfl)) (hw _ (List.mem_of_getElem? (i := 37) rfl)) (by decide) (by decide)) (g := (mkF m 135 #[.val (.int p1), .val (.int p2), .val (.int p3), .val (.long q4), .second, .val (.int p5), .val (.int i6), .val (.int i7), .val (.int i8), .val (.ref r9), .val (.ref r10), .val (.int (1 : Int32)), .val (.int (1 : Int32)), .val (.int (own_bs3 p5)), .val (.int (0 : Int32)), .unset, .unset] [(.int (own_bs3 p5)), (.int (own_bs3 p5)), (.ref b1), (.ref b1)])) rfl (by rw [hml]; rfl) (Steps.refl _) (a := b1) (argsL := [(.int (own_bs3 p5)), (.int (own_bs3 p5))]) (rest := [(.ref b1)]) (lenOf own_pd6 rfl) rfl (by show 2 * 0 + _ ≤ _; exact Nat.le_of_eq rfl) (hb hby at_135) (fun _ _ => ⟨rfl, e1, (by decide : 5 + 0 ≤ _), (by decide : 24 + 0 ≤ _)⟩)
  dsimp only [Pt.U, Pt.locs, Pt.cells, Pt.slots] at X6 l6 y6 z6 st6 hQ6
  subst y6 z6
  obtain ⟨rfl, Nq6, Kq6, f6_0, f6_1, f6_2⟩ := hQ6
  have N6 : Fr n0 L6 := by rw [l6]; exact Fr.app N0 Nq6
  have Kp7 : Keep h0 T6.heap [] := Kp2.trans Kq6 (allS (Or.inr (Nat.le_trans (Keep.refl h0 []).1 (Nat.le_of_eq g1.symm))) all0)
  obtain ⟨cq8, kq8, q8a, q8b, q8c⟩ := isOf hZ rfl f6_0
  obtain ⟨_, _, ⟨T8, L8, k8, n8⟩, -, X8, ⟨Lc8, hQ8, l8, y8, z8⟩, st8⟩ := X6.virtualBack hx (y := (⟨"com/example/incorpus/incorpus/Span", "isEmpty", "()Z"⟩ : MethodName)) (z := (⟨"com/example/incorpus/incorpus/Span", "isEmpty", "()Z"⟩ : MethodName)) hown (mvT hZ (hw _ (List.mem_of_getElem? (i := 51) rfl))) (mvT hZ (hw _ (List.mem_of_getElem? (i := 52) rfl))) (notFace_of_selects (args := #[]) (mvT hZ (hw _ (List.mem_of_getElem? (i := 54) rfl)))) (mvT hZ (hw _ (List.mem_of_getElem? (i := 54) rfl))) (mvT hZ (hw _ (List.mem_of_getElem? (i := 53) rfl))) (by decide) (backOf (W := 0) (own_rm_emp1 l Z a0 hw [] G1 G3 gl b1 (own_bs3 p5) (own_bs3 p5) T6.heap n0 (Nat.le_trans Z0 Kp7.1) f6_1 f6_2 (rfl : (own_bs3 p5) = (own_bs3 p5))) hZ (hw _ (List.mem_of_getElem? (i := 55) rfl)) (hw _ (List.mem_of_getElem? (i := 37) rfl)) (by decide) (by decide)) q8a q8c (g := (mkF m 142 #[.val (.int p1), .val (.int p2), .val (.int p3), .val (.long q4), .second, .val (.int p5), .val (.int i6), .val (.int i7), .val (.int i8), .val (.ref r9), .val (.ref r10), .val (.int (1 : Int32)), .val (.int (1 : Int32)), .val (.int (own_bs3 p5)), .val (.int (0 : Int32)), .val (.ref b1), .unset] [(.ref b1)])) rfl (by rw [hml]; rfl) (Steps.refl _) (argsL := []) (rest := []) (lenOf own_pd7 rfl) rfl (by show 2 * 0 + _ ≤ _; exact Nat.le_of_eq rfl) (hb hby at_142) (fun _ _ => ⟨rfl, rfl, (by decide : 5 + 0 ≤ _), (by decide : 24 + 0 ≤ _)⟩)
  dsimp only [Pt.U, Pt.locs, Pt.cells, Pt.slots] at X8 l8 y8 z8 st8 hQ8
  subst y8 z8
  obtain ⟨rfl, Nq8, e8⟩ := hQ8
  have N8 : Fr n0 L8 := by rw [l8]; exact Fr.app N6 Nq8
  obtain ⟨fs, hr, hrun, hended, hW, hsame⟩ := X8.leave (v := some (.int (1 : Int32))) (fun h => by rw [hret] at h; cases h)
  refine ⟨_, _, ?_, hrun, hended, _, _, rfl, ⟨rfl, N8⟩, ⟨_, rfl⟩, hW, hsame.mono (by decide) (by decide)⟩
  show Steps p.tables e below (s₁.setTop (mkF m 97 #[.val (.int p1), .val (.int p2), .val (.int p3), .val (.long q4), .second, .val (.int p5), .val (.int i6), .val (.int i7), .val (.int i8), .val (.ref r9), .val (.ref r10), .val (.int (1 : Int32)), .val (.int (1 : Int32)), .unset, .unset, .unset, .unset] [])) _
  refine XS.iload X0.here hx rfl (hb hby at_97) rfl ?_
  show Steps p.tables e below (s₁.setTop (mkF m 99 #[.val (.int p1), .val (.int p2), .val (.int p3), .val (.long q4), .second, .val (.int p5), .val (.int i6), .val (.int i7), .val (.int i8), .val (.ref r9), .val (.ref r10), .val (.int (1 : Int32)), .val (.int (1 : Int32)), .unset, .unset, .unset, .unset] [(.int p5)])) _
  refine X0.ldcInt hx hown (mvT hZ (hw _ (List.mem_of_getElem? (i := 84) rfl))) (g := (mkF m 99 #[.val (.int p1), .val (.int p2), .val (.int p3), .val (.long q4), .second, .val (.int p5), .val (.int i6), .val (.int i7), .val (.int i8), .val (.ref r9), .val (.ref r10), .val (.int (1 : Int32)), .val (.int (1 : Int32)), .unset, .unset, .unset, .unset] [(.int p5)])) rfl (hb hby at_99) _ ?_
  show Steps p.tables e below (s₁.setTop (mkF m 101 #[.val (.int p1), .val (.int p2), .val (.int p3), .val (.long q4), .second, .val (.int p5), .val (.int i6), .val (.int i7), .val (.int i8), .val (.ref r9), .val (.ref r10), .val (.int (1 : Int32)), .val (.int (1 : Int32)), .unset, .unset, .unset, .unset] [(.int (2147483647 : Int32)), (.int p5)])) _
  refine XS.iand X0.here hx rfl (hb hby at_101) rfl ?_
  show Steps p.tables e below (s₁.setTop (mkF m 102 #[.val (.int p1), .val (.int p2), .val (.int p3), .val (.long q4), .second, .val (.int p5), .val (.int i6), .val (.int i7), .val (.int i8), .val (.ref r9), .val (.ref r10), .val (.int (1 : Int32)), .val (.int (1 : Int32)), .unset, .unset, .unset, .unset] [(.int (own_bs p5))])) _
  refine XS.istore X0.here hx rfl (hb hby at_102) rfl (l' := #[.val (.int p1), .val (.int p2), .val (.int p3), .val (.long q4), .second, .val (.int p5), .val (.int i6), .val (.int i7), .val (.int i8), .val (.ref r9), .val (.ref r10), .val (.int (1 : Int32)), .val (.int (1 : Int32)), .val (.int (own_bs p5)), .unset, .unset, .unset]) rfl ?_
  show Steps p.tables e below (s₁.setTop (mkF m 104 #[.val (.int p1), .val (.int p2), .val (.int p3), .val (.long q4), .second, .val (.int p5), .val (.int i6), .val (.int i7), .val (.int i8), .val (.ref r9), .val (.ref r10), .val (.int (1 : Int32)), .val (.int (1 : Int32)), .val (.int (own_bs p5)), .unset, .unset, .unset] [])) _
  refine XS.iload X0.here hx rfl (hb hby at_104) rfl ?_
  show Steps p.tables e below (s₁.setTop (mkF m 106 #[.val (.int p1), .val (.int p2), .val (.int p3), .val (.long q4), .second, .val (.int p5), .val (.int i6), .val (.int i7), .val (.int i8), .val (.ref r9), .val (.ref r10), .val (.int (1 : Int32)), .val (.int (1 : Int32)), .val (.int (own_bs p5)), .unset, .unset, .unset] [(.int (own_bs p5))])) _
  refine X0.ldcInt hx hown (mvT hZ (hw _ (List.mem_of_getElem? (i := 85) rfl))) (g := (mkF m 106 #[.val (.int p1), .val (.int p2), .val (.int p3), .val (.long q4), .second, .val (.int p5), .val (.int i6), .val (.int i7), .val (.int i8), .val (.ref r9), .val (.ref r10), .val (.int (1 : Int32)), .val (.int (1 : Int32)), .val (.int (own_bs p5)), .unset, .unset, .unset] [(.int (own_bs p5))])) rfl (hb hby at_106) _ ?_
  show Steps p.tables e below (s₁.setTop (mkF m 108 #[.val (.int p1), .val (.int p2), .val (.int p3), .val (.long q4), .second, .val (.int p5), .val (.int i6), .val (.int i7), .val (.int i8), .val (.ref r9), .val (.ref r10), .val (.int (1 : Int32)), .val (.int (1 : Int32)), .val (.int (own_bs p5)), .unset, .unset, .unset] [(.int (2147483644 : Int32)), (.int (own_bs p5))])) _
  refine XS.icmpNo X0.here hx rfl (hb hby at_108) rfl (tlt (hbs : (2147483644 : Int32) < (own_bs p5))).2.2.2 ?_
  show Steps p.tables e below (s₁.setTop (mkF m 111 #[.val (.int p1), .val (.int p2), .val (.int p3), .val (.long q4), .second, .val (.int p5), .val (.int i6), .val (.int i7), .val (.int i8), .val (.ref r9), .val (.ref r10), .val (.int (1 : Int32)), .val (.int (1 : Int32)), .val (.int (own_bs p5)), .unset, .unset, .unset] [])) _
  refine XS.iload X0.here hx rfl (hb hby at_111) rfl ?_
  show Steps p.tables e below (s₁.setTop (mkF m 113 #[.val (.int p1), .val (.int p2), .val (.int p3), .val (.long q4), .second, .val (.int p5), .val (.int i6), .val (.int i7), .val (.int i8), .val (.ref r9), .val (.ref r10), .val (.int (1 : Int32)), .val (.int (1 : Int32)), .val (.int (own_bs p5)), .unset, .unset, .unset] [(.int (own_bs p5))])) _
  refine XS.iconst X0.here hx rfl (hb hby at_113) ?_
  show Steps p.tables e below (s₁.setTop (mkF m 114 #[.val (.int p1), .val (.int p2), .val (.int p3), .val (.long q4), .second, .val (.int p5), .val (.int i6), .val (.int i7), .val (.int i8), .val (.ref r9), .val (.ref r10), .val (.int (1 : Int32)), .val (.int (1 : Int32)), .val (.int (own_bs p5)), .unset, .unset, .unset] [(.int (3 : Int32)), (.int (own_bs p5))])) _
  refine XS.isub X0.here hx rfl (hb hby at_114) rfl ?_
  show Steps p.tables e below (s₁.setTop (mkF m 115 #[.val (.int p1), .val (.int p2), .val (.int p3), .val (.long q4), .second, .val (.int p5), .val (.int i6), .val (.int i7), .val (.int i8), .val (.ref r9), .val (.ref r10), .val (.int (1 : Int32)), .val (.int (1 : Int32)), .val (.int (own_bs p5)), .unset, .unset, .unset] [(.int (own_bs3 p5))])) _
  refine XS.istore X0.here hx rfl (hb hby at_115) rfl (l' := #[.val (.int p1), .val (.int p2), .val (.int p3), .val (.long q4), .second, .val (.int p5), .val (.int i6), .val (.int i7), .val (.int i8), .val (.ref r9), .val (.ref r10), .val (.int (1 : Int32)), .val (.int (1 : Int32)), .val (.int (own_bs3 p5)), .unset, .unset, .unset]) rfl ?_
  show Steps p.tables e below (s₁.setTop (mkF m 117 #[.val (.int p1), .val (.int p2), .val (.int p3), .val (.long q4), .second, .val (.int p5), .val (.int i6), .val (.int i7), .val (.int i8), .val (.ref r9), .val (.ref r10), .val (.int (1 : Int32)), .val (.int (1 : Int32)), .val (.int (own_bs3 p5)), .unset, .unset, .unset] [])) _
  refine XS.iloadN X0.here hx rfl (hb hby at_117) rfl ?_
  show Steps p.tables e below (s₁.setTop (mkF m 118 #[.val (.int p1), .val (.int p2), .val (.int p3), .val (.long q4), .second, .val (.int p5), .val (.int i6), .val (.int i7), .val (.int i8), .val (.ref r9), .val (.ref r10), .val (.int (1 : Int32)), .val (.int (1 : Int32)), .val (.int (own_bs3 p5)), .unset, .unset, .unset] [(.int p2)])) _
  refine XS.iconst X0.here hx rfl (hb hby at_118) ?_
  show Steps p.tables e below (s₁.setTop (mkF m 119 #[.val (.int p1), .val (.int p2), .val (.int p3), .val (.long q4), .second, .val (.int p5), .val (.int i6), .val (.int i7), .val (.int i8), .val (.ref r9), .val (.ref r10), .val (.int (1 : Int32)), .val (.int (1 : Int32)), .val (.int (own_bs3 p5)), .unset, .unset, .unset] [(.int (2 : Int32)), (.int p2)])) _
  refine XS.iushr X0.here hx rfl (hb hby at_119) rfl ?_
  show Steps p.tables e below (s₁.setTop (mkF m 120 #[.val (.int p1), .val (.int p2), .val (.int p3), .val (.long q4), .second, .val (.int p5), .val (.int i6), .val (.int i7), .val (.int i8), .val (.ref r9), .val (.ref r10), .val (.int (1 : Int32)), .val (.int (1 : Int32)), .val (.int (own_bs3 p5)), .unset, .unset, .unset] [(.int ((p2.toUInt32 >>> ((2 : Int32) &&& 31).toUInt32).toInt32))])) _
  refine XS.iconst X0.here hx rfl (hb hby at_120) ?_
  show Steps p.tables e below (s₁.setTop (mkF m 121 #[.val (.int p1), .val (.int p2), .val (.int p3), .val (.long q4), .second, .val (.int p5), .val (.int i6), .val (.int i7), .val (.int i8), .val (.ref r9), .val (.ref r10), .val (.int (1 : Int32)), .val (.int (1 : Int32)), .val (.int (own_bs3 p5)), .unset, .unset, .unset] [(.int (3 : Int32)), (.int ((p2.toUInt32 >>> ((2 : Int32) &&& 31).toUInt32).toInt32))])) _
  refine XS.iand X0.here hx rfl (hb hby at_121) rfl ?_
  show Steps p.tables e below (s₁.setTop (mkF m 122 #[.val (.int p1), .val (.int p2), .val (.int p3), .val (.long q4), .second, .val (.int p5), .val (.int i6), .val (.int i7), .val (.int i8), .val (.ref r9), .val (.ref r10), .val (.int (1 : Int32)), .val (.int (1 : Int32)), .val (.int (own_bs3 p5)), .unset, .unset, .unset] [(.int (own_bl p2))])) _
  rw [hbl]
  show Steps p.tables e below (s₁.setTop (mkF m 122 #[.val (.int p1), .val (.int p2), .val (.int p3), .val (.long q4), .second, .val (.int p5), .val (.int i6), .val (.int i7), .val (.int i8), .val (.ref r9), .val (.ref r10), .val (.int (1 : Int32)), .val (.int (1 : Int32)), .val (.int (own_bs3 p5)), .unset, .unset, .unset] [(.int (0 : Int32))])) _
  refine XS.istore X0.here hx rfl (hb hby at_122) rfl (l' := #[.val (.int p1), .val (.int p2), .val (.int p3), .val (.long q4), .second, .val (.int p5), .val (.int i6), .val (.int i7), .val (.int i8), .val (.ref r9), .val (.ref r10), .val (.int (1 : Int32)), .val (.int (1 : Int32)), .val (.int (own_bs3 p5)), .val (.int (0 : Int32)), .unset, .unset]) rfl ?_
  show Steps p.tables e below (s₁.setTop (mkF m 124 #[.val (.int p1), .val (.int p2), .val (.int p3), .val (.long q4), .second, .val (.int p5), .val (.int i6), .val (.int i7), .val (.int i8), .val (.ref r9), .val (.ref r10), .val (.int (1 : Int32)), .val (.int (1 : Int32)), .val (.int (own_bs3 p5)), .val (.int (0 : Int32)), .unset, .unset] [])) _
  refine st1 _ ?_
  show Steps p.tables e below (T1.setTop (mkF m 127 #[.val (.int p1), .val (.int p2), .val (.int p3), .val (.long q4), .second, .val (.int p5), .val (.int i6), .val (.int i7), .val (.int i8), .val (.ref r9), .val (.ref r10), .val (.int (1 : Int32)), .val (.int (1 : Int32)), .val (.int (own_bs3 p5)), .val (.int (0 : Int32)), .unset, .unset] [(.ref b1)])) _
  refine XS.dup X1.here hx rfl (hb hby at_127) rfl rfl ?_
  show Steps p.tables e below (T1.setTop (mkF m 128 #[.val (.int p1), .val (.int p2), .val (.int p3), .val (.long q4), .second, .val (.int p5), .val (.int i6), .val (.int i7), .val (.int i8), .val (.ref r9), .val (.ref r10), .val (.int (1 : Int32)), .val (.int (1 : Int32)), .val (.int (own_bs3 p5)), .val (.int (0 : Int32)), .unset, .unset] [(.ref b1), (.ref b1)])) _
  refine XS.iload X1.here hx rfl (hb hby at_128) rfl ?_
  show Steps p.tables e below (T1.setTop (mkF m 130 #[.val (.int p1), .val (.int p2), .val (.int p3), .val (.long q4), .second, .val (.int p5), .val (.int i6), .val (.int i7), .val (.int i8), .val (.ref r9), .val (.ref r10), .val (.int (1 : Int32)), .val (.int (1 : Int32)), .val (.int (own_bs3 p5)), .val (.int (0 : Int32)), .unset, .unset] [(.int (own_bs3 p5)), (.ref b1), (.ref b1)])) _
  refine XS.iload X1.here hx rfl (hb hby at_130) rfl ?_
  show Steps p.tables e below (T1.setTop (mkF m 132 #[.val (.int p1), .val (.int p2), .val (.int p3), .val (.long q4), .second, .val (.int p5), .val (.int i6), .val (.int i7), .val (.int i8), .val (.ref r9), .val (.ref r10), .val (.int (1 : Int32)), .val (.int (1 : Int32)), .val (.int (own_bs3 p5)), .val (.int (0 : Int32)), .unset, .unset] [(.int (own_bs3 p5)), (.int (own_bs3 p5)), (.ref b1), (.ref b1)])) _
  refine XS.iload X1.here hx rfl (hb hby at_132) rfl ?_
  show Steps p.tables e below (T1.setTop (mkF m 134 #[.val (.int p1), .val (.int p2), .val (.int p3), .val (.long q4), .second, .val (.int p5), .val (.int i6), .val (.int i7), .val (.int i8), .val (.ref r9), .val (.ref r10), .val (.int (1 : Int32)), .val (.int (1 : Int32)), .val (.int (own_bs3 p5)), .val (.int (0 : Int32)), .unset, .unset] [(.int (0 : Int32)), (.int (own_bs3 p5)), (.int (own_bs3 p5)), (.ref b1), (.ref b1)])) _
  refine XS.iadd X1.here hx rfl (hb hby at_134) rfl ?_
  show Steps p.tables e below (T1.setTop (mkF m 135 #[.val (.int p1), .val (.int p2), .val (.int p3), .val (.long q4), .second, .val (.int p5), .val (.int i6), .val (.int i7), .val (.int i8), .val (.ref r9), .val (.ref r10), .val (.int (1 : Int32)), .val (.int (1 : Int32)), .val (.int (own_bs3 p5)), .val (.int (0 : Int32)), .unset, .unset] [(.int ((own_bs3 p5) + (0 : Int32))), (.int (own_bs3 p5)), (.ref b1), (.ref b1)])) _
  rw [(own_add0 (own_bs3 p5))]
  show Steps p.tables e below (T1.setTop (mkF m 135 #[.val (.int p1), .val (.int p2), .val (.int p3), .val (.long q4), .second, .val (.int p5), .val (.int i6), .val (.int i7), .val (.int i8), .val (.ref r9), .val (.ref r10), .val (.int (1 : Int32)), .val (.int (1 : Int32)), .val (.int (own_bs3 p5)), .val (.int (0 : Int32)), .unset, .unset] [(.int (own_bs3 p5)), (.int (own_bs3 p5)), (.ref b1), (.ref b1)])) _
  refine st6.trans ?_
  show Steps p.tables e below (T6.setTop (mkF m 138 #[.val (.int p1), .val (.int p2), .val (.int p3), .val (.long q4), .second, .val (.int p5), .val (.int i6), .val (.int i7), .val (.int i8), .val (.ref r9), .val (.ref r10), .val (.int (1 : Int32)), .val (.int (1 : Int32)), .val (.int (own_bs3 p5)), .val (.int (0 : Int32)), .unset, .unset] [(.ref b1)])) _
  refine XS.astore X6.here hx rfl (hb hby at_138) rfl rfl (l' := #[.val (.int p1), .val (.int p2), .val (.int p3), .val (.long q4), .second, .val (.int p5), .val (.int i6), .val (.int i7), .val (.int i8), .val (.ref r9), .val (.ref r10), .val (.int (1 : Int32)), .val (.int (1 : Int32)), .val (.int (own_bs3 p5)), .val (.int (0 : Int32)), .val (.ref b1), .unset]) rfl ?_
  show Steps p.tables e below (T6.setTop (mkF m 140 #[.val (.int p1), .val (.int p2), .val (.int p3), .val (.long q4), .second, .val (.int p5), .val (.int i6), .val (.int i7), .val (.int i8), .val (.ref r9), .val (.ref r10), .val (.int (1 : Int32)), .val (.int (1 : Int32)), .val (.int (own_bs3 p5)), .val (.int (0 : Int32)), .val (.ref b1), .unset] [])) _
  refine XS.aload X6.here hx rfl (hb hby at_140) rfl rfl ?_
  show Steps p.tables e below (T6.setTop (mkF m 142 #[.val (.int p1), .val (.int p2), .val (.int p3), .val (.long q4), .second, .val (.int p5), .val (.int i6), .val (.int i7), .val (.int i8), .val (.ref r9), .val (.ref r10), .val (.int (1 : Int32)), .val (.int (1 : Int32)), .val (.int (own_bs3 p5)), .val (.int (0 : Int32)), .val (.ref b1), .unset] [(.ref b1)])) _
  refine st8.trans ?_
  show Steps p.tables e below (T8.setTop (mkF m 145 #[.val (.int p1), .val (.int p2), .val (.int p3), .val (.long q4), .second, .val (.int p5), .val (.int i6), .val (.int i7), .val (.int i8), .val (.ref r9), .val (.ref r10), .val (.int (1 : Int32)), .val (.int (1 : Int32)), .val (.int (own_bs3 p5)), .val (.int (0 : Int32)), .val (.ref b1), .unset] [(.int (1 : Int32))])) _
  refine XS.istore X8.here hx rfl (hb hby at_145) rfl (l' := #[.val (.int p1), .val (.int p2), .val (.int p3), .val (.long q4), .second, .val (.int p5), .val (.int i6), .val (.int i7), .val (.int i8), .val (.ref r9), .val (.ref r10), .val (.int (1 : Int32)), .val (.int (1 : Int32)), .val (.int (own_bs3 p5)), .val (.int (0 : Int32)), .val (.ref b1), .val (.int (1 : Int32))]) rfl ?_
  show Steps p.tables e below (T8.setTop (mkF m 147 #[.val (.int p1), .val (.int p2), .val (.int p3), .val (.long q4), .second, .val (.int p5), .val (.int i6), .val (.int i7), .val (.int i8), .val (.ref r9), .val (.ref r10), .val (.int (1 : Int32)), .val (.int (1 : Int32)), .val (.int (own_bs3 p5)), .val (.int (0 : Int32)), .val (.ref b1), .val (.int (1 : Int32))] [])) _
  refine XS.iload X8.here hx rfl (hb hby at_147) rfl ?_
  show Steps p.tables e below (T8.setTop (mkF m 149 #[.val (.int p1), .val (.int p2), .val (.int p3), .val (.long q4), .second, .val (.int p5), .val (.int i6), .val (.int i7), .val (.int i8), .val (.ref r9), .val (.ref r10), .val (.int (1 : Int32)), .val (.int (1 : Int32)), .val (.int (own_bs3 p5)), .val (.int (0 : Int32)), .val (.ref b1), .val (.int (1 : Int32))] [(.int (1 : Int32))])) _
  refine XS.iload X8.here hx rfl (hb hby at_149) rfl ?_
  show Steps p.tables e below (T8.setTop (mkF m 151 #[.val (.int p1), .val (.int p2), .val (.int p3), .val (.long q4), .second, .val (.int p5), .val (.int i6), .val (.int i7), .val (.int i8), .val (.ref r9), .val (.ref r10), .val (.int (1 : Int32)), .val (.int (1 : Int32)), .val (.int (own_bs3 p5)), .val (.int (0 : Int32)), .val (.ref b1), .val (.int (1 : Int32))] [(.int i7), (.int (1 : Int32))])) _
  refine XS.ifNo X8.here hx rfl (hb hby at_151) rfl ((if0 _ _).trans (teq (hl : i7 = (0 : Int32))).2) ?_
  show Steps p.tables e below (T8.setTop (mkF m 154 #[.val (.int p1), .val (.int p2), .val (.int p3), .val (.long q4), .second, .val (.int p5), .val (.int i6), .val (.int i7), .val (.int i8), .val (.ref r9), .val (.ref r10), .val (.int (1 : Int32)), .val (.int (1 : Int32)), .val (.int (own_bs3 p5)), .val (.int (0 : Int32)), .val (.ref b1), .val (.int (1 : Int32))] [(.int (1 : Int32))])) _
  refine XS.iconst X8.here hx rfl (hb hby at_154) ?_
  show Steps p.tables e below (T8.setTop (mkF m 155 #[.val (.int p1), .val (.int p2), .val (.int p3), .val (.long q4), .second, .val (.int p5), .val (.int i6), .val (.int i7), .val (.int i8), .val (.ref r9), .val (.ref r10), .val (.int (1 : Int32)), .val (.int (1 : Int32)), .val (.int (own_bs3 p5)), .val (.int (0 : Int32)), .val (.ref b1), .val (.int (1 : Int32))] [(.int (1 : Int32)), (.int (1 : Int32))])) _
  refine XS.goto X8.here hx rfl (pc0 := 155) (pc' := 159) rfl (hb hby at_155) (by decide) (by decide) ?_
  show Steps p.tables e below (T8.setTop (mkF m 159 #[.val (.int p1), .val (.int p2), .val (.int p3), .val (.long q4), .second, .val (.int p5), .val (.int i6), .val (.int i7), .val (.int i8), .val (.ref r9), .val (.ref r10), .val (.int (1 : Int32)), .val (.int (1 : Int32)), .val (.int (own_bs3 p5)), .val (.int (0 : Int32)), .val (.ref b1), .val (.int (1 : Int32))] [(.int (1 : Int32)), (.int (1 : Int32))])) _
  refine XS.icmpNo X8.here hx rfl (hb hby at_159) rfl (teq (rfl : (1 : Int32) = (1 : Int32))).2 ?_
  show Steps p.tables e below (T8.setTop (mkF m 162 #[.val (.int p1), .val (.int p2), .val (.int p3), .val (.long q4), .second, .val (.int p5), .val (.int i6), .val (.int i7), .val (.int i8), .val (.ref r9), .val (.ref r10), .val (.int (1 : Int32)), .val (.int (1 : Int32)), .val (.int (own_bs3 p5)), .val (.int (0 : Int32)), .val (.ref b1), .val (.int (1 : Int32))] [])) _
  refine XS.iload X8.here hx rfl (hb hby at_162) rfl ?_
  show Steps p.tables e below (T8.setTop (mkF m 164 #[.val (.int p1), .val (.int p2), .val (.int p3), .val (.long q4), .second, .val (.int p5), .val (.int i6), .val (.int i7), .val (.int i8), .val (.ref r9), .val (.ref r10), .val (.int (1 : Int32)), .val (.int (1 : Int32)), .val (.int (own_bs3 p5)), .val (.int (0 : Int32)), .val (.ref b1), .val (.int (1 : Int32))] [(.int (1 : Int32))])) _
  refine XS.ifNo X8.here hx rfl (hb hby at_164) rfl ((if0 _ _).trans (feq (by decide : ¬ ((1 : Int32) = (0 : Int32)))).1) ?_
  show Steps p.tables e below (T8.setTop (mkF m 167 #[.val (.int p1), .val (.int p2), .val (.int p3), .val (.long q4), .second, .val (.int p5), .val (.int i6), .val (.int i7), .val (.int i8), .val (.ref r9), .val (.ref r10), .val (.int (1 : Int32)), .val (.int (1 : Int32)), .val (.int (own_bs3 p5)), .val (.int (0 : Int32)), .val (.ref b1), .val (.int (1 : Int32))] [])) _
  refine XS.iload X8.here hx rfl (hb hby at_167) rfl ?_
  show Steps p.tables e below (T8.setTop (mkF m 169 #[.val (.int p1), .val (.int p2), .val (.int p3), .val (.long q4), .second, .val (.int p5), .val (.int i6), .val (.int i7), .val (.int i8), .val (.ref r9), .val (.ref r10), .val (.int (1 : Int32)), .val (.int (1 : Int32)), .val (.int (own_bs3 p5)), .val (.int (0 : Int32)), .val (.ref b1), .val (.int (1 : Int32))] [(.int (1 : Int32))])) _
  refine XS.iload X8.here hx rfl (hb hby at_169) rfl ?_
  show Steps p.tables e below (T8.setTop (mkF m 171 #[.val (.int p1), .val (.int p2), .val (.int p3), .val (.long q4), .second, .val (.int p5), .val (.int i6), .val (.int i7), .val (.int i8), .val (.ref r9), .val (.ref r10), .val (.int (1 : Int32)), .val (.int (1 : Int32)), .val (.int (own_bs3 p5)), .val (.int (0 : Int32)), .val (.ref b1), .val (.int (1 : Int32))] [(.int (0 : Int32)), (.int (1 : Int32))])) _
  refine XS.ifNo X8.here hx rfl (hb hby at_171) rfl ((if0 _ _).trans (teq (rfl : (0 : Int32) = (0 : Int32))).2) ?_
  show Steps p.tables e below (T8.setTop (mkF m 174 #[.val (.int p1), .val (.int p2), .val (.int p3), .val (.long q4), .second, .val (.int p5), .val (.int i6), .val (.int i7), .val (.int i8), .val (.ref r9), .val (.ref r10), .val (.int (1 : Int32)), .val (.int (1 : Int32)), .val (.int (own_bs3 p5)), .val (.int (0 : Int32)), .val (.ref b1), .val (.int (1 : Int32))] [(.int (1 : Int32))])) _
  refine XS.iconst X8.here hx rfl (hb hby at_174) ?_
  show Steps p.tables e below (T8.setTop (mkF m 175 #[.val (.int p1), .val (.int p2), .val (.int p3), .val (.long q4), .second, .val (.int p5), .val (.int i6), .val (.int i7), .val (.int i8), .val (.ref r9), .val (.ref r10), .val (.int (1 : Int32)), .val (.int (1 : Int32)), .val (.int (own_bs3 p5)), .val (.int (0 : Int32)), .val (.ref b1), .val (.int (1 : Int32))] [(.int (1 : Int32)), (.int (1 : Int32))])) _
  refine XS.goto X8.here hx rfl (pc0 := 175) (pc' := 179) rfl (hb hby at_175) (by decide) (by decide) ?_
  show Steps p.tables e below (T8.setTop (mkF m 179 #[.val (.int p1), .val (.int p2), .val (.int p3), .val (.long q4), .second, .val (.int p5), .val (.int i6), .val (.int i7), .val (.int i8), .val (.ref r9), .val (.ref r10), .val (.int (1 : Int32)), .val (.int (1 : Int32)), .val (.int (own_bs3 p5)), .val (.int (0 : Int32)), .val (.ref b1), .val (.int (1 : Int32))] [(.int (1 : Int32)), (.int (1 : Int32))])) _
  refine XS.icmpNo X8.here hx rfl (hb hby at_179) rfl (teq (rfl : (1 : Int32) = (1 : Int32))).2 ?_
  show Steps p.tables e below (T8.setTop (mkF m 182 #[.val (.int p1), .val (.int p2), .val (.int p3), .val (.long q4), .second, .val (.int p5), .val (.int i6), .val (.int i7), .val (.int i8), .val (.ref r9), .val (.ref r10), .val (.int (1 : Int32)), .val (.int (1 : Int32)), .val (.int (own_bs3 p5)), .val (.int (0 : Int32)), .val (.ref b1), .val (.int (1 : Int32))] [])) _
  refine XS.iconst X8.here hx rfl (hb hby at_182) ?_
  show Steps p.tables e below (T8.setTop (mkF m 183 #[.val (.int p1), .val (.int p2), .val (.int p3), .val (.long q4), .second, .val (.int p5), .val (.int i6), .val (.int i7), .val (.int i8), .val (.ref r9), .val (.ref r10), .val (.int (1 : Int32)), .val (.int (1 : Int32)), .val (.int (own_bs3 p5)), .val (.int (0 : Int32)), .val (.ref b1), .val (.int (1 : Int32))] [(.int (1 : Int32))])) _
  refine XS.goto X8.here hx rfl (pc0 := 183) (pc' := 187) rfl (hb hby at_183) (by decide) (by decide) ?_
  show Steps p.tables e below (T8.setTop (mkF m 187 #[.val (.int p1), .val (.int p2), .val (.int p3), .val (.long q4), .second, .val (.int p5), .val (.int i6), .val (.int i7), .val (.int i8), .val (.ref r9), .val (.ref r10), .val (.int (1 : Int32)), .val (.int (1 : Int32)), .val (.int (own_bs3 p5)), .val (.int (0 : Int32)), .val (.ref b1), .val (.int (1 : Int32))] [(.int (1 : Int32))])) _
  exact retN X8 hx (t := .boolean) hret (by simp) (hb hby at_187) hr
set_option maxRecDepth 65536 in
set_option maxHeartbeats 40000000 in
theorem own_k000 {p : Program} {l : Launch} {e : Env} {s : State} {m : MethodId} {below : List Frame} {meth : Method} {c : Code} {s₁ : State} {Z : State} {a0 : Array Value} (hw : ∀ d ∈ tables_1, d.before a0 Z = true) (G1 : Int32) (G3 : Value) (gl : own_Glob Z G1 G3) (p1 : Int32) (p2 : Int32) (p3 : Int32) (q4 : Int64) (p5 : Int32) (i6 : Int32) (i7 : Int32) (i8 : Int32) (r9 : Addr) (r10 : Addr) {h0 : Heap} {n0 : Nat} (Z0 : n0 ≤ h0.size) (X00 : Old Z n0 h0) (hl : ¬ (i7 = (0 : Int32))) (hbs : ¬ ((2147483644 : Int32) < (own_bs p5))) (hbl : ¬ (own_bl p2 = (0 : Int32)))
    {locs0 : List Loc} (X0 : Stand p l e room_1 s m #[(.int p1), (.int p2), (.int p3), (.long q4), (.int p5)] below meth c s₁ locs0 4 22) (N0 : Fr n0 locs0) (hx : p.tables.exec = Jvm.exec) (hZ : Z.Warmed39 s.vm) (hby : c.code = code) (hml : c.maxLocals = 17) (hown : s.vm.findClass "com/example/incorpus/incorpus/SpanIsEmptyPinLaw" = some m.cls) (e0 : s₁.heap = h0) (hret : meth.sig.returnType = some .boolean) (hlk : meth.locks = false) :
    ∃ s₂ o, Steps p.tables e below (s₁.setTop (mkF m 97 #[.val (.int p1), .val (.int p2), .val (.int p3), .val (.long q4), .second, .val (.int p5), .val (.int i6), .val (.int i7), .val (.int i8), .val (.ref r9), .val (.ref r10), .val (.int (0 : Int32)), .val (.int (1 : Int32)), .unset, .unset, .unset, .unset] [])) s₂ ∧ s₂.status = .running ∧ Ended s₂ below o ∧ ∃ v L, o = .returned v ∧ own_Qlaw h0 n0 v s₂.heap L ∧ FrameEnd s o s₂ L room_1.cells room_1.slots := by
  obtain ⟨O_CS, P_CS, O_SI, P_SI⟩ := id gl
  obtain ⟨T1, h1, X1, e1, E1, A1, D1, U1, st1⟩ := newO X0 hx hZ hown (hw _ (List.mem_of_getElem? (i := 35) rfl)) (hw _ (List.mem_of_getElem? (i := 36) rfl)) (hw _ (List.mem_of_getElem? (i := 37) rfl)) e0 (g := (mkF m 124 #[.val (.int p1), .val (.int p2), .val (.int p3), .val (.long q4), .second, .val (.int p5), .val (.int i6), .val (.int i7), .val (.int i8), .val (.ref r9), .val (.ref r10), .val (.int (0 : Int32)), .val (.int (1 : Int32)), .val (.int (own_bs p5)), .val (.int (own_bl p2)), .unset, .unset] [])) rfl (hb hby at_124) (by decide) (by decide)
  obtain ⟨b1, g1⟩ : ∃ z, z = h0.size := ⟨_, rfl⟩
  rw [← g1] at A1 D1 U1 st1
  have Kp2 : Keep h0 h1 [] := (Keep.refl h0 []).ext E1
  have Fh3 : Fld Z h1 b1 "com/example/incorpus/incorpus/Span" "start" "I" (.int (0 : Int32)) := (D1 (Or.inr (hw _ (List.mem_of_getElem? (i := 48) rfl))) (ty := .int) (by decide))
  have gh4 : n0 ≤ b1 := Nat.le_trans Z0 (Nat.le_of_eq g1.symm)
  have Fh5 : Fld Z h1 b1 "com/example/incorpus/incorpus/Span" "end" "I" (.int (0 : Int32)) := (D1 (Or.inr (hw _ (List.mem_of_getElem? (i := 50) rfl))) (ty := .int) (by decide))
  obtain ⟨_, _, ⟨T6, L6, k6, n6⟩, -, X6, ⟨Lc6, hQ6, l6, y6, z6⟩, st6⟩ := X1.specialBack hx (y := (⟨"com/example/incorpus/incorpus/Span", "<init>", "(II)V"⟩ : MethodName)) rfl hown (mvT hZ (hw _ (List.mem_of_getElem? (i := 38) rfl))) (mvT hZ (hw _ (List.mem_of_getElem? (i := 39) rfl))) (mvT hZ (hw _ (List.mem_of_getElem? (i := 40) rfl))) (by decide) (backOf (W := 1) (own_rm_span l Z a0 hw [] G1 G3 gl b1 (own_bs p5) ((own_bs p5) + (own_bl p2)) ((.int (0 : Int32))) ((.int (0 : Int32))) h1 n0 (Nat.le_trans Z0 Kp2.1) A1 Fh3 gh4 Fh5 ((own_bsn p5) : ¬ ((own_bs p5) < (0 : Int32))) ((own_pl1 p2 p5 hbs).1 : ¬ (((own_bs p5) + (own_bl p2)) < (own_bs p5)))) hZ (hw _ (List.mem_of_getElem? (i := 40) rfl)) (hw _ (List.mem_of_getElem? (i := 37) rfl)) (by decide) (by decide)) (g := (mkF m 135 #[.val (.int p1), .val (.int p2), .val (.int p3), .val (.long q4), .second, .val (.int p5), .val (.int i6), .val (.int i7), .val (.int i8), .val (.ref r9), .val (.ref r10), .val (.int (0 : Int32)), .val (.int (1 : Int32)), .val (.int (own_bs p5)), .val (.int (own_bl p2)), .unset, .unset] [(.int ((own_bs p5) + (own_bl p2))), (.int (own_bs p5)), (.ref b1), (.ref b1)])) rfl (by rw [hml]; rfl) (Steps.refl _) (a := b1) (argsL := [(.int (own_bs p5)), (.int ((own_bs p5) + (own_bl p2)))]) (rest := [(.ref b1)]) (lenOf own_pd6 rfl) rfl (by show 2 * 0 + _ ≤ _; exact Nat.le_of_eq rfl) (hb hby at_135) (fun _ _ => ⟨rfl, e1, (by decide : 5 + 0 ≤ _), (by decide : 24 + 0 ≤ _)⟩)
  dsimp only [Pt.U, Pt.locs, Pt.cells, Pt.slots] at X6 l6 y6 z6 st6 hQ6
  subst y6 z6
  obtain ⟨rfl, Nq6, Kq6, f6_0, f6_1, f6_2⟩ := hQ6
  have N6 : Fr n0 L6 := by rw [l6]; exact Fr.app N0 Nq6
  have Kp7 : Keep h0 T6.heap [] := Kp2.trans Kq6 (allS (Or.inr (Nat.le_trans (Keep.refl h0 []).1 (Nat.le_of_eq g1.symm))) all0)
  obtain ⟨cq8, kq8, q8a, q8b, q8c⟩ := isOf hZ rfl f6_0
  obtain ⟨_, _, ⟨T8, L8, k8, n8⟩, -, X8, ⟨Lc8, hQ8, l8, y8, z8⟩, st8⟩ := X6.virtualBack hx (y := (⟨"com/example/incorpus/incorpus/Span", "isEmpty", "()Z"⟩ : MethodName)) (z := (⟨"com/example/incorpus/incorpus/Span", "isEmpty", "()Z"⟩ : MethodName)) hown (mvT hZ (hw _ (List.mem_of_getElem? (i := 51) rfl))) (mvT hZ (hw _ (List.mem_of_getElem? (i := 52) rfl))) (notFace_of_selects (args := #[]) (mvT hZ (hw _ (List.mem_of_getElem? (i := 54) rfl)))) (mvT hZ (hw _ (List.mem_of_getElem? (i := 54) rfl))) (mvT hZ (hw _ (List.mem_of_getElem? (i := 53) rfl))) (by decide) (backOf (W := 0) (own_rm_emp0 l Z a0 hw [] G1 G3 gl b1 (own_bs p5) ((own_bs p5) + (own_bl p2)) T6.heap n0 (Nat.le_trans Z0 Kp7.1) f6_1 f6_2 (((own_pl1 p2 p5 hbs).2 hbl) : ¬ ((own_bs p5) = ((own_bs p5) + (own_bl p2))))) hZ (hw _ (List.mem_of_getElem? (i := 55) rfl)) (hw _ (List.mem_of_getElem? (i := 37) rfl)) (by decide) (by decide)) q8a q8c (g := (mkF m 142 #[.val (.int p1), .val (.int p2), .val (.int p3), .val (.long q4), .second, .val (.int p5), .val (.int i6), .val (.int i7), .val (.int i8), .val (.ref r9), .val (.ref r10), .val (.int (0 : Int32)), .val (.int (1 : Int32)), .val (.int (own_bs p5)), .val (.int (own_bl p2)), .val (.ref b1), .unset] [(.ref b1)])) rfl (by rw [hml]; rfl) (Steps.refl _) (argsL := []) (rest := []) (lenOf own_pd7 rfl) rfl (by show 2 * 0 + _ ≤ _; exact Nat.le_of_eq rfl) (hb hby at_142) (fun _ _ => ⟨rfl, rfl, (by decide : 5 + 0 ≤ _), (by decide : 24 + 0 ≤ _)⟩)
  dsimp only [Pt.U, Pt.locs, Pt.cells, Pt.slots] at X8 l8 y8 z8 st8 hQ8
  subst y8 z8
  obtain ⟨rfl, Nq8, e8⟩ := hQ8
  have N8 : Fr n0 L8 := by rw [l8]; exact Fr.app N6 Nq8
  obtain ⟨fs, hr, hrun, hended, hW, hsame⟩ := X8.leave (v := some (.int (1 : Int32))) (fun h => by rw [hret] at h; cases h)
  refine ⟨_, _, ?_, hrun, hended, _, _, rfl, ⟨rfl, N8⟩, ⟨_, rfl⟩, hW, hsame.mono (by decide) (by decide)⟩
  show Steps p.tables e below (s₁.setTop (mkF m 97 #[.val (.int p1), .val (.int p2), .val (.int p3), .val (.long q4), .second, .val (.int p5), .val (.int i6), .val (.int i7), .val (.int i8), .val (.ref r9), .val (.ref r10), .val (.int (0 : Int32)), .val (.int (1 : Int32)), .unset, .unset, .unset, .unset] [])) _
  refine XS.iload X0.here hx rfl (hb hby at_97) rfl ?_
  show Steps p.tables e below (s₁.setTop (mkF m 99 #[.val (.int p1), .val (.int p2), .val (.int p3), .val (.long q4), .second, .val (.int p5), .val (.int i6), .val (.int i7), .val (.int i8), .val (.ref r9), .val (.ref r10), .val (.int (0 : Int32)), .val (.int (1 : Int32)), .unset, .unset, .unset, .unset] [(.int p5)])) _
  refine X0.ldcInt hx hown (mvT hZ (hw _ (List.mem_of_getElem? (i := 84) rfl))) (g := (mkF m 99 #[.val (.int p1), .val (.int p2), .val (.int p3), .val (.long q4), .second, .val (.int p5), .val (.int i6), .val (.int i7), .val (.int i8), .val (.ref r9), .val (.ref r10), .val (.int (0 : Int32)), .val (.int (1 : Int32)), .unset, .unset, .unset, .unset] [(.int p5)])) rfl (hb hby at_99) _ ?_
  show Steps p.tables e below (s₁.setTop (mkF m 101 #[.val (.int p1), .val (.int p2), .val (.int p3), .val (.long q4), .second, .val (.int p5), .val (.int i6), .val (.int i7), .val (.int i8), .val (.ref r9), .val (.ref r10), .val (.int (0 : Int32)), .val (.int (1 : Int32)), .unset, .unset, .unset, .unset] [(.int (2147483647 : Int32)), (.int p5)])) _
  refine XS.iand X0.here hx rfl (hb hby at_101) rfl ?_
  show Steps p.tables e below (s₁.setTop (mkF m 102 #[.val (.int p1), .val (.int p2), .val (.int p3), .val (.long q4), .second, .val (.int p5), .val (.int i6), .val (.int i7), .val (.int i8), .val (.ref r9), .val (.ref r10), .val (.int (0 : Int32)), .val (.int (1 : Int32)), .unset, .unset, .unset, .unset] [(.int (own_bs p5))])) _
  refine XS.istore X0.here hx rfl (hb hby at_102) rfl (l' := #[.val (.int p1), .val (.int p2), .val (.int p3), .val (.long q4), .second, .val (.int p5), .val (.int i6), .val (.int i7), .val (.int i8), .val (.ref r9), .val (.ref r10), .val (.int (0 : Int32)), .val (.int (1 : Int32)), .val (.int (own_bs p5)), .unset, .unset, .unset]) rfl ?_
  show Steps p.tables e below (s₁.setTop (mkF m 104 #[.val (.int p1), .val (.int p2), .val (.int p3), .val (.long q4), .second, .val (.int p5), .val (.int i6), .val (.int i7), .val (.int i8), .val (.ref r9), .val (.ref r10), .val (.int (0 : Int32)), .val (.int (1 : Int32)), .val (.int (own_bs p5)), .unset, .unset, .unset] [])) _
  refine XS.iload X0.here hx rfl (hb hby at_104) rfl ?_
  show Steps p.tables e below (s₁.setTop (mkF m 106 #[.val (.int p1), .val (.int p2), .val (.int p3), .val (.long q4), .second, .val (.int p5), .val (.int i6), .val (.int i7), .val (.int i8), .val (.ref r9), .val (.ref r10), .val (.int (0 : Int32)), .val (.int (1 : Int32)), .val (.int (own_bs p5)), .unset, .unset, .unset] [(.int (own_bs p5))])) _
  refine X0.ldcInt hx hown (mvT hZ (hw _ (List.mem_of_getElem? (i := 85) rfl))) (g := (mkF m 106 #[.val (.int p1), .val (.int p2), .val (.int p3), .val (.long q4), .second, .val (.int p5), .val (.int i6), .val (.int i7), .val (.int i8), .val (.ref r9), .val (.ref r10), .val (.int (0 : Int32)), .val (.int (1 : Int32)), .val (.int (own_bs p5)), .unset, .unset, .unset] [(.int (own_bs p5))])) rfl (hb hby at_106) _ ?_
  show Steps p.tables e below (s₁.setTop (mkF m 108 #[.val (.int p1), .val (.int p2), .val (.int p3), .val (.long q4), .second, .val (.int p5), .val (.int i6), .val (.int i7), .val (.int i8), .val (.ref r9), .val (.ref r10), .val (.int (0 : Int32)), .val (.int (1 : Int32)), .val (.int (own_bs p5)), .unset, .unset, .unset] [(.int (2147483644 : Int32)), (.int (own_bs p5))])) _
  refine XS.icmpYes X0.here hx rfl (pc0 := 108) (pc' := 117) rfl (hb hby at_108) rfl (flt (hbs : ¬ ((2147483644 : Int32) < (own_bs p5)))).2.2.2 (by decide) (by decide) ?_
  show Steps p.tables e below (s₁.setTop (mkF m 117 #[.val (.int p1), .val (.int p2), .val (.int p3), .val (.long q4), .second, .val (.int p5), .val (.int i6), .val (.int i7), .val (.int i8), .val (.ref r9), .val (.ref r10), .val (.int (0 : Int32)), .val (.int (1 : Int32)), .val (.int (own_bs p5)), .unset, .unset, .unset] [])) _
  refine XS.iloadN X0.here hx rfl (hb hby at_117) rfl ?_
  show Steps p.tables e below (s₁.setTop (mkF m 118 #[.val (.int p1), .val (.int p2), .val (.int p3), .val (.long q4), .second, .val (.int p5), .val (.int i6), .val (.int i7), .val (.int i8), .val (.ref r9), .val (.ref r10), .val (.int (0 : Int32)), .val (.int (1 : Int32)), .val (.int (own_bs p5)), .unset, .unset, .unset] [(.int p2)])) _
  refine XS.iconst X0.here hx rfl (hb hby at_118) ?_
  show Steps p.tables e below (s₁.setTop (mkF m 119 #[.val (.int p1), .val (.int p2), .val (.int p3), .val (.long q4), .second, .val (.int p5), .val (.int i6), .val (.int i7), .val (.int i8), .val (.ref r9), .val (.ref r10), .val (.int (0 : Int32)), .val (.int (1 : Int32)), .val (.int (own_bs p5)), .unset, .unset, .unset] [(.int (2 : Int32)), (.int p2)])) _
  refine XS.iushr X0.here hx rfl (hb hby at_119) rfl ?_
  show Steps p.tables e below (s₁.setTop (mkF m 120 #[.val (.int p1), .val (.int p2), .val (.int p3), .val (.long q4), .second, .val (.int p5), .val (.int i6), .val (.int i7), .val (.int i8), .val (.ref r9), .val (.ref r10), .val (.int (0 : Int32)), .val (.int (1 : Int32)), .val (.int (own_bs p5)), .unset, .unset, .unset] [(.int ((p2.toUInt32 >>> ((2 : Int32) &&& 31).toUInt32).toInt32))])) _
  refine XS.iconst X0.here hx rfl (hb hby at_120) ?_
  show Steps p.tables e below (s₁.setTop (mkF m 121 #[.val (.int p1), .val (.int p2), .val (.int p3), .val (.long q4), .second, .val (.int p5), .val (.int i6), .val (.int i7), .val (.int i8), .val (.ref r9), .val (.ref r10), .val (.int (0 : Int32)), .val (.int (1 : Int32)), .val (.int (own_bs p5)), .unset, .unset, .unset] [(.int (3 : Int32)), (.int ((p2.toUInt32 >>> ((2 : Int32) &&& 31).toUInt32).toInt32))])) _
  refine XS.iand X0.here hx rfl (hb hby at_121) rfl ?_
  show Steps p.tables e below (s₁.setTop (mkF m 122 #[.val (.int p1), .val (.int p2), .val (.int p3), .val (.long q4), .second, .val (.int p5), .val (.int i6), .val (.int i7), .val (.int i8), .val (.ref r9), .val (.ref r10), .val (.int (0 : Int32)), .val (.int (1 : Int32)), .val (.int (own_bs p5)), .unset, .unset, .unset] [(.int (own_bl p2))])) _
  refine XS.istore X0.here hx rfl (hb hby at_122) rfl (l' := #[.val (.int p1), .val (.int p2), .val (.int p3), .val (.long q4), .second, .val (.int p5), .val (.int i6), .val (.int i7), .val (.int i8), .val (.ref r9), .val (.ref r10), .val (.int (0 : Int32)), .val (.int (1 : Int32)), .val (.int (own_bs p5)), .val (.int (own_bl p2)), .unset, .unset]) rfl ?_
  show Steps p.tables e below (s₁.setTop (mkF m 124 #[.val (.int p1), .val (.int p2), .val (.int p3), .val (.long q4), .second, .val (.int p5), .val (.int i6), .val (.int i7), .val (.int i8), .val (.ref r9), .val (.ref r10), .val (.int (0 : Int32)), .val (.int (1 : Int32)), .val (.int (own_bs p5)), .val (.int (own_bl p2)), .unset, .unset] [])) _
  refine st1 _ ?_
  show Steps p.tables e below (T1.setTop (mkF m 127 #[.val (.int p1), .val (.int p2), .val (.int p3), .val (.long q4), .second, .val (.int p5), .val (.int i6), .val (.int i7), .val (.int i8), .val (.ref r9), .val (.ref r10), .val (.int (0 : Int32)), .val (.int (1 : Int32)), .val (.int (own_bs p5)), .val (.int (own_bl p2)), .unset, .unset] [(.ref b1)])) _
  refine XS.dup X1.here hx rfl (hb hby at_127) rfl rfl ?_
  show Steps p.tables e below (T1.setTop (mkF m 128 #[.val (.int p1), .val (.int p2), .val (.int p3), .val (.long q4), .second, .val (.int p5), .val (.int i6), .val (.int i7), .val (.int i8), .val (.ref r9), .val (.ref r10), .val (.int (0 : Int32)), .val (.int (1 : Int32)), .val (.int (own_bs p5)), .val (.int (own_bl p2)), .unset, .unset] [(.ref b1), (.ref b1)])) _
  refine XS.iload X1.here hx rfl (hb hby at_128) rfl ?_
  show Steps p.tables e below (T1.setTop (mkF m 130 #[.val (.int p1), .val (.int p2), .val (.int p3), .val (.long q4), .second, .val (.int p5), .val (.int i6), .val (.int i7), .val (.int i8), .val (.ref r9), .val (.ref r10), .val (.int (0 : Int32)), .val (.int (1 : Int32)), .val (.int (own_bs p5)), .val (.int (own_bl p2)), .unset, .unset] [(.int (own_bs p5)), (.ref b1), (.ref b1)])) _
  refine XS.iload X1.here hx rfl (hb hby at_130) rfl ?_
  show Steps p.tables e below (T1.setTop (mkF m 132 #[.val (.int p1), .val (.int p2), .val (.int p3), .val (.long q4), .second, .val (.int p5), .val (.int i6), .val (.int i7), .val (.int i8), .val (.ref r9), .val (.ref r10), .val (.int (0 : Int32)), .val (.int (1 : Int32)), .val (.int (own_bs p5)), .val (.int (own_bl p2)), .unset, .unset] [(.int (own_bs p5)), (.int (own_bs p5)), (.ref b1), (.ref b1)])) _
  refine XS.iload X1.here hx rfl (hb hby at_132) rfl ?_
  show Steps p.tables e below (T1.setTop (mkF m 134 #[.val (.int p1), .val (.int p2), .val (.int p3), .val (.long q4), .second, .val (.int p5), .val (.int i6), .val (.int i7), .val (.int i8), .val (.ref r9), .val (.ref r10), .val (.int (0 : Int32)), .val (.int (1 : Int32)), .val (.int (own_bs p5)), .val (.int (own_bl p2)), .unset, .unset] [(.int (own_bl p2)), (.int (own_bs p5)), (.int (own_bs p5)), (.ref b1), (.ref b1)])) _
  refine XS.iadd X1.here hx rfl (hb hby at_134) rfl ?_
  show Steps p.tables e below (T1.setTop (mkF m 135 #[.val (.int p1), .val (.int p2), .val (.int p3), .val (.long q4), .second, .val (.int p5), .val (.int i6), .val (.int i7), .val (.int i8), .val (.ref r9), .val (.ref r10), .val (.int (0 : Int32)), .val (.int (1 : Int32)), .val (.int (own_bs p5)), .val (.int (own_bl p2)), .unset, .unset] [(.int ((own_bs p5) + (own_bl p2))), (.int (own_bs p5)), (.ref b1), (.ref b1)])) _
  refine st6.trans ?_
  show Steps p.tables e below (T6.setTop (mkF m 138 #[.val (.int p1), .val (.int p2), .val (.int p3), .val (.long q4), .second, .val (.int p5), .val (.int i6), .val (.int i7), .val (.int i8), .val (.ref r9), .val (.ref r10), .val (.int (0 : Int32)), .val (.int (1 : Int32)), .val (.int (own_bs p5)), .val (.int (own_bl p2)), .unset, .unset] [(.ref b1)])) _
  refine XS.astore X6.here hx rfl (hb hby at_138) rfl rfl (l' := #[.val (.int p1), .val (.int p2), .val (.int p3), .val (.long q4), .second, .val (.int p5), .val (.int i6), .val (.int i7), .val (.int i8), .val (.ref r9), .val (.ref r10), .val (.int (0 : Int32)), .val (.int (1 : Int32)), .val (.int (own_bs p5)), .val (.int (own_bl p2)), .val (.ref b1), .unset]) rfl ?_
  show Steps p.tables e below (T6.setTop (mkF m 140 #[.val (.int p1), .val (.int p2), .val (.int p3), .val (.long q4), .second, .val (.int p5), .val (.int i6), .val (.int i7), .val (.int i8), .val (.ref r9), .val (.ref r10), .val (.int (0 : Int32)), .val (.int (1 : Int32)), .val (.int (own_bs p5)), .val (.int (own_bl p2)), .val (.ref b1), .unset] [])) _
  refine XS.aload X6.here hx rfl (hb hby at_140) rfl rfl ?_
  show Steps p.tables e below (T6.setTop (mkF m 142 #[.val (.int p1), .val (.int p2), .val (.int p3), .val (.long q4), .second, .val (.int p5), .val (.int i6), .val (.int i7), .val (.int i8), .val (.ref r9), .val (.ref r10), .val (.int (0 : Int32)), .val (.int (1 : Int32)), .val (.int (own_bs p5)), .val (.int (own_bl p2)), .val (.ref b1), .unset] [(.ref b1)])) _
  refine st8.trans ?_
  show Steps p.tables e below (T8.setTop (mkF m 145 #[.val (.int p1), .val (.int p2), .val (.int p3), .val (.long q4), .second, .val (.int p5), .val (.int i6), .val (.int i7), .val (.int i8), .val (.ref r9), .val (.ref r10), .val (.int (0 : Int32)), .val (.int (1 : Int32)), .val (.int (own_bs p5)), .val (.int (own_bl p2)), .val (.ref b1), .unset] [(.int (0 : Int32))])) _
  refine XS.istore X8.here hx rfl (hb hby at_145) rfl (l' := #[.val (.int p1), .val (.int p2), .val (.int p3), .val (.long q4), .second, .val (.int p5), .val (.int i6), .val (.int i7), .val (.int i8), .val (.ref r9), .val (.ref r10), .val (.int (0 : Int32)), .val (.int (1 : Int32)), .val (.int (own_bs p5)), .val (.int (own_bl p2)), .val (.ref b1), .val (.int (0 : Int32))]) rfl ?_
  show Steps p.tables e below (T8.setTop (mkF m 147 #[.val (.int p1), .val (.int p2), .val (.int p3), .val (.long q4), .second, .val (.int p5), .val (.int i6), .val (.int i7), .val (.int i8), .val (.ref r9), .val (.ref r10), .val (.int (0 : Int32)), .val (.int (1 : Int32)), .val (.int (own_bs p5)), .val (.int (own_bl p2)), .val (.ref b1), .val (.int (0 : Int32))] [])) _
  refine XS.iload X8.here hx rfl (hb hby at_147) rfl ?_
  show Steps p.tables e below (T8.setTop (mkF m 149 #[.val (.int p1), .val (.int p2), .val (.int p3), .val (.long q4), .second, .val (.int p5), .val (.int i6), .val (.int i7), .val (.int i8), .val (.ref r9), .val (.ref r10), .val (.int (0 : Int32)), .val (.int (1 : Int32)), .val (.int (own_bs p5)), .val (.int (own_bl p2)), .val (.ref b1), .val (.int (0 : Int32))] [(.int (0 : Int32))])) _
  refine XS.iload X8.here hx rfl (hb hby at_149) rfl ?_
  show Steps p.tables e below (T8.setTop (mkF m 151 #[.val (.int p1), .val (.int p2), .val (.int p3), .val (.long q4), .second, .val (.int p5), .val (.int i6), .val (.int i7), .val (.int i8), .val (.ref r9), .val (.ref r10), .val (.int (0 : Int32)), .val (.int (1 : Int32)), .val (.int (own_bs p5)), .val (.int (own_bl p2)), .val (.ref b1), .val (.int (0 : Int32))] [(.int i7), (.int (0 : Int32))])) _
  refine XS.ifYes X8.here hx rfl (pc0 := 151) (pc' := 158) rfl (hb hby at_151) rfl ((if0 _ _).trans (feq (hl : ¬ (i7 = (0 : Int32)))).2) (by decide) (by decide) ?_
  show Steps p.tables e below (T8.setTop (mkF m 158 #[.val (.int p1), .val (.int p2), .val (.int p3), .val (.long q4), .second, .val (.int p5), .val (.int i6), .val (.int i7), .val (.int i8), .val (.ref r9), .val (.ref r10), .val (.int (0 : Int32)), .val (.int (1 : Int32)), .val (.int (own_bs p5)), .val (.int (own_bl p2)), .val (.ref b1), .val (.int (0 : Int32))] [(.int (0 : Int32))])) _
  refine XS.iconst X8.here hx rfl (hb hby at_158) ?_
  show Steps p.tables e below (T8.setTop (mkF m 159 #[.val (.int p1), .val (.int p2), .val (.int p3), .val (.long q4), .second, .val (.int p5), .val (.int i6), .val (.int i7), .val (.int i8), .val (.ref r9), .val (.ref r10), .val (.int (0 : Int32)), .val (.int (1 : Int32)), .val (.int (own_bs p5)), .val (.int (own_bl p2)), .val (.ref b1), .val (.int (0 : Int32))] [(.int (0 : Int32)), (.int (0 : Int32))])) _
  refine XS.icmpNo X8.here hx rfl (hb hby at_159) rfl (teq (rfl : (0 : Int32) = (0 : Int32))).2 ?_
  show Steps p.tables e below (T8.setTop (mkF m 162 #[.val (.int p1), .val (.int p2), .val (.int p3), .val (.long q4), .second, .val (.int p5), .val (.int i6), .val (.int i7), .val (.int i8), .val (.ref r9), .val (.ref r10), .val (.int (0 : Int32)), .val (.int (1 : Int32)), .val (.int (own_bs p5)), .val (.int (own_bl p2)), .val (.ref b1), .val (.int (0 : Int32))] [])) _
  refine XS.iload X8.here hx rfl (hb hby at_162) rfl ?_
  show Steps p.tables e below (T8.setTop (mkF m 164 #[.val (.int p1), .val (.int p2), .val (.int p3), .val (.long q4), .second, .val (.int p5), .val (.int i6), .val (.int i7), .val (.int i8), .val (.ref r9), .val (.ref r10), .val (.int (0 : Int32)), .val (.int (1 : Int32)), .val (.int (own_bs p5)), .val (.int (own_bl p2)), .val (.ref b1), .val (.int (0 : Int32))] [(.int (1 : Int32))])) _
  refine XS.ifNo X8.here hx rfl (hb hby at_164) rfl ((if0 _ _).trans (feq (by decide : ¬ ((1 : Int32) = (0 : Int32)))).1) ?_
  show Steps p.tables e below (T8.setTop (mkF m 167 #[.val (.int p1), .val (.int p2), .val (.int p3), .val (.long q4), .second, .val (.int p5), .val (.int i6), .val (.int i7), .val (.int i8), .val (.ref r9), .val (.ref r10), .val (.int (0 : Int32)), .val (.int (1 : Int32)), .val (.int (own_bs p5)), .val (.int (own_bl p2)), .val (.ref b1), .val (.int (0 : Int32))] [])) _
  refine XS.iload X8.here hx rfl (hb hby at_167) rfl ?_
  show Steps p.tables e below (T8.setTop (mkF m 169 #[.val (.int p1), .val (.int p2), .val (.int p3), .val (.long q4), .second, .val (.int p5), .val (.int i6), .val (.int i7), .val (.int i8), .val (.ref r9), .val (.ref r10), .val (.int (0 : Int32)), .val (.int (1 : Int32)), .val (.int (own_bs p5)), .val (.int (own_bl p2)), .val (.ref b1), .val (.int (0 : Int32))] [(.int (0 : Int32))])) _
  refine XS.iload X8.here hx rfl (hb hby at_169) rfl ?_
  show Steps p.tables e below (T8.setTop (mkF m 171 #[.val (.int p1), .val (.int p2), .val (.int p3), .val (.long q4), .second, .val (.int p5), .val (.int i6), .val (.int i7), .val (.int i8), .val (.ref r9), .val (.ref r10), .val (.int (0 : Int32)), .val (.int (1 : Int32)), .val (.int (own_bs p5)), .val (.int (own_bl p2)), .val (.ref b1), .val (.int (0 : Int32))] [(.int (own_bl p2)), (.int (0 : Int32))])) _
  refine XS.ifYes X8.here hx rfl (pc0 := 171) (pc' := 178) rfl (hb hby at_171) rfl ((if0 _ _).trans (feq (hbl : ¬ ((own_bl p2) = (0 : Int32)))).2) (by decide) (by decide) ?_
  show Steps p.tables e below (T8.setTop (mkF m 178 #[.val (.int p1), .val (.int p2), .val (.int p3), .val (.long q4), .second, .val (.int p5), .val (.int i6), .val (.int i7), .val (.int i8), .val (.ref r9), .val (.ref r10), .val (.int (0 : Int32)), .val (.int (1 : Int32)), .val (.int (own_bs p5)), .val (.int (own_bl p2)), .val (.ref b1), .val (.int (0 : Int32))] [(.int (0 : Int32))])) _
  refine XS.iconst X8.here hx rfl (hb hby at_178) ?_
  show Steps p.tables e below (T8.setTop (mkF m 179 #[.val (.int p1), .val (.int p2), .val (.int p3), .val (.long q4), .second, .val (.int p5), .val (.int i6), .val (.int i7), .val (.int i8), .val (.ref r9), .val (.ref r10), .val (.int (0 : Int32)), .val (.int (1 : Int32)), .val (.int (own_bs p5)), .val (.int (own_bl p2)), .val (.ref b1), .val (.int (0 : Int32))] [(.int (0 : Int32)), (.int (0 : Int32))])) _
  refine XS.icmpNo X8.here hx rfl (hb hby at_179) rfl (teq (rfl : (0 : Int32) = (0 : Int32))).2 ?_
  show Steps p.tables e below (T8.setTop (mkF m 182 #[.val (.int p1), .val (.int p2), .val (.int p3), .val (.long q4), .second, .val (.int p5), .val (.int i6), .val (.int i7), .val (.int i8), .val (.ref r9), .val (.ref r10), .val (.int (0 : Int32)), .val (.int (1 : Int32)), .val (.int (own_bs p5)), .val (.int (own_bl p2)), .val (.ref b1), .val (.int (0 : Int32))] [])) _
  refine XS.iconst X8.here hx rfl (hb hby at_182) ?_
  show Steps p.tables e below (T8.setTop (mkF m 183 #[.val (.int p1), .val (.int p2), .val (.int p3), .val (.long q4), .second, .val (.int p5), .val (.int i6), .val (.int i7), .val (.int i8), .val (.ref r9), .val (.ref r10), .val (.int (0 : Int32)), .val (.int (1 : Int32)), .val (.int (own_bs p5)), .val (.int (own_bl p2)), .val (.ref b1), .val (.int (0 : Int32))] [(.int (1 : Int32))])) _
  refine XS.goto X8.here hx rfl (pc0 := 183) (pc' := 187) rfl (hb hby at_183) (by decide) (by decide) ?_
  show Steps p.tables e below (T8.setTop (mkF m 187 #[.val (.int p1), .val (.int p2), .val (.int p3), .val (.long q4), .second, .val (.int p5), .val (.int i6), .val (.int i7), .val (.int i8), .val (.ref r9), .val (.ref r10), .val (.int (0 : Int32)), .val (.int (1 : Int32)), .val (.int (own_bs p5)), .val (.int (own_bl p2)), .val (.ref b1), .val (.int (0 : Int32))] [(.int (1 : Int32))])) _
  exact retN X8 hx (t := .boolean) hret (by simp) (hb hby at_187) hr
set_option maxRecDepth 65536 in
set_option maxHeartbeats 40000000 in
theorem own_k001 {p : Program} {l : Launch} {e : Env} {s : State} {m : MethodId} {below : List Frame} {meth : Method} {c : Code} {s₁ : State} {Z : State} {a0 : Array Value} (hw : ∀ d ∈ tables_1, d.before a0 Z = true) (G1 : Int32) (G3 : Value) (gl : own_Glob Z G1 G3) (p1 : Int32) (p2 : Int32) (p3 : Int32) (q4 : Int64) (p5 : Int32) (i6 : Int32) (i7 : Int32) (i8 : Int32) (r9 : Addr) (r10 : Addr) {h0 : Heap} {n0 : Nat} (Z0 : n0 ≤ h0.size) (X00 : Old Z n0 h0) (hl : ¬ (i7 = (0 : Int32))) (hbs : ¬ ((2147483644 : Int32) < (own_bs p5))) (hbl : own_bl p2 = 0)
    {locs0 : List Loc} (X0 : Stand p l e room_1 s m #[(.int p1), (.int p2), (.int p3), (.long q4), (.int p5)] below meth c s₁ locs0 4 22) (N0 : Fr n0 locs0) (hx : p.tables.exec = Jvm.exec) (hZ : Z.Warmed39 s.vm) (hby : c.code = code) (hml : c.maxLocals = 17) (hown : s.vm.findClass "com/example/incorpus/incorpus/SpanIsEmptyPinLaw" = some m.cls) (e0 : s₁.heap = h0) (hret : meth.sig.returnType = some .boolean) (hlk : meth.locks = false) :
    ∃ s₂ o, Steps p.tables e below (s₁.setTop (mkF m 97 #[.val (.int p1), .val (.int p2), .val (.int p3), .val (.long q4), .second, .val (.int p5), .val (.int i6), .val (.int i7), .val (.int i8), .val (.ref r9), .val (.ref r10), .val (.int (0 : Int32)), .val (.int (1 : Int32)), .unset, .unset, .unset, .unset] [])) s₂ ∧ s₂.status = .running ∧ Ended s₂ below o ∧ ∃ v L, o = .returned v ∧ own_Qlaw h0 n0 v s₂.heap L ∧ FrameEnd s o s₂ L room_1.cells room_1.slots := by
  obtain ⟨O_CS, P_CS, O_SI, P_SI⟩ := id gl
  obtain ⟨T1, h1, X1, e1, E1, A1, D1, U1, st1⟩ := newO X0 hx hZ hown (hw _ (List.mem_of_getElem? (i := 35) rfl)) (hw _ (List.mem_of_getElem? (i := 36) rfl)) (hw _ (List.mem_of_getElem? (i := 37) rfl)) e0 (g := (mkF m 124 #[.val (.int p1), .val (.int p2), .val (.int p3), .val (.long q4), .second, .val (.int p5), .val (.int i6), .val (.int i7), .val (.int i8), .val (.ref r9), .val (.ref r10), .val (.int (0 : Int32)), .val (.int (1 : Int32)), .val (.int (own_bs p5)), .val (.int (0 : Int32)), .unset, .unset] [])) rfl (hb hby at_124) (by decide) (by decide)
  obtain ⟨b1, g1⟩ : ∃ z, z = h0.size := ⟨_, rfl⟩
  rw [← g1] at A1 D1 U1 st1
  have Kp2 : Keep h0 h1 [] := (Keep.refl h0 []).ext E1
  have Fh3 : Fld Z h1 b1 "com/example/incorpus/incorpus/Span" "start" "I" (.int (0 : Int32)) := (D1 (Or.inr (hw _ (List.mem_of_getElem? (i := 48) rfl))) (ty := .int) (by decide))
  have gh4 : n0 ≤ b1 := Nat.le_trans Z0 (Nat.le_of_eq g1.symm)
  have Fh5 : Fld Z h1 b1 "com/example/incorpus/incorpus/Span" "end" "I" (.int (0 : Int32)) := (D1 (Or.inr (hw _ (List.mem_of_getElem? (i := 50) rfl))) (ty := .int) (by decide))
  obtain ⟨_, _, ⟨T6, L6, k6, n6⟩, -, X6, ⟨Lc6, hQ6, l6, y6, z6⟩, st6⟩ := X1.specialBack hx (y := (⟨"com/example/incorpus/incorpus/Span", "<init>", "(II)V"⟩ : MethodName)) rfl hown (mvT hZ (hw _ (List.mem_of_getElem? (i := 38) rfl))) (mvT hZ (hw _ (List.mem_of_getElem? (i := 39) rfl))) (mvT hZ (hw _ (List.mem_of_getElem? (i := 40) rfl))) (by decide) (backOf (W := 1) (own_rm_span l Z a0 hw [] G1 G3 gl b1 (own_bs p5) (own_bs p5) ((.int (0 : Int32))) ((.int (0 : Int32))) h1 n0 (Nat.le_trans Z0 Kp2.1) A1 Fh3 gh4 Fh5 ((own_bsn p5) : ¬ ((own_bs p5) < (0 : Int32))) (Int32.lt_irrefl : ¬ ((own_bs p5) < (own_bs p5)))) hZ (hw _ (List.mem_of_getElem? (i := 40) rfl)) (hw _ (List.mem_of_getElem? (i := 37) rfl)) (by decide) (by decide)) (g := (mkF m 135 #[.val (.int p1), .val (.int p2), .val (.int p3), .val (.long q4), .second, .val (.int p5), .val (.int i6), .val (.int i7), .val (.int i8), .val (.ref r9), .val (.ref r10), .val (.int (0 : Int32)), .val (.int (1 : Int32)), .val (.int (own_bs p5)), .val (.int (0 : Int32)), .unset, .unset] [(.int (own_bs p5)), (.int (own_bs p5)), (.ref b1), (.ref b1)])) rfl (by rw [hml]; rfl) (Steps.refl _) (a := b1) (argsL := [(.int (own_bs p5)), (.int (own_bs p5))]) (rest := [(.ref b1)]) (lenOf own_pd6 rfl) rfl (by show 2 * 0 + _ ≤ _; exact Nat.le_of_eq rfl) (hb hby at_135) (fun _ _ => ⟨rfl, e1, (by decide : 5 + 0 ≤ _), (by decide : 24 + 0 ≤ _)⟩)
  dsimp only [Pt.U, Pt.locs, Pt.cells, Pt.slots] at X6 l6 y6 z6 st6 hQ6
  subst y6 z6
  obtain ⟨rfl, Nq6, Kq6, f6_0, f6_1, f6_2⟩ := hQ6
  have N6 : Fr n0 L6 := by rw [l6]; exact Fr.app N0 Nq6
  have Kp7 : Keep h0 T6.heap [] := Kp2.trans Kq6 (allS (Or.inr (Nat.le_trans (Keep.refl h0 []).1 (Nat.le_of_eq g1.symm))) all0)
  obtain ⟨cq8, kq8, q8a, q8b, q8c⟩ := isOf hZ rfl f6_0
  obtain ⟨_, _, ⟨T8, L8, k8, n8⟩, -, X8, ⟨Lc8, hQ8, l8, y8, z8⟩, st8⟩ := X6.virtualBack hx (y := (⟨"com/example/incorpus/incorpus/Span", "isEmpty", "()Z"⟩ : MethodName)) (z := (⟨"com/example/incorpus/incorpus/Span", "isEmpty", "()Z"⟩ : MethodName)) hown (mvT hZ (hw _ (List.mem_of_getElem? (i := 51) rfl))) (mvT hZ (hw _ (List.mem_of_getElem? (i := 52) rfl))) (notFace_of_selects (args := #[]) (mvT hZ (hw _ (List.mem_of_getElem? (i := 54) rfl)))) (mvT hZ (hw _ (List.mem_of_getElem? (i := 54) rfl))) (mvT hZ (hw _ (List.mem_of_getElem? (i := 53) rfl))) (by decide) (backOf (W := 0) (own_rm_emp1 l Z a0 hw [] G1 G3 gl b1 (own_bs p5) (own_bs p5) T6.heap n0 (Nat.le_trans Z0 Kp7.1) f6_1 f6_2 (rfl : (own_bs p5) = (own_bs p5))) hZ (hw _ (List.mem_of_getElem? (i := 55) rfl)) (hw _ (List.mem_of_getElem? (i := 37) rfl)) (by decide) (by decide)) q8a q8c (g := (mkF m 142 #[.val (.int p1), .val (.int p2), .val (.int p3), .val (.long q4), .second, .val (.int p5), .val (.int i6), .val (.int i7), .val (.int i8), .val (.ref r9), .val (.ref r10), .val (.int (0 : Int32)), .val (.int (1 : Int32)), .val (.int (own_bs p5)), .val (.int (0 : Int32)), .val (.ref b1), .unset] [(.ref b1)])) rfl (by rw [hml]; rfl) (Steps.refl _) (argsL := []) (rest := []) (lenOf own_pd7 rfl) rfl (by show 2 * 0 + _ ≤ _; exact Nat.le_of_eq rfl) (hb hby at_142) (fun _ _ => ⟨rfl, rfl, (by decide : 5 + 0 ≤ _), (by decide : 24 + 0 ≤ _)⟩)
  dsimp only [Pt.U, Pt.locs, Pt.cells, Pt.slots] at X8 l8 y8 z8 st8 hQ8
  subst y8 z8
  obtain ⟨rfl, Nq8, e8⟩ := hQ8
  have N8 : Fr n0 L8 := by rw [l8]; exact Fr.app N6 Nq8
  obtain ⟨fs, hr, hrun, hended, hW, hsame⟩ := X8.leave (v := some (.int (1 : Int32))) (fun h => by rw [hret] at h; cases h)
  refine ⟨_, _, ?_, hrun, hended, _, _, rfl, ⟨rfl, N8⟩, ⟨_, rfl⟩, hW, hsame.mono (by decide) (by decide)⟩
  show Steps p.tables e below (s₁.setTop (mkF m 97 #[.val (.int p1), .val (.int p2), .val (.int p3), .val (.long q4), .second, .val (.int p5), .val (.int i6), .val (.int i7), .val (.int i8), .val (.ref r9), .val (.ref r10), .val (.int (0 : Int32)), .val (.int (1 : Int32)), .unset, .unset, .unset, .unset] [])) _
  refine XS.iload X0.here hx rfl (hb hby at_97) rfl ?_
  show Steps p.tables e below (s₁.setTop (mkF m 99 #[.val (.int p1), .val (.int p2), .val (.int p3), .val (.long q4), .second, .val (.int p5), .val (.int i6), .val (.int i7), .val (.int i8), .val (.ref r9), .val (.ref r10), .val (.int (0 : Int32)), .val (.int (1 : Int32)), .unset, .unset, .unset, .unset] [(.int p5)])) _
  refine X0.ldcInt hx hown (mvT hZ (hw _ (List.mem_of_getElem? (i := 84) rfl))) (g := (mkF m 99 #[.val (.int p1), .val (.int p2), .val (.int p3), .val (.long q4), .second, .val (.int p5), .val (.int i6), .val (.int i7), .val (.int i8), .val (.ref r9), .val (.ref r10), .val (.int (0 : Int32)), .val (.int (1 : Int32)), .unset, .unset, .unset, .unset] [(.int p5)])) rfl (hb hby at_99) _ ?_
  show Steps p.tables e below (s₁.setTop (mkF m 101 #[.val (.int p1), .val (.int p2), .val (.int p3), .val (.long q4), .second, .val (.int p5), .val (.int i6), .val (.int i7), .val (.int i8), .val (.ref r9), .val (.ref r10), .val (.int (0 : Int32)), .val (.int (1 : Int32)), .unset, .unset, .unset, .unset] [(.int (2147483647 : Int32)), (.int p5)])) _
  refine XS.iand X0.here hx rfl (hb hby at_101) rfl ?_
  show Steps p.tables e below (s₁.setTop (mkF m 102 #[.val (.int p1), .val (.int p2), .val (.int p3), .val (.long q4), .second, .val (.int p5), .val (.int i6), .val (.int i7), .val (.int i8), .val (.ref r9), .val (.ref r10), .val (.int (0 : Int32)), .val (.int (1 : Int32)), .unset, .unset, .unset, .unset] [(.int (own_bs p5))])) _
  refine XS.istore X0.here hx rfl (hb hby at_102) rfl (l' := #[.val (.int p1), .val (.int p2), .val (.int p3), .val (.long q4), .second, .val (.int p5), .val (.int i6), .val (.int i7), .val (.int i8), .val (.ref r9), .val (.ref r10), .val (.int (0 : Int32)), .val (.int (1 : Int32)), .val (.int (own_bs p5)), .unset, .unset, .unset]) rfl ?_
  show Steps p.tables e below (s₁.setTop (mkF m 104 #[.val (.int p1), .val (.int p2), .val (.int p3), .val (.long q4), .second, .val (.int p5), .val (.int i6), .val (.int i7), .val (.int i8), .val (.ref r9), .val (.ref r10), .val (.int (0 : Int32)), .val (.int (1 : Int32)), .val (.int (own_bs p5)), .unset, .unset, .unset] [])) _
  refine XS.iload X0.here hx rfl (hb hby at_104) rfl ?_
  show Steps p.tables e below (s₁.setTop (mkF m 106 #[.val (.int p1), .val (.int p2), .val (.int p3), .val (.long q4), .second, .val (.int p5), .val (.int i6), .val (.int i7), .val (.int i8), .val (.ref r9), .val (.ref r10), .val (.int (0 : Int32)), .val (.int (1 : Int32)), .val (.int (own_bs p5)), .unset, .unset, .unset] [(.int (own_bs p5))])) _
  refine X0.ldcInt hx hown (mvT hZ (hw _ (List.mem_of_getElem? (i := 85) rfl))) (g := (mkF m 106 #[.val (.int p1), .val (.int p2), .val (.int p3), .val (.long q4), .second, .val (.int p5), .val (.int i6), .val (.int i7), .val (.int i8), .val (.ref r9), .val (.ref r10), .val (.int (0 : Int32)), .val (.int (1 : Int32)), .val (.int (own_bs p5)), .unset, .unset, .unset] [(.int (own_bs p5))])) rfl (hb hby at_106) _ ?_
  show Steps p.tables e below (s₁.setTop (mkF m 108 #[.val (.int p1), .val (.int p2), .val (.int p3), .val (.long q4), .second, .val (.int p5), .val (.int i6), .val (.int i7), .val (.int i8), .val (.ref r9), .val (.ref r10), .val (.int (0 : Int32)), .val (.int (1 : Int32)), .val (.int (own_bs p5)), .unset, .unset, .unset] [(.int (2147483644 : Int32)), (.int (own_bs p5))])) _
  refine XS.icmpYes X0.here hx rfl (pc0 := 108) (pc' := 117) rfl (hb hby at_108) rfl (flt (hbs : ¬ ((2147483644 : Int32) < (own_bs p5)))).2.2.2 (by decide) (by decide) ?_
  show Steps p.tables e below (s₁.setTop (mkF m 117 #[.val (.int p1), .val (.int p2), .val (.int p3), .val (.long q4), .second, .val (.int p5), .val (.int i6), .val (.int i7), .val (.int i8), .val (.ref r9), .val (.ref r10), .val (.int (0 : Int32)), .val (.int (1 : Int32)), .val (.int (own_bs p5)), .unset, .unset, .unset] [])) _
  refine XS.iloadN X0.here hx rfl (hb hby at_117) rfl ?_
  show Steps p.tables e below (s₁.setTop (mkF m 118 #[.val (.int p1), .val (.int p2), .val (.int p3), .val (.long q4), .second, .val (.int p5), .val (.int i6), .val (.int i7), .val (.int i8), .val (.ref r9), .val (.ref r10), .val (.int (0 : Int32)), .val (.int (1 : Int32)), .val (.int (own_bs p5)), .unset, .unset, .unset] [(.int p2)])) _
  refine XS.iconst X0.here hx rfl (hb hby at_118) ?_
  show Steps p.tables e below (s₁.setTop (mkF m 119 #[.val (.int p1), .val (.int p2), .val (.int p3), .val (.long q4), .second, .val (.int p5), .val (.int i6), .val (.int i7), .val (.int i8), .val (.ref r9), .val (.ref r10), .val (.int (0 : Int32)), .val (.int (1 : Int32)), .val (.int (own_bs p5)), .unset, .unset, .unset] [(.int (2 : Int32)), (.int p2)])) _
  refine XS.iushr X0.here hx rfl (hb hby at_119) rfl ?_
  show Steps p.tables e below (s₁.setTop (mkF m 120 #[.val (.int p1), .val (.int p2), .val (.int p3), .val (.long q4), .second, .val (.int p5), .val (.int i6), .val (.int i7), .val (.int i8), .val (.ref r9), .val (.ref r10), .val (.int (0 : Int32)), .val (.int (1 : Int32)), .val (.int (own_bs p5)), .unset, .unset, .unset] [(.int ((p2.toUInt32 >>> ((2 : Int32) &&& 31).toUInt32).toInt32))])) _
  refine XS.iconst X0.here hx rfl (hb hby at_120) ?_
  show Steps p.tables e below (s₁.setTop (mkF m 121 #[.val (.int p1), .val (.int p2), .val (.int p3), .val (.long q4), .second, .val (.int p5), .val (.int i6), .val (.int i7), .val (.int i8), .val (.ref r9), .val (.ref r10), .val (.int (0 : Int32)), .val (.int (1 : Int32)), .val (.int (own_bs p5)), .unset, .unset, .unset] [(.int (3 : Int32)), (.int ((p2.toUInt32 >>> ((2 : Int32) &&& 31).toUInt32).toInt32))])) _
  refine XS.iand X0.here hx rfl (hb hby at_121) rfl ?_
  show Steps p.tables e below (s₁.setTop (mkF m 122 #[.val (.int p1), .val (.int p2), .val (.int p3), .val (.long q4), .second, .val (.int p5), .val (.int i6), .val (.int i7), .val (.int i8), .val (.ref r9), .val (.ref r10), .val (.int (0 : Int32)), .val (.int (1 : Int32)), .val (.int (own_bs p5)), .unset, .unset, .unset] [(.int (own_bl p2))])) _
  rw [hbl]
  show Steps p.tables e below (s₁.setTop (mkF m 122 #[.val (.int p1), .val (.int p2), .val (.int p3), .val (.long q4), .second, .val (.int p5), .val (.int i6), .val (.int i7), .val (.int i8), .val (.ref r9), .val (.ref r10), .val (.int (0 : Int32)), .val (.int (1 : Int32)), .val (.int (own_bs p5)), .unset, .unset, .unset] [(.int (0 : Int32))])) _
  refine XS.istore X0.here hx rfl (hb hby at_122) rfl (l' := #[.val (.int p1), .val (.int p2), .val (.int p3), .val (.long q4), .second, .val (.int p5), .val (.int i6), .val (.int i7), .val (.int i8), .val (.ref r9), .val (.ref r10), .val (.int (0 : Int32)), .val (.int (1 : Int32)), .val (.int (own_bs p5)), .val (.int (0 : Int32)), .unset, .unset]) rfl ?_
  show Steps p.tables e below (s₁.setTop (mkF m 124 #[.val (.int p1), .val (.int p2), .val (.int p3), .val (.long q4), .second, .val (.int p5), .val (.int i6), .val (.int i7), .val (.int i8), .val (.ref r9), .val (.ref r10), .val (.int (0 : Int32)), .val (.int (1 : Int32)), .val (.int (own_bs p5)), .val (.int (0 : Int32)), .unset, .unset] [])) _
  refine st1 _ ?_
  show Steps p.tables e below (T1.setTop (mkF m 127 #[.val (.int p1), .val (.int p2), .val (.int p3), .val (.long q4), .second, .val (.int p5), .val (.int i6), .val (.int i7), .val (.int i8), .val (.ref r9), .val (.ref r10), .val (.int (0 : Int32)), .val (.int (1 : Int32)), .val (.int (own_bs p5)), .val (.int (0 : Int32)), .unset, .unset] [(.ref b1)])) _
  refine XS.dup X1.here hx rfl (hb hby at_127) rfl rfl ?_
  show Steps p.tables e below (T1.setTop (mkF m 128 #[.val (.int p1), .val (.int p2), .val (.int p3), .val (.long q4), .second, .val (.int p5), .val (.int i6), .val (.int i7), .val (.int i8), .val (.ref r9), .val (.ref r10), .val (.int (0 : Int32)), .val (.int (1 : Int32)), .val (.int (own_bs p5)), .val (.int (0 : Int32)), .unset, .unset] [(.ref b1), (.ref b1)])) _
  refine XS.iload X1.here hx rfl (hb hby at_128) rfl ?_
  show Steps p.tables e below (T1.setTop (mkF m 130 #[.val (.int p1), .val (.int p2), .val (.int p3), .val (.long q4), .second, .val (.int p5), .val (.int i6), .val (.int i7), .val (.int i8), .val (.ref r9), .val (.ref r10), .val (.int (0 : Int32)), .val (.int (1 : Int32)), .val (.int (own_bs p5)), .val (.int (0 : Int32)), .unset, .unset] [(.int (own_bs p5)), (.ref b1), (.ref b1)])) _
  refine XS.iload X1.here hx rfl (hb hby at_130) rfl ?_
  show Steps p.tables e below (T1.setTop (mkF m 132 #[.val (.int p1), .val (.int p2), .val (.int p3), .val (.long q4), .second, .val (.int p5), .val (.int i6), .val (.int i7), .val (.int i8), .val (.ref r9), .val (.ref r10), .val (.int (0 : Int32)), .val (.int (1 : Int32)), .val (.int (own_bs p5)), .val (.int (0 : Int32)), .unset, .unset] [(.int (own_bs p5)), (.int (own_bs p5)), (.ref b1), (.ref b1)])) _
  refine XS.iload X1.here hx rfl (hb hby at_132) rfl ?_
  show Steps p.tables e below (T1.setTop (mkF m 134 #[.val (.int p1), .val (.int p2), .val (.int p3), .val (.long q4), .second, .val (.int p5), .val (.int i6), .val (.int i7), .val (.int i8), .val (.ref r9), .val (.ref r10), .val (.int (0 : Int32)), .val (.int (1 : Int32)), .val (.int (own_bs p5)), .val (.int (0 : Int32)), .unset, .unset] [(.int (0 : Int32)), (.int (own_bs p5)), (.int (own_bs p5)), (.ref b1), (.ref b1)])) _
  refine XS.iadd X1.here hx rfl (hb hby at_134) rfl ?_
  show Steps p.tables e below (T1.setTop (mkF m 135 #[.val (.int p1), .val (.int p2), .val (.int p3), .val (.long q4), .second, .val (.int p5), .val (.int i6), .val (.int i7), .val (.int i8), .val (.ref r9), .val (.ref r10), .val (.int (0 : Int32)), .val (.int (1 : Int32)), .val (.int (own_bs p5)), .val (.int (0 : Int32)), .unset, .unset] [(.int ((own_bs p5) + (0 : Int32))), (.int (own_bs p5)), (.ref b1), (.ref b1)])) _
  rw [(own_add0 (own_bs p5))]
  show Steps p.tables e below (T1.setTop (mkF m 135 #[.val (.int p1), .val (.int p2), .val (.int p3), .val (.long q4), .second, .val (.int p5), .val (.int i6), .val (.int i7), .val (.int i8), .val (.ref r9), .val (.ref r10), .val (.int (0 : Int32)), .val (.int (1 : Int32)), .val (.int (own_bs p5)), .val (.int (0 : Int32)), .unset, .unset] [(.int (own_bs p5)), (.int (own_bs p5)), (.ref b1), (.ref b1)])) _
  refine st6.trans ?_
  show Steps p.tables e below (T6.setTop (mkF m 138 #[.val (.int p1), .val (.int p2), .val (.int p3), .val (.long q4), .second, .val (.int p5), .val (.int i6), .val (.int i7), .val (.int i8), .val (.ref r9), .val (.ref r10), .val (.int (0 : Int32)), .val (.int (1 : Int32)), .val (.int (own_bs p5)), .val (.int (0 : Int32)), .unset, .unset] [(.ref b1)])) _
  refine XS.astore X6.here hx rfl (hb hby at_138) rfl rfl (l' := #[.val (.int p1), .val (.int p2), .val (.int p3), .val (.long q4), .second, .val (.int p5), .val (.int i6), .val (.int i7), .val (.int i8), .val (.ref r9), .val (.ref r10), .val (.int (0 : Int32)), .val (.int (1 : Int32)), .val (.int (own_bs p5)), .val (.int (0 : Int32)), .val (.ref b1), .unset]) rfl ?_
  show Steps p.tables e below (T6.setTop (mkF m 140 #[.val (.int p1), .val (.int p2), .val (.int p3), .val (.long q4), .second, .val (.int p5), .val (.int i6), .val (.int i7), .val (.int i8), .val (.ref r9), .val (.ref r10), .val (.int (0 : Int32)), .val (.int (1 : Int32)), .val (.int (own_bs p5)), .val (.int (0 : Int32)), .val (.ref b1), .unset] [])) _
  refine XS.aload X6.here hx rfl (hb hby at_140) rfl rfl ?_
  show Steps p.tables e below (T6.setTop (mkF m 142 #[.val (.int p1), .val (.int p2), .val (.int p3), .val (.long q4), .second, .val (.int p5), .val (.int i6), .val (.int i7), .val (.int i8), .val (.ref r9), .val (.ref r10), .val (.int (0 : Int32)), .val (.int (1 : Int32)), .val (.int (own_bs p5)), .val (.int (0 : Int32)), .val (.ref b1), .unset] [(.ref b1)])) _
  refine st8.trans ?_
  show Steps p.tables e below (T8.setTop (mkF m 145 #[.val (.int p1), .val (.int p2), .val (.int p3), .val (.long q4), .second, .val (.int p5), .val (.int i6), .val (.int i7), .val (.int i8), .val (.ref r9), .val (.ref r10), .val (.int (0 : Int32)), .val (.int (1 : Int32)), .val (.int (own_bs p5)), .val (.int (0 : Int32)), .val (.ref b1), .unset] [(.int (1 : Int32))])) _
  refine XS.istore X8.here hx rfl (hb hby at_145) rfl (l' := #[.val (.int p1), .val (.int p2), .val (.int p3), .val (.long q4), .second, .val (.int p5), .val (.int i6), .val (.int i7), .val (.int i8), .val (.ref r9), .val (.ref r10), .val (.int (0 : Int32)), .val (.int (1 : Int32)), .val (.int (own_bs p5)), .val (.int (0 : Int32)), .val (.ref b1), .val (.int (1 : Int32))]) rfl ?_
  show Steps p.tables e below (T8.setTop (mkF m 147 #[.val (.int p1), .val (.int p2), .val (.int p3), .val (.long q4), .second, .val (.int p5), .val (.int i6), .val (.int i7), .val (.int i8), .val (.ref r9), .val (.ref r10), .val (.int (0 : Int32)), .val (.int (1 : Int32)), .val (.int (own_bs p5)), .val (.int (0 : Int32)), .val (.ref b1), .val (.int (1 : Int32))] [])) _
  refine XS.iload X8.here hx rfl (hb hby at_147) rfl ?_
  show Steps p.tables e below (T8.setTop (mkF m 149 #[.val (.int p1), .val (.int p2), .val (.int p3), .val (.long q4), .second, .val (.int p5), .val (.int i6), .val (.int i7), .val (.int i8), .val (.ref r9), .val (.ref r10), .val (.int (0 : Int32)), .val (.int (1 : Int32)), .val (.int (own_bs p5)), .val (.int (0 : Int32)), .val (.ref b1), .val (.int (1 : Int32))] [(.int (0 : Int32))])) _
  refine XS.iload X8.here hx rfl (hb hby at_149) rfl ?_
  show Steps p.tables e below (T8.setTop (mkF m 151 #[.val (.int p1), .val (.int p2), .val (.int p3), .val (.long q4), .second, .val (.int p5), .val (.int i6), .val (.int i7), .val (.int i8), .val (.ref r9), .val (.ref r10), .val (.int (0 : Int32)), .val (.int (1 : Int32)), .val (.int (own_bs p5)), .val (.int (0 : Int32)), .val (.ref b1), .val (.int (1 : Int32))] [(.int i7), (.int (0 : Int32))])) _
  refine XS.ifYes X8.here hx rfl (pc0 := 151) (pc' := 158) rfl (hb hby at_151) rfl ((if0 _ _).trans (feq (hl : ¬ (i7 = (0 : Int32)))).2) (by decide) (by decide) ?_
  show Steps p.tables e below (T8.setTop (mkF m 158 #[.val (.int p1), .val (.int p2), .val (.int p3), .val (.long q4), .second, .val (.int p5), .val (.int i6), .val (.int i7), .val (.int i8), .val (.ref r9), .val (.ref r10), .val (.int (0 : Int32)), .val (.int (1 : Int32)), .val (.int (own_bs p5)), .val (.int (0 : Int32)), .val (.ref b1), .val (.int (1 : Int32))] [(.int (0 : Int32))])) _
  refine XS.iconst X8.here hx rfl (hb hby at_158) ?_
  show Steps p.tables e below (T8.setTop (mkF m 159 #[.val (.int p1), .val (.int p2), .val (.int p3), .val (.long q4), .second, .val (.int p5), .val (.int i6), .val (.int i7), .val (.int i8), .val (.ref r9), .val (.ref r10), .val (.int (0 : Int32)), .val (.int (1 : Int32)), .val (.int (own_bs p5)), .val (.int (0 : Int32)), .val (.ref b1), .val (.int (1 : Int32))] [(.int (0 : Int32)), (.int (0 : Int32))])) _
  refine XS.icmpNo X8.here hx rfl (hb hby at_159) rfl (teq (rfl : (0 : Int32) = (0 : Int32))).2 ?_
  show Steps p.tables e below (T8.setTop (mkF m 162 #[.val (.int p1), .val (.int p2), .val (.int p3), .val (.long q4), .second, .val (.int p5), .val (.int i6), .val (.int i7), .val (.int i8), .val (.ref r9), .val (.ref r10), .val (.int (0 : Int32)), .val (.int (1 : Int32)), .val (.int (own_bs p5)), .val (.int (0 : Int32)), .val (.ref b1), .val (.int (1 : Int32))] [])) _
  refine XS.iload X8.here hx rfl (hb hby at_162) rfl ?_
  show Steps p.tables e below (T8.setTop (mkF m 164 #[.val (.int p1), .val (.int p2), .val (.int p3), .val (.long q4), .second, .val (.int p5), .val (.int i6), .val (.int i7), .val (.int i8), .val (.ref r9), .val (.ref r10), .val (.int (0 : Int32)), .val (.int (1 : Int32)), .val (.int (own_bs p5)), .val (.int (0 : Int32)), .val (.ref b1), .val (.int (1 : Int32))] [(.int (1 : Int32))])) _
  refine XS.ifNo X8.here hx rfl (hb hby at_164) rfl ((if0 _ _).trans (feq (by decide : ¬ ((1 : Int32) = (0 : Int32)))).1) ?_
  show Steps p.tables e below (T8.setTop (mkF m 167 #[.val (.int p1), .val (.int p2), .val (.int p3), .val (.long q4), .second, .val (.int p5), .val (.int i6), .val (.int i7), .val (.int i8), .val (.ref r9), .val (.ref r10), .val (.int (0 : Int32)), .val (.int (1 : Int32)), .val (.int (own_bs p5)), .val (.int (0 : Int32)), .val (.ref b1), .val (.int (1 : Int32))] [])) _
  refine XS.iload X8.here hx rfl (hb hby at_167) rfl ?_
  show Steps p.tables e below (T8.setTop (mkF m 169 #[.val (.int p1), .val (.int p2), .val (.int p3), .val (.long q4), .second, .val (.int p5), .val (.int i6), .val (.int i7), .val (.int i8), .val (.ref r9), .val (.ref r10), .val (.int (0 : Int32)), .val (.int (1 : Int32)), .val (.int (own_bs p5)), .val (.int (0 : Int32)), .val (.ref b1), .val (.int (1 : Int32))] [(.int (1 : Int32))])) _
  refine XS.iload X8.here hx rfl (hb hby at_169) rfl ?_
  show Steps p.tables e below (T8.setTop (mkF m 171 #[.val (.int p1), .val (.int p2), .val (.int p3), .val (.long q4), .second, .val (.int p5), .val (.int i6), .val (.int i7), .val (.int i8), .val (.ref r9), .val (.ref r10), .val (.int (0 : Int32)), .val (.int (1 : Int32)), .val (.int (own_bs p5)), .val (.int (0 : Int32)), .val (.ref b1), .val (.int (1 : Int32))] [(.int (0 : Int32)), (.int (1 : Int32))])) _
  refine XS.ifNo X8.here hx rfl (hb hby at_171) rfl ((if0 _ _).trans (teq (rfl : (0 : Int32) = (0 : Int32))).2) ?_
  show Steps p.tables e below (T8.setTop (mkF m 174 #[.val (.int p1), .val (.int p2), .val (.int p3), .val (.long q4), .second, .val (.int p5), .val (.int i6), .val (.int i7), .val (.int i8), .val (.ref r9), .val (.ref r10), .val (.int (0 : Int32)), .val (.int (1 : Int32)), .val (.int (own_bs p5)), .val (.int (0 : Int32)), .val (.ref b1), .val (.int (1 : Int32))] [(.int (1 : Int32))])) _
  refine XS.iconst X8.here hx rfl (hb hby at_174) ?_
  show Steps p.tables e below (T8.setTop (mkF m 175 #[.val (.int p1), .val (.int p2), .val (.int p3), .val (.long q4), .second, .val (.int p5), .val (.int i6), .val (.int i7), .val (.int i8), .val (.ref r9), .val (.ref r10), .val (.int (0 : Int32)), .val (.int (1 : Int32)), .val (.int (own_bs p5)), .val (.int (0 : Int32)), .val (.ref b1), .val (.int (1 : Int32))] [(.int (1 : Int32)), (.int (1 : Int32))])) _
  refine XS.goto X8.here hx rfl (pc0 := 175) (pc' := 179) rfl (hb hby at_175) (by decide) (by decide) ?_
  show Steps p.tables e below (T8.setTop (mkF m 179 #[.val (.int p1), .val (.int p2), .val (.int p3), .val (.long q4), .second, .val (.int p5), .val (.int i6), .val (.int i7), .val (.int i8), .val (.ref r9), .val (.ref r10), .val (.int (0 : Int32)), .val (.int (1 : Int32)), .val (.int (own_bs p5)), .val (.int (0 : Int32)), .val (.ref b1), .val (.int (1 : Int32))] [(.int (1 : Int32)), (.int (1 : Int32))])) _
  refine XS.icmpNo X8.here hx rfl (hb hby at_179) rfl (teq (rfl : (1 : Int32) = (1 : Int32))).2 ?_
  show Steps p.tables e below (T8.setTop (mkF m 182 #[.val (.int p1), .val (.int p2), .val (.int p3), .val (.long q4), .second, .val (.int p5), .val (.int i6), .val (.int i7), .val (.int i8), .val (.ref r9), .val (.ref r10), .val (.int (0 : Int32)), .val (.int (1 : Int32)), .val (.int (own_bs p5)), .val (.int (0 : Int32)), .val (.ref b1), .val (.int (1 : Int32))] [])) _
  refine XS.iconst X8.here hx rfl (hb hby at_182) ?_
  show Steps p.tables e below (T8.setTop (mkF m 183 #[.val (.int p1), .val (.int p2), .val (.int p3), .val (.long q4), .second, .val (.int p5), .val (.int i6), .val (.int i7), .val (.int i8), .val (.ref r9), .val (.ref r10), .val (.int (0 : Int32)), .val (.int (1 : Int32)), .val (.int (own_bs p5)), .val (.int (0 : Int32)), .val (.ref b1), .val (.int (1 : Int32))] [(.int (1 : Int32))])) _
  refine XS.goto X8.here hx rfl (pc0 := 183) (pc' := 187) rfl (hb hby at_183) (by decide) (by decide) ?_
  show Steps p.tables e below (T8.setTop (mkF m 187 #[.val (.int p1), .val (.int p2), .val (.int p3), .val (.long q4), .second, .val (.int p5), .val (.int i6), .val (.int i7), .val (.int i8), .val (.ref r9), .val (.ref r10), .val (.int (0 : Int32)), .val (.int (1 : Int32)), .val (.int (own_bs p5)), .val (.int (0 : Int32)), .val (.ref b1), .val (.int (1 : Int32))] [(.int (1 : Int32))])) _
  exact retN X8 hx (t := .boolean) hret (by simp) (hb hby at_187) hr
set_option maxRecDepth 65536 in
set_option maxHeartbeats 40000000 in
theorem own_k010 {p : Program} {l : Launch} {e : Env} {s : State} {m : MethodId} {below : List Frame} {meth : Method} {c : Code} {s₁ : State} {Z : State} {a0 : Array Value} (hw : ∀ d ∈ tables_1, d.before a0 Z = true) (G1 : Int32) (G3 : Value) (gl : own_Glob Z G1 G3) (p1 : Int32) (p2 : Int32) (p3 : Int32) (q4 : Int64) (p5 : Int32) (i6 : Int32) (i7 : Int32) (i8 : Int32) (r9 : Addr) (r10 : Addr) {h0 : Heap} {n0 : Nat} (Z0 : n0 ≤ h0.size) (X00 : Old Z n0 h0) (hl : ¬ (i7 = (0 : Int32))) (hbs : (2147483644 : Int32) < (own_bs p5)) (hbl : ¬ (own_bl p2 = (0 : Int32)))
    {locs0 : List Loc} (X0 : Stand p l e room_1 s m #[(.int p1), (.int p2), (.int p3), (.long q4), (.int p5)] below meth c s₁ locs0 4 22) (N0 : Fr n0 locs0) (hx : p.tables.exec = Jvm.exec) (hZ : Z.Warmed39 s.vm) (hby : c.code = code) (hml : c.maxLocals = 17) (hown : s.vm.findClass "com/example/incorpus/incorpus/SpanIsEmptyPinLaw" = some m.cls) (e0 : s₁.heap = h0) (hret : meth.sig.returnType = some .boolean) (hlk : meth.locks = false) :
    ∃ s₂ o, Steps p.tables e below (s₁.setTop (mkF m 97 #[.val (.int p1), .val (.int p2), .val (.int p3), .val (.long q4), .second, .val (.int p5), .val (.int i6), .val (.int i7), .val (.int i8), .val (.ref r9), .val (.ref r10), .val (.int (0 : Int32)), .val (.int (1 : Int32)), .unset, .unset, .unset, .unset] [])) s₂ ∧ s₂.status = .running ∧ Ended s₂ below o ∧ ∃ v L, o = .returned v ∧ own_Qlaw h0 n0 v s₂.heap L ∧ FrameEnd s o s₂ L room_1.cells room_1.slots := by
  obtain ⟨O_CS, P_CS, O_SI, P_SI⟩ := id gl
  obtain ⟨T1, h1, X1, e1, E1, A1, D1, U1, st1⟩ := newO X0 hx hZ hown (hw _ (List.mem_of_getElem? (i := 35) rfl)) (hw _ (List.mem_of_getElem? (i := 36) rfl)) (hw _ (List.mem_of_getElem? (i := 37) rfl)) e0 (g := (mkF m 124 #[.val (.int p1), .val (.int p2), .val (.int p3), .val (.long q4), .second, .val (.int p5), .val (.int i6), .val (.int i7), .val (.int i8), .val (.ref r9), .val (.ref r10), .val (.int (0 : Int32)), .val (.int (1 : Int32)), .val (.int (own_bs3 p5)), .val (.int (own_bl p2)), .unset, .unset] [])) rfl (hb hby at_124) (by decide) (by decide)
  obtain ⟨b1, g1⟩ : ∃ z, z = h0.size := ⟨_, rfl⟩
  rw [← g1] at A1 D1 U1 st1
  have Kp2 : Keep h0 h1 [] := (Keep.refl h0 []).ext E1
  have Fh3 : Fld Z h1 b1 "com/example/incorpus/incorpus/Span" "start" "I" (.int (0 : Int32)) := (D1 (Or.inr (hw _ (List.mem_of_getElem? (i := 48) rfl))) (ty := .int) (by decide))
  have gh4 : n0 ≤ b1 := Nat.le_trans Z0 (Nat.le_of_eq g1.symm)
  have Fh5 : Fld Z h1 b1 "com/example/incorpus/incorpus/Span" "end" "I" (.int (0 : Int32)) := (D1 (Or.inr (hw _ (List.mem_of_getElem? (i := 50) rfl))) (ty := .int) (by decide))
  obtain ⟨_, _, ⟨T6, L6, k6, n6⟩, -, X6, ⟨Lc6, hQ6, l6, y6, z6⟩, st6⟩ := X1.specialBack hx (y := (⟨"com/example/incorpus/incorpus/Span", "<init>", "(II)V"⟩ : MethodName)) rfl hown (mvT hZ (hw _ (List.mem_of_getElem? (i := 38) rfl))) (mvT hZ (hw _ (List.mem_of_getElem? (i := 39) rfl))) (mvT hZ (hw _ (List.mem_of_getElem? (i := 40) rfl))) (by decide) (backOf (W := 1) (own_rm_span l Z a0 hw [] G1 G3 gl b1 (own_bs3 p5) ((own_bs3 p5) + (own_bl p2)) ((.int (0 : Int32))) ((.int (0 : Int32))) h1 n0 (Nat.le_trans Z0 Kp2.1) A1 Fh3 gh4 Fh5 ((own_bs3n p5 hbs) : ¬ ((own_bs3 p5) < (0 : Int32))) ((own_pl2 p2 p5 hbs).1 : ¬ (((own_bs3 p5) + (own_bl p2)) < (own_bs3 p5)))) hZ (hw _ (List.mem_of_getElem? (i := 40) rfl)) (hw _ (List.mem_of_getElem? (i := 37) rfl)) (by decide) (by decide)) (g := (mkF m 135 #[.val (.int p1), .val (.int p2), .val (.int p3), .val (.long q4), .second, .val (.int p5), .val (.int i6), .val (.int i7), .val (.int i8), .val (.ref r9), .val (.ref r10), .val (.int (0 : Int32)), .val (.int (1 : Int32)), .val (.int (own_bs3 p5)), .val (.int (own_bl p2)), .unset, .unset] [(.int ((own_bs3 p5) + (own_bl p2))), (.int (own_bs3 p5)), (.ref b1), (.ref b1)])) rfl (by rw [hml]; rfl) (Steps.refl _) (a := b1) (argsL := [(.int (own_bs3 p5)), (.int ((own_bs3 p5) + (own_bl p2)))]) (rest := [(.ref b1)]) (lenOf own_pd6 rfl) rfl (by show 2 * 0 + _ ≤ _; exact Nat.le_of_eq rfl) (hb hby at_135) (fun _ _ => ⟨rfl, e1, (by decide : 5 + 0 ≤ _), (by decide : 24 + 0 ≤ _)⟩)
  dsimp only [Pt.U, Pt.locs, Pt.cells, Pt.slots] at X6 l6 y6 z6 st6 hQ6
  subst y6 z6
  obtain ⟨rfl, Nq6, Kq6, f6_0, f6_1, f6_2⟩ := hQ6
  have N6 : Fr n0 L6 := by rw [l6]; exact Fr.app N0 Nq6
  have Kp7 : Keep h0 T6.heap [] := Kp2.trans Kq6 (allS (Or.inr (Nat.le_trans (Keep.refl h0 []).1 (Nat.le_of_eq g1.symm))) all0)
  obtain ⟨cq8, kq8, q8a, q8b, q8c⟩ := isOf hZ rfl f6_0
  obtain ⟨_, _, ⟨T8, L8, k8, n8⟩, -, X8, ⟨Lc8, hQ8, l8, y8, z8⟩, st8⟩ := X6.virtualBack hx (y := (⟨"com/example/incorpus/incorpus/Span", "isEmpty", "()Z"⟩ : MethodName)) (z := (⟨"com/example/incorpus/incorpus/Span", "isEmpty", "()Z"⟩ : MethodName)) hown (mvT hZ (hw _ (List.mem_of_getElem? (i := 51) rfl))) (mvT hZ (hw _ (List.mem_of_getElem? (i := 52) rfl))) (notFace_of_selects (args := #[]) (mvT hZ (hw _ (List.mem_of_getElem? (i := 54) rfl)))) (mvT hZ (hw _ (List.mem_of_getElem? (i := 54) rfl))) (mvT hZ (hw _ (List.mem_of_getElem? (i := 53) rfl))) (by decide) (backOf (W := 0) (own_rm_emp0 l Z a0 hw [] G1 G3 gl b1 (own_bs3 p5) ((own_bs3 p5) + (own_bl p2)) T6.heap n0 (Nat.le_trans Z0 Kp7.1) f6_1 f6_2 (((own_pl2 p2 p5 hbs).2 hbl) : ¬ ((own_bs3 p5) = ((own_bs3 p5) + (own_bl p2))))) hZ (hw _ (List.mem_of_getElem? (i := 55) rfl)) (hw _ (List.mem_of_getElem? (i := 37) rfl)) (by decide) (by decide)) q8a q8c (g := (mkF m 142 #[.val (.int p1), .val (.int p2), .val (.int p3), .val (.long q4), .second, .val (.int p5), .val (.int i6), .val (.int i7), .val (.int i8), .val (.ref r9), .val (.ref r10), .val (.int (0 : Int32)), .val (.int (1 : Int32)), .val (.int (own_bs3 p5)), .val (.int (own_bl p2)), .val (.ref b1), .unset] [(.ref b1)])) rfl (by rw [hml]; rfl) (Steps.refl _) (argsL := []) (rest := []) (lenOf own_pd7 rfl) rfl (by show 2 * 0 + _ ≤ _; exact Nat.le_of_eq rfl) (hb hby at_142) (fun _ _ => ⟨rfl, rfl, (by decide : 5 + 0 ≤ _), (by decide : 24 + 0 ≤ _)⟩)
  dsimp only [Pt.U, Pt.locs, Pt.cells, Pt.slots] at X8 l8 y8 z8 st8 hQ8
  subst y8 z8
  obtain ⟨rfl, Nq8, e8⟩ := hQ8
  have N8 : Fr n0 L8 := by rw [l8]; exact Fr.app N6 Nq8
  obtain ⟨fs, hr, hrun, hended, hW, hsame⟩ := X8.leave (v := some (.int (1 : Int32))) (fun h => by rw [hret] at h; cases h)
  refine ⟨_, _, ?_, hrun, hended, _, _, rfl, ⟨rfl, N8⟩, ⟨_, rfl⟩, hW, hsame.mono (by decide) (by decide)⟩
  show Steps p.tables e below (s₁.setTop (mkF m 97 #[.val (.int p1), .val (.int p2), .val (.int p3), .val (.long q4), .second, .val (.int p5), .val (.int i6), .val (.int i7), .val (.int i8), .val (.ref r9), .val (.ref r10), .val (.int (0 : Int32)), .val (.int (1 : Int32)), .unset, .unset, .unset, .unset] [])) _
  refine XS.iload X0.here hx rfl (hb hby at_97) rfl ?_
  show Steps p.tables e below (s₁.setTop (mkF m 99 #[.val (.int p1), .val (.int p2), .val (.int p3), .val (.long q4), .second, .val (.int p5), .val (.int i6), .val (.int i7), .val (.int i8), .val (.ref r9), .val (.ref r10), .val (.int (0 : Int32)), .val (.int (1 : Int32)), .unset, .unset, .unset, .unset] [(.int p5)])) _
  refine X0.ldcInt hx hown (mvT hZ (hw _ (List.mem_of_getElem? (i := 84) rfl))) (g := (mkF m 99 #[.val (.int p1), .val (.int p2), .val (.int p3), .val (.long q4), .second, .val (.int p5), .val (.int i6), .val (.int i7), .val (.int i8), .val (.ref r9), .val (.ref r10), .val (.int (0 : Int32)), .val (.int (1 : Int32)), .unset, .unset, .unset, .unset] [(.int p5)])) rfl (hb hby at_99) _ ?_
  show Steps p.tables e below (s₁.setTop (mkF m 101 #[.val (.int p1), .val (.int p2), .val (.int p3), .val (.long q4), .second, .val (.int p5), .val (.int i6), .val (.int i7), .val (.int i8), .val (.ref r9), .val (.ref r10), .val (.int (0 : Int32)), .val (.int (1 : Int32)), .unset, .unset, .unset, .unset] [(.int (2147483647 : Int32)), (.int p5)])) _
  refine XS.iand X0.here hx rfl (hb hby at_101) rfl ?_
  show Steps p.tables e below (s₁.setTop (mkF m 102 #[.val (.int p1), .val (.int p2), .val (.int p3), .val (.long q4), .second, .val (.int p5), .val (.int i6), .val (.int i7), .val (.int i8), .val (.ref r9), .val (.ref r10), .val (.int (0 : Int32)), .val (.int (1 : Int32)), .unset, .unset, .unset, .unset] [(.int (own_bs p5))])) _
  refine XS.istore X0.here hx rfl (hb hby at_102) rfl (l' := #[.val (.int p1), .val (.int p2), .val (.int p3), .val (.long q4), .second, .val (.int p5), .val (.int i6), .val (.int i7), .val (.int i8), .val (.ref r9), .val (.ref r10), .val (.int (0 : Int32)), .val (.int (1 : Int32)), .val (.int (own_bs p5)), .unset, .unset, .unset]) rfl ?_
  show Steps p.tables e below (s₁.setTop (mkF m 104 #[.val (.int p1), .val (.int p2), .val (.int p3), .val (.long q4), .second, .val (.int p5), .val (.int i6), .val (.int i7), .val (.int i8), .val (.ref r9), .val (.ref r10), .val (.int (0 : Int32)), .val (.int (1 : Int32)), .val (.int (own_bs p5)), .unset, .unset, .unset] [])) _
  refine XS.iload X0.here hx rfl (hb hby at_104) rfl ?_
  show Steps p.tables e below (s₁.setTop (mkF m 106 #[.val (.int p1), .val (.int p2), .val (.int p3), .val (.long q4), .second, .val (.int p5), .val (.int i6), .val (.int i7), .val (.int i8), .val (.ref r9), .val (.ref r10), .val (.int (0 : Int32)), .val (.int (1 : Int32)), .val (.int (own_bs p5)), .unset, .unset, .unset] [(.int (own_bs p5))])) _
  refine X0.ldcInt hx hown (mvT hZ (hw _ (List.mem_of_getElem? (i := 85) rfl))) (g := (mkF m 106 #[.val (.int p1), .val (.int p2), .val (.int p3), .val (.long q4), .second, .val (.int p5), .val (.int i6), .val (.int i7), .val (.int i8), .val (.ref r9), .val (.ref r10), .val (.int (0 : Int32)), .val (.int (1 : Int32)), .val (.int (own_bs p5)), .unset, .unset, .unset] [(.int (own_bs p5))])) rfl (hb hby at_106) _ ?_
  show Steps p.tables e below (s₁.setTop (mkF m 108 #[.val (.int p1), .val (.int p2), .val (.int p3), .val (.long q4), .second, .val (.int p5), .val (.int i6), .val (.int i7), .val (.int i8), .val (.ref r9), .val (.ref r10), .val (.int (0 : Int32)), .val (.int (1 : Int32)), .val (.int (own_bs p5)), .unset, .unset, .unset] [(.int (2147483644 : Int32)), (.int (own_bs p5))])) _
  refine XS.icmpNo X0.here hx rfl (hb hby at_108) rfl (tlt (hbs : (2147483644 : Int32) < (own_bs p5))).2.2.2 ?_
  show Steps p.tables e below (s₁.setTop (mkF m 111 #[.val (.int p1), .val (.int p2), .val (.int p3), .val (.long q4), .second, .val (.int p5), .val (.int i6), .val (.int i7), .val (.int i8), .val (.ref r9), .val (.ref r10), .val (.int (0 : Int32)), .val (.int (1 : Int32)), .val (.int (own_bs p5)), .unset, .unset, .unset] [])) _
  refine XS.iload X0.here hx rfl (hb hby at_111) rfl ?_
  show Steps p.tables e below (s₁.setTop (mkF m 113 #[.val (.int p1), .val (.int p2), .val (.int p3), .val (.long q4), .second, .val (.int p5), .val (.int i6), .val (.int i7), .val (.int i8), .val (.ref r9), .val (.ref r10), .val (.int (0 : Int32)), .val (.int (1 : Int32)), .val (.int (own_bs p5)), .unset, .unset, .unset] [(.int (own_bs p5))])) _
  refine XS.iconst X0.here hx rfl (hb hby at_113) ?_
  show Steps p.tables e below (s₁.setTop (mkF m 114 #[.val (.int p1), .val (.int p2), .val (.int p3), .val (.long q4), .second, .val (.int p5), .val (.int i6), .val (.int i7), .val (.int i8), .val (.ref r9), .val (.ref r10), .val (.int (0 : Int32)), .val (.int (1 : Int32)), .val (.int (own_bs p5)), .unset, .unset, .unset] [(.int (3 : Int32)), (.int (own_bs p5))])) _
  refine XS.isub X0.here hx rfl (hb hby at_114) rfl ?_
  show Steps p.tables e below (s₁.setTop (mkF m 115 #[.val (.int p1), .val (.int p2), .val (.int p3), .val (.long q4), .second, .val (.int p5), .val (.int i6), .val (.int i7), .val (.int i8), .val (.ref r9), .val (.ref r10), .val (.int (0 : Int32)), .val (.int (1 : Int32)), .val (.int (own_bs p5)), .unset, .unset, .unset] [(.int (own_bs3 p5))])) _
  refine XS.istore X0.here hx rfl (hb hby at_115) rfl (l' := #[.val (.int p1), .val (.int p2), .val (.int p3), .val (.long q4), .second, .val (.int p5), .val (.int i6), .val (.int i7), .val (.int i8), .val (.ref r9), .val (.ref r10), .val (.int (0 : Int32)), .val (.int (1 : Int32)), .val (.int (own_bs3 p5)), .unset, .unset, .unset]) rfl ?_
  show Steps p.tables e below (s₁.setTop (mkF m 117 #[.val (.int p1), .val (.int p2), .val (.int p3), .val (.long q4), .second, .val (.int p5), .val (.int i6), .val (.int i7), .val (.int i8), .val (.ref r9), .val (.ref r10), .val (.int (0 : Int32)), .val (.int (1 : Int32)), .val (.int (own_bs3 p5)), .unset, .unset, .unset] [])) _
  refine XS.iloadN X0.here hx rfl (hb hby at_117) rfl ?_
  show Steps p.tables e below (s₁.setTop (mkF m 118 #[.val (.int p1), .val (.int p2), .val (.int p3), .val (.long q4), .second, .val (.int p5), .val (.int i6), .val (.int i7), .val (.int i8), .val (.ref r9), .val (.ref r10), .val (.int (0 : Int32)), .val (.int (1 : Int32)), .val (.int (own_bs3 p5)), .unset, .unset, .unset] [(.int p2)])) _
  refine XS.iconst X0.here hx rfl (hb hby at_118) ?_
  show Steps p.tables e below (s₁.setTop (mkF m 119 #[.val (.int p1), .val (.int p2), .val (.int p3), .val (.long q4), .second, .val (.int p5), .val (.int i6), .val (.int i7), .val (.int i8), .val (.ref r9), .val (.ref r10), .val (.int (0 : Int32)), .val (.int (1 : Int32)), .val (.int (own_bs3 p5)), .unset, .unset, .unset] [(.int (2 : Int32)), (.int p2)])) _
  refine XS.iushr X0.here hx rfl (hb hby at_119) rfl ?_
  show Steps p.tables e below (s₁.setTop (mkF m 120 #[.val (.int p1), .val (.int p2), .val (.int p3), .val (.long q4), .second, .val (.int p5), .val (.int i6), .val (.int i7), .val (.int i8), .val (.ref r9), .val (.ref r10), .val (.int (0 : Int32)), .val (.int (1 : Int32)), .val (.int (own_bs3 p5)), .unset, .unset, .unset] [(.int ((p2.toUInt32 >>> ((2 : Int32) &&& 31).toUInt32).toInt32))])) _
  refine XS.iconst X0.here hx rfl (hb hby at_120) ?_
  show Steps p.tables e below (s₁.setTop (mkF m 121 #[.val (.int p1), .val (.int p2), .val (.int p3), .val (.long q4), .second, .val (.int p5), .val (.int i6), .val (.int i7), .val (.int i8), .val (.ref r9), .val (.ref r10), .val (.int (0 : Int32)), .val (.int (1 : Int32)), .val (.int (own_bs3 p5)), .unset, .unset, .unset] [(.int (3 : Int32)), (.int ((p2.toUInt32 >>> ((2 : Int32) &&& 31).toUInt32).toInt32))])) _
  refine XS.iand X0.here hx rfl (hb hby at_121) rfl ?_
  show Steps p.tables e below (s₁.setTop (mkF m 122 #[.val (.int p1), .val (.int p2), .val (.int p3), .val (.long q4), .second, .val (.int p5), .val (.int i6), .val (.int i7), .val (.int i8), .val (.ref r9), .val (.ref r10), .val (.int (0 : Int32)), .val (.int (1 : Int32)), .val (.int (own_bs3 p5)), .unset, .unset, .unset] [(.int (own_bl p2))])) _
  refine XS.istore X0.here hx rfl (hb hby at_122) rfl (l' := #[.val (.int p1), .val (.int p2), .val (.int p3), .val (.long q4), .second, .val (.int p5), .val (.int i6), .val (.int i7), .val (.int i8), .val (.ref r9), .val (.ref r10), .val (.int (0 : Int32)), .val (.int (1 : Int32)), .val (.int (own_bs3 p5)), .val (.int (own_bl p2)), .unset, .unset]) rfl ?_
  show Steps p.tables e below (s₁.setTop (mkF m 124 #[.val (.int p1), .val (.int p2), .val (.int p3), .val (.long q4), .second, .val (.int p5), .val (.int i6), .val (.int i7), .val (.int i8), .val (.ref r9), .val (.ref r10), .val (.int (0 : Int32)), .val (.int (1 : Int32)), .val (.int (own_bs3 p5)), .val (.int (own_bl p2)), .unset, .unset] [])) _
  refine st1 _ ?_
  show Steps p.tables e below (T1.setTop (mkF m 127 #[.val (.int p1), .val (.int p2), .val (.int p3), .val (.long q4), .second, .val (.int p5), .val (.int i6), .val (.int i7), .val (.int i8), .val (.ref r9), .val (.ref r10), .val (.int (0 : Int32)), .val (.int (1 : Int32)), .val (.int (own_bs3 p5)), .val (.int (own_bl p2)), .unset, .unset] [(.ref b1)])) _
  refine XS.dup X1.here hx rfl (hb hby at_127) rfl rfl ?_
  show Steps p.tables e below (T1.setTop (mkF m 128 #[.val (.int p1), .val (.int p2), .val (.int p3), .val (.long q4), .second, .val (.int p5), .val (.int i6), .val (.int i7), .val (.int i8), .val (.ref r9), .val (.ref r10), .val (.int (0 : Int32)), .val (.int (1 : Int32)), .val (.int (own_bs3 p5)), .val (.int (own_bl p2)), .unset, .unset] [(.ref b1), (.ref b1)])) _
  refine XS.iload X1.here hx rfl (hb hby at_128) rfl ?_
  show Steps p.tables e below (T1.setTop (mkF m 130 #[.val (.int p1), .val (.int p2), .val (.int p3), .val (.long q4), .second, .val (.int p5), .val (.int i6), .val (.int i7), .val (.int i8), .val (.ref r9), .val (.ref r10), .val (.int (0 : Int32)), .val (.int (1 : Int32)), .val (.int (own_bs3 p5)), .val (.int (own_bl p2)), .unset, .unset] [(.int (own_bs3 p5)), (.ref b1), (.ref b1)])) _
  refine XS.iload X1.here hx rfl (hb hby at_130) rfl ?_
  show Steps p.tables e below (T1.setTop (mkF m 132 #[.val (.int p1), .val (.int p2), .val (.int p3), .val (.long q4), .second, .val (.int p5), .val (.int i6), .val (.int i7), .val (.int i8), .val (.ref r9), .val (.ref r10), .val (.int (0 : Int32)), .val (.int (1 : Int32)), .val (.int (own_bs3 p5)), .val (.int (own_bl p2)), .unset, .unset] [(.int (own_bs3 p5)), (.int (own_bs3 p5)), (.ref b1), (.ref b1)])) _
  refine XS.iload X1.here hx rfl (hb hby at_132) rfl ?_
  show Steps p.tables e below (T1.setTop (mkF m 134 #[.val (.int p1), .val (.int p2), .val (.int p3), .val (.long q4), .second, .val (.int p5), .val (.int i6), .val (.int i7), .val (.int i8), .val (.ref r9), .val (.ref r10), .val (.int (0 : Int32)), .val (.int (1 : Int32)), .val (.int (own_bs3 p5)), .val (.int (own_bl p2)), .unset, .unset] [(.int (own_bl p2)), (.int (own_bs3 p5)), (.int (own_bs3 p5)), (.ref b1), (.ref b1)])) _
  refine XS.iadd X1.here hx rfl (hb hby at_134) rfl ?_
  show Steps p.tables e below (T1.setTop (mkF m 135 #[.val (.int p1), .val (.int p2), .val (.int p3), .val (.long q4), .second, .val (.int p5), .val (.int i6), .val (.int i7), .val (.int i8), .val (.ref r9), .val (.ref r10), .val (.int (0 : Int32)), .val (.int (1 : Int32)), .val (.int (own_bs3 p5)), .val (.int (own_bl p2)), .unset, .unset] [(.int ((own_bs3 p5) + (own_bl p2))), (.int (own_bs3 p5)), (.ref b1), (.ref b1)])) _
  refine st6.trans ?_
  show Steps p.tables e below (T6.setTop (mkF m 138 #[.val (.int p1), .val (.int p2), .val (.int p3), .val (.long q4), .second, .val (.int p5), .val (.int i6), .val (.int i7), .val (.int i8), .val (.ref r9), .val (.ref r10), .val (.int (0 : Int32)), .val (.int (1 : Int32)), .val (.int (own_bs3 p5)), .val (.int (own_bl p2)), .unset, .unset] [(.ref b1)])) _
  refine XS.astore X6.here hx rfl (hb hby at_138) rfl rfl (l' := #[.val (.int p1), .val (.int p2), .val (.int p3), .val (.long q4), .second, .val (.int p5), .val (.int i6), .val (.int i7), .val (.int i8), .val (.ref r9), .val (.ref r10), .val (.int (0 : Int32)), .val (.int (1 : Int32)), .val (.int (own_bs3 p5)), .val (.int (own_bl p2)), .val (.ref b1), .unset]) rfl ?_
  show Steps p.tables e below (T6.setTop (mkF m 140 #[.val (.int p1), .val (.int p2), .val (.int p3), .val (.long q4), .second, .val (.int p5), .val (.int i6), .val (.int i7), .val (.int i8), .val (.ref r9), .val (.ref r10), .val (.int (0 : Int32)), .val (.int (1 : Int32)), .val (.int (own_bs3 p5)), .val (.int (own_bl p2)), .val (.ref b1), .unset] [])) _
  refine XS.aload X6.here hx rfl (hb hby at_140) rfl rfl ?_
  show Steps p.tables e below (T6.setTop (mkF m 142 #[.val (.int p1), .val (.int p2), .val (.int p3), .val (.long q4), .second, .val (.int p5), .val (.int i6), .val (.int i7), .val (.int i8), .val (.ref r9), .val (.ref r10), .val (.int (0 : Int32)), .val (.int (1 : Int32)), .val (.int (own_bs3 p5)), .val (.int (own_bl p2)), .val (.ref b1), .unset] [(.ref b1)])) _
  refine st8.trans ?_
  show Steps p.tables e below (T8.setTop (mkF m 145 #[.val (.int p1), .val (.int p2), .val (.int p3), .val (.long q4), .second, .val (.int p5), .val (.int i6), .val (.int i7), .val (.int i8), .val (.ref r9), .val (.ref r10), .val (.int (0 : Int32)), .val (.int (1 : Int32)), .val (.int (own_bs3 p5)), .val (.int (own_bl p2)), .val (.ref b1), .unset] [(.int (0 : Int32))])) _
  refine XS.istore X8.here hx rfl (hb hby at_145) rfl (l' := #[.val (.int p1), .val (.int p2), .val (.int p3), .val (.long q4), .second, .val (.int p5), .val (.int i6), .val (.int i7), .val (.int i8), .val (.ref r9), .val (.ref r10), .val (.int (0 : Int32)), .val (.int (1 : Int32)), .val (.int (own_bs3 p5)), .val (.int (own_bl p2)), .val (.ref b1), .val (.int (0 : Int32))]) rfl ?_
  show Steps p.tables e below (T8.setTop (mkF m 147 #[.val (.int p1), .val (.int p2), .val (.int p3), .val (.long q4), .second, .val (.int p5), .val (.int i6), .val (.int i7), .val (.int i8), .val (.ref r9), .val (.ref r10), .val (.int (0 : Int32)), .val (.int (1 : Int32)), .val (.int (own_bs3 p5)), .val (.int (own_bl p2)), .val (.ref b1), .val (.int (0 : Int32))] [])) _
  refine XS.iload X8.here hx rfl (hb hby at_147) rfl ?_
  show Steps p.tables e below (T8.setTop (mkF m 149 #[.val (.int p1), .val (.int p2), .val (.int p3), .val (.long q4), .second, .val (.int p5), .val (.int i6), .val (.int i7), .val (.int i8), .val (.ref r9), .val (.ref r10), .val (.int (0 : Int32)), .val (.int (1 : Int32)), .val (.int (own_bs3 p5)), .val (.int (own_bl p2)), .val (.ref b1), .val (.int (0 : Int32))] [(.int (0 : Int32))])) _
  refine XS.iload X8.here hx rfl (hb hby at_149) rfl ?_
  show Steps p.tables e below (T8.setTop (mkF m 151 #[.val (.int p1), .val (.int p2), .val (.int p3), .val (.long q4), .second, .val (.int p5), .val (.int i6), .val (.int i7), .val (.int i8), .val (.ref r9), .val (.ref r10), .val (.int (0 : Int32)), .val (.int (1 : Int32)), .val (.int (own_bs3 p5)), .val (.int (own_bl p2)), .val (.ref b1), .val (.int (0 : Int32))] [(.int i7), (.int (0 : Int32))])) _
  refine XS.ifYes X8.here hx rfl (pc0 := 151) (pc' := 158) rfl (hb hby at_151) rfl ((if0 _ _).trans (feq (hl : ¬ (i7 = (0 : Int32)))).2) (by decide) (by decide) ?_
  show Steps p.tables e below (T8.setTop (mkF m 158 #[.val (.int p1), .val (.int p2), .val (.int p3), .val (.long q4), .second, .val (.int p5), .val (.int i6), .val (.int i7), .val (.int i8), .val (.ref r9), .val (.ref r10), .val (.int (0 : Int32)), .val (.int (1 : Int32)), .val (.int (own_bs3 p5)), .val (.int (own_bl p2)), .val (.ref b1), .val (.int (0 : Int32))] [(.int (0 : Int32))])) _
  refine XS.iconst X8.here hx rfl (hb hby at_158) ?_
  show Steps p.tables e below (T8.setTop (mkF m 159 #[.val (.int p1), .val (.int p2), .val (.int p3), .val (.long q4), .second, .val (.int p5), .val (.int i6), .val (.int i7), .val (.int i8), .val (.ref r9), .val (.ref r10), .val (.int (0 : Int32)), .val (.int (1 : Int32)), .val (.int (own_bs3 p5)), .val (.int (own_bl p2)), .val (.ref b1), .val (.int (0 : Int32))] [(.int (0 : Int32)), (.int (0 : Int32))])) _
  refine XS.icmpNo X8.here hx rfl (hb hby at_159) rfl (teq (rfl : (0 : Int32) = (0 : Int32))).2 ?_
  show Steps p.tables e below (T8.setTop (mkF m 162 #[.val (.int p1), .val (.int p2), .val (.int p3), .val (.long q4), .second, .val (.int p5), .val (.int i6), .val (.int i7), .val (.int i8), .val (.ref r9), .val (.ref r10), .val (.int (0 : Int32)), .val (.int (1 : Int32)), .val (.int (own_bs3 p5)), .val (.int (own_bl p2)), .val (.ref b1), .val (.int (0 : Int32))] [])) _
  refine XS.iload X8.here hx rfl (hb hby at_162) rfl ?_
  show Steps p.tables e below (T8.setTop (mkF m 164 #[.val (.int p1), .val (.int p2), .val (.int p3), .val (.long q4), .second, .val (.int p5), .val (.int i6), .val (.int i7), .val (.int i8), .val (.ref r9), .val (.ref r10), .val (.int (0 : Int32)), .val (.int (1 : Int32)), .val (.int (own_bs3 p5)), .val (.int (own_bl p2)), .val (.ref b1), .val (.int (0 : Int32))] [(.int (1 : Int32))])) _
  refine XS.ifNo X8.here hx rfl (hb hby at_164) rfl ((if0 _ _).trans (feq (by decide : ¬ ((1 : Int32) = (0 : Int32)))).1) ?_
  show Steps p.tables e below (T8.setTop (mkF m 167 #[.val (.int p1), .val (.int p2), .val (.int p3), .val (.long q4), .second, .val (.int p5), .val (.int i6), .val (.int i7), .val (.int i8), .val (.ref r9), .val (.ref r10), .val (.int (0 : Int32)), .val (.int (1 : Int32)), .val (.int (own_bs3 p5)), .val (.int (own_bl p2)), .val (.ref b1), .val (.int (0 : Int32))] [])) _
  refine XS.iload X8.here hx rfl (hb hby at_167) rfl ?_
  show Steps p.tables e below (T8.setTop (mkF m 169 #[.val (.int p1), .val (.int p2), .val (.int p3), .val (.long q4), .second, .val (.int p5), .val (.int i6), .val (.int i7), .val (.int i8), .val (.ref r9), .val (.ref r10), .val (.int (0 : Int32)), .val (.int (1 : Int32)), .val (.int (own_bs3 p5)), .val (.int (own_bl p2)), .val (.ref b1), .val (.int (0 : Int32))] [(.int (0 : Int32))])) _
  refine XS.iload X8.here hx rfl (hb hby at_169) rfl ?_
  show Steps p.tables e below (T8.setTop (mkF m 171 #[.val (.int p1), .val (.int p2), .val (.int p3), .val (.long q4), .second, .val (.int p5), .val (.int i6), .val (.int i7), .val (.int i8), .val (.ref r9), .val (.ref r10), .val (.int (0 : Int32)), .val (.int (1 : Int32)), .val (.int (own_bs3 p5)), .val (.int (own_bl p2)), .val (.ref b1), .val (.int (0 : Int32))] [(.int (own_bl p2)), (.int (0 : Int32))])) _
  refine XS.ifYes X8.here hx rfl (pc0 := 171) (pc' := 178) rfl (hb hby at_171) rfl ((if0 _ _).trans (feq (hbl : ¬ ((own_bl p2) = (0 : Int32)))).2) (by decide) (by decide) ?_
  show Steps p.tables e below (T8.setTop (mkF m 178 #[.val (.int p1), .val (.int p2), .val (.int p3), .val (.long q4), .second, .val (.int p5), .val (.int i6), .val (.int i7), .val (.int i8), .val (.ref r9), .val (.ref r10), .val (.int (0 : Int32)), .val (.int (1 : Int32)), .val (.int (own_bs3 p5)), .val (.int (own_bl p2)), .val (.ref b1), .val (.int (0 : Int32))] [(.int (0 : Int32))])) _
  refine XS.iconst X8.here hx rfl (hb hby at_178) ?_
  show Steps p.tables e below (T8.setTop (mkF m 179 #[.val (.int p1), .val (.int p2), .val (.int p3), .val (.long q4), .second, .val (.int p5), .val (.int i6), .val (.int i7), .val (.int i8), .val (.ref r9), .val (.ref r10), .val (.int (0 : Int32)), .val (.int (1 : Int32)), .val (.int (own_bs3 p5)), .val (.int (own_bl p2)), .val (.ref b1), .val (.int (0 : Int32))] [(.int (0 : Int32)), (.int (0 : Int32))])) _
  refine XS.icmpNo X8.here hx rfl (hb hby at_179) rfl (teq (rfl : (0 : Int32) = (0 : Int32))).2 ?_
  show Steps p.tables e below (T8.setTop (mkF m 182 #[.val (.int p1), .val (.int p2), .val (.int p3), .val (.long q4), .second, .val (.int p5), .val (.int i6), .val (.int i7), .val (.int i8), .val (.ref r9), .val (.ref r10), .val (.int (0 : Int32)), .val (.int (1 : Int32)), .val (.int (own_bs3 p5)), .val (.int (own_bl p2)), .val (.ref b1), .val (.int (0 : Int32))] [])) _
  refine XS.iconst X8.here hx rfl (hb hby at_182) ?_
  show Steps p.tables e below (T8.setTop (mkF m 183 #[.val (.int p1), .val (.int p2), .val (.int p3), .val (.long q4), .second, .val (.int p5), .val (.int i6), .val (.int i7), .val (.int i8), .val (.ref r9), .val (.ref r10), .val (.int (0 : Int32)), .val (.int (1 : Int32)), .val (.int (own_bs3 p5)), .val (.int (own_bl p2)), .val (.ref b1), .val (.int (0 : Int32))] [(.int (1 : Int32))])) _
  refine XS.goto X8.here hx rfl (pc0 := 183) (pc' := 187) rfl (hb hby at_183) (by decide) (by decide) ?_
  show Steps p.tables e below (T8.setTop (mkF m 187 #[.val (.int p1), .val (.int p2), .val (.int p3), .val (.long q4), .second, .val (.int p5), .val (.int i6), .val (.int i7), .val (.int i8), .val (.ref r9), .val (.ref r10), .val (.int (0 : Int32)), .val (.int (1 : Int32)), .val (.int (own_bs3 p5)), .val (.int (own_bl p2)), .val (.ref b1), .val (.int (0 : Int32))] [(.int (1 : Int32))])) _
  exact retN X8 hx (t := .boolean) hret (by simp) (hb hby at_187) hr
set_option maxRecDepth 65536 in
set_option maxHeartbeats 40000000 in
theorem own_k011 {p : Program} {l : Launch} {e : Env} {s : State} {m : MethodId} {below : List Frame} {meth : Method} {c : Code} {s₁ : State} {Z : State} {a0 : Array Value} (hw : ∀ d ∈ tables_1, d.before a0 Z = true) (G1 : Int32) (G3 : Value) (gl : own_Glob Z G1 G3) (p1 : Int32) (p2 : Int32) (p3 : Int32) (q4 : Int64) (p5 : Int32) (i6 : Int32) (i7 : Int32) (i8 : Int32) (r9 : Addr) (r10 : Addr) {h0 : Heap} {n0 : Nat} (Z0 : n0 ≤ h0.size) (X00 : Old Z n0 h0) (hl : ¬ (i7 = (0 : Int32))) (hbs : (2147483644 : Int32) < (own_bs p5)) (hbl : own_bl p2 = 0)
    {locs0 : List Loc} (X0 : Stand p l e room_1 s m #[(.int p1), (.int p2), (.int p3), (.long q4), (.int p5)] below meth c s₁ locs0 4 22) (N0 : Fr n0 locs0) (hx : p.tables.exec = Jvm.exec) (hZ : Z.Warmed39 s.vm) (hby : c.code = code) (hml : c.maxLocals = 17) (hown : s.vm.findClass "com/example/incorpus/incorpus/SpanIsEmptyPinLaw" = some m.cls) (e0 : s₁.heap = h0) (hret : meth.sig.returnType = some .boolean) (hlk : meth.locks = false) :
    ∃ s₂ o, Steps p.tables e below (s₁.setTop (mkF m 97 #[.val (.int p1), .val (.int p2), .val (.int p3), .val (.long q4), .second, .val (.int p5), .val (.int i6), .val (.int i7), .val (.int i8), .val (.ref r9), .val (.ref r10), .val (.int (0 : Int32)), .val (.int (1 : Int32)), .unset, .unset, .unset, .unset] [])) s₂ ∧ s₂.status = .running ∧ Ended s₂ below o ∧ ∃ v L, o = .returned v ∧ own_Qlaw h0 n0 v s₂.heap L ∧ FrameEnd s o s₂ L room_1.cells room_1.slots := by
  obtain ⟨O_CS, P_CS, O_SI, P_SI⟩ := id gl
  obtain ⟨T1, h1, X1, e1, E1, A1, D1, U1, st1⟩ := newO X0 hx hZ hown (hw _ (List.mem_of_getElem? (i := 35) rfl)) (hw _ (List.mem_of_getElem? (i := 36) rfl)) (hw _ (List.mem_of_getElem? (i := 37) rfl)) e0 (g := (mkF m 124 #[.val (.int p1), .val (.int p2), .val (.int p3), .val (.long q4), .second, .val (.int p5), .val (.int i6), .val (.int i7), .val (.int i8), .val (.ref r9), .val (.ref r10), .val (.int (0 : Int32)), .val (.int (1 : Int32)), .val (.int (own_bs3 p5)), .val (.int (0 : Int32)), .unset, .unset] [])) rfl (hb hby at_124) (by decide) (by decide)
  obtain ⟨b1, g1⟩ : ∃ z, z = h0.size := ⟨_, rfl⟩
  rw [← g1] at A1 D1 U1 st1
  have Kp2 : Keep h0 h1 [] := (Keep.refl h0 []).ext E1
  have Fh3 : Fld Z h1 b1 "com/example/incorpus/incorpus/Span" "start" "I" (.int (0 : Int32)) := (D1 (Or.inr (hw _ (List.mem_of_getElem? (i := 48) rfl))) (ty := .int) (by decide))
  have gh4 : n0 ≤ b1 := Nat.le_trans Z0 (Nat.le_of_eq g1.symm)
  have Fh5 : Fld Z h1 b1 "com/example/incorpus/incorpus/Span" "end" "I" (.int (0 : Int32)) := (D1 (Or.inr (hw _ (List.mem_of_getElem? (i := 50) rfl))) (ty := .int) (by decide))
  obtain ⟨_, _, ⟨T6, L6, k6, n6⟩, -, X6, ⟨Lc6, hQ6, l6, y6, z6⟩, st6⟩ := X1.specialBack hx (y := (⟨"com/example/incorpus/incorpus/Span", "<init>", "(II)V"⟩ : MethodName)) rfl hown (mvT hZ (hw _ (List.mem_of_getElem? (i := 38) rfl))) (mvT hZ (hw _ (List.mem_of_getElem? (i := 39) rfl))) (mvT hZ (hw _ (List.mem_of_getElem? (i := 40) rfl))) (by decide) (backOf (W := 1) (own_rm_span l Z a0 hw [] G1 G3 gl b1 (own_bs3 p5) (own_bs3 p5) ((.int (0 : Int32))) ((.int (0 : Int32))) h1 n0 (Nat.le_trans Z0 Kp2.1) A1 Fh3 gh4 Fh5 ((own_bs3n p5 hbs) : ¬ ((own_bs3 p5) < (0 : Int32))) (Int32.lt_irrefl : ¬ ((own_bs3 p5) < (own_bs3 p5)))) hZ (hw _ (List.mem_of_getElem? (i := 40) rfl)) (hw _ (List.mem_of_getElem? (i := 37) rfl)) (by decide) (by decide)) (g := (mkF m 135 #[.val (.int p1), .val (.int p2), .val (.int p3), .val (.long q4), .second, .val (.int p5), .val (.int i6), .val (.int i7), .val (.int i8), .val (.ref r9), .val (.ref r10), .val (.int (0 : Int32)), .val (.int (1 : Int32)), .val (.int (own_bs3 p5)), .val (.int (0 : Int32)), .unset, .unset] [(.int (own_bs3 p5)), (.int (own_bs3 p5)), (.ref b1), (.ref b1)])) rfl (by rw [hml]; rfl) (Steps.refl _) (a := b1) (argsL := [(.int (own_bs3 p5)), (.int (own_bs3 p5))]) (rest := [(.ref b1)]) (lenOf own_pd6 rfl) rfl (by show 2 * 0 + _ ≤ _; exact Nat.le_of_eq rfl) (hb hby at_135) (fun _ _ => ⟨rfl, e1, (by decide : 5 + 0 ≤ _), (by decide : 24 + 0 ≤ _)⟩)
  dsimp only [Pt.U, Pt.locs, Pt.cells, Pt.slots] at X6 l6 y6 z6 st6 hQ6
  subst y6 z6
  obtain ⟨rfl, Nq6, Kq6, f6_0, f6_1, f6_2⟩ := hQ6
  have N6 : Fr n0 L6 := by rw [l6]; exact Fr.app N0 Nq6
  have Kp7 : Keep h0 T6.heap [] := Kp2.trans Kq6 (allS (Or.inr (Nat.le_trans (Keep.refl h0 []).1 (Nat.le_of_eq g1.symm))) all0)
  obtain ⟨cq8, kq8, q8a, q8b, q8c⟩ := isOf hZ rfl f6_0
  obtain ⟨_, _, ⟨T8, L8, k8, n8⟩, -, X8, ⟨Lc8, hQ8, l8, y8, z8⟩, st8⟩ := X6.virtualBack hx (y := (⟨"com/example/incorpus/incorpus/Span", "isEmpty", "()Z"⟩ : MethodName)) (z := (⟨"com/example/incorpus/incorpus/Span", "isEmpty", "()Z"⟩ : MethodName)) hown (mvT hZ (hw _ (List.mem_of_getElem? (i := 51) rfl))) (mvT hZ (hw _ (List.mem_of_getElem? (i := 52) rfl))) (notFace_of_selects (args := #[]) (mvT hZ (hw _ (List.mem_of_getElem? (i := 54) rfl)))) (mvT hZ (hw _ (List.mem_of_getElem? (i := 54) rfl))) (mvT hZ (hw _ (List.mem_of_getElem? (i := 53) rfl))) (by decide) (backOf (W := 0) (own_rm_emp1 l Z a0 hw [] G1 G3 gl b1 (own_bs3 p5) (own_bs3 p5) T6.heap n0 (Nat.le_trans Z0 Kp7.1) f6_1 f6_2 (rfl : (own_bs3 p5) = (own_bs3 p5))) hZ (hw _ (List.mem_of_getElem? (i := 55) rfl)) (hw _ (List.mem_of_getElem? (i := 37) rfl)) (by decide) (by decide)) q8a q8c (g := (mkF m 142 #[.val (.int p1), .val (.int p2), .val (.int p3), .val (.long q4), .second, .val (.int p5), .val (.int i6), .val (.int i7), .val (.int i8), .val (.ref r9), .val (.ref r10), .val (.int (0 : Int32)), .val (.int (1 : Int32)), .val (.int (own_bs3 p5)), .val (.int (0 : Int32)), .val (.ref b1), .unset] [(.ref b1)])) rfl (by rw [hml]; rfl) (Steps.refl _) (argsL := []) (rest := []) (lenOf own_pd7 rfl) rfl (by show 2 * 0 + _ ≤ _; exact Nat.le_of_eq rfl) (hb hby at_142) (fun _ _ => ⟨rfl, rfl, (by decide : 5 + 0 ≤ _), (by decide : 24 + 0 ≤ _)⟩)
  dsimp only [Pt.U, Pt.locs, Pt.cells, Pt.slots] at X8 l8 y8 z8 st8 hQ8
  subst y8 z8
  obtain ⟨rfl, Nq8, e8⟩ := hQ8
  have N8 : Fr n0 L8 := by rw [l8]; exact Fr.app N6 Nq8
  obtain ⟨fs, hr, hrun, hended, hW, hsame⟩ := X8.leave (v := some (.int (1 : Int32))) (fun h => by rw [hret] at h; cases h)
  refine ⟨_, _, ?_, hrun, hended, _, _, rfl, ⟨rfl, N8⟩, ⟨_, rfl⟩, hW, hsame.mono (by decide) (by decide)⟩
  show Steps p.tables e below (s₁.setTop (mkF m 97 #[.val (.int p1), .val (.int p2), .val (.int p3), .val (.long q4), .second, .val (.int p5), .val (.int i6), .val (.int i7), .val (.int i8), .val (.ref r9), .val (.ref r10), .val (.int (0 : Int32)), .val (.int (1 : Int32)), .unset, .unset, .unset, .unset] [])) _
  refine XS.iload X0.here hx rfl (hb hby at_97) rfl ?_
  show Steps p.tables e below (s₁.setTop (mkF m 99 #[.val (.int p1), .val (.int p2), .val (.int p3), .val (.long q4), .second, .val (.int p5), .val (.int i6), .val (.int i7), .val (.int i8), .val (.ref r9), .val (.ref r10), .val (.int (0 : Int32)), .val (.int (1 : Int32)), .unset, .unset, .unset, .unset] [(.int p5)])) _
  refine X0.ldcInt hx hown (mvT hZ (hw _ (List.mem_of_getElem? (i := 84) rfl))) (g := (mkF m 99 #[.val (.int p1), .val (.int p2), .val (.int p3), .val (.long q4), .second, .val (.int p5), .val (.int i6), .val (.int i7), .val (.int i8), .val (.ref r9), .val (.ref r10), .val (.int (0 : Int32)), .val (.int (1 : Int32)), .unset, .unset, .unset, .unset] [(.int p5)])) rfl (hb hby at_99) _ ?_
  show Steps p.tables e below (s₁.setTop (mkF m 101 #[.val (.int p1), .val (.int p2), .val (.int p3), .val (.long q4), .second, .val (.int p5), .val (.int i6), .val (.int i7), .val (.int i8), .val (.ref r9), .val (.ref r10), .val (.int (0 : Int32)), .val (.int (1 : Int32)), .unset, .unset, .unset, .unset] [(.int (2147483647 : Int32)), (.int p5)])) _
  refine XS.iand X0.here hx rfl (hb hby at_101) rfl ?_
  show Steps p.tables e below (s₁.setTop (mkF m 102 #[.val (.int p1), .val (.int p2), .val (.int p3), .val (.long q4), .second, .val (.int p5), .val (.int i6), .val (.int i7), .val (.int i8), .val (.ref r9), .val (.ref r10), .val (.int (0 : Int32)), .val (.int (1 : Int32)), .unset, .unset, .unset, .unset] [(.int (own_bs p5))])) _
  refine XS.istore X0.here hx rfl (hb hby at_102) rfl (l' := #[.val (.int p1), .val (.int p2), .val (.int p3), .val (.long q4), .second, .val (.int p5), .val (.int i6), .val (.int i7), .val (.int i8), .val (.ref r9), .val (.ref r10), .val (.int (0 : Int32)), .val (.int (1 : Int32)), .val (.int (own_bs p5)), .unset, .unset, .unset]) rfl ?_
  show Steps p.tables e below (s₁.setTop (mkF m 104 #[.val (.int p1), .val (.int p2), .val (.int p3), .val (.long q4), .second, .val (.int p5), .val (.int i6), .val (.int i7), .val (.int i8), .val (.ref r9), .val (.ref r10), .val (.int (0 : Int32)), .val (.int (1 : Int32)), .val (.int (own_bs p5)), .unset, .unset, .unset] [])) _
  refine XS.iload X0.here hx rfl (hb hby at_104) rfl ?_
  show Steps p.tables e below (s₁.setTop (mkF m 106 #[.val (.int p1), .val (.int p2), .val (.int p3), .val (.long q4), .second, .val (.int p5), .val (.int i6), .val (.int i7), .val (.int i8), .val (.ref r9), .val (.ref r10), .val (.int (0 : Int32)), .val (.int (1 : Int32)), .val (.int (own_bs p5)), .unset, .unset, .unset] [(.int (own_bs p5))])) _
  refine X0.ldcInt hx hown (mvT hZ (hw _ (List.mem_of_getElem? (i := 85) rfl))) (g := (mkF m 106 #[.val (.int p1), .val (.int p2), .val (.int p3), .val (.long q4), .second, .val (.int p5), .val (.int i6), .val (.int i7), .val (.int i8), .val (.ref r9), .val (.ref r10), .val (.int (0 : Int32)), .val (.int (1 : Int32)), .val (.int (own_bs p5)), .unset, .unset, .unset] [(.int (own_bs p5))])) rfl (hb hby at_106) _ ?_
  show Steps p.tables e below (s₁.setTop (mkF m 108 #[.val (.int p1), .val (.int p2), .val (.int p3), .val (.long q4), .second, .val (.int p5), .val (.int i6), .val (.int i7), .val (.int i8), .val (.ref r9), .val (.ref r10), .val (.int (0 : Int32)), .val (.int (1 : Int32)), .val (.int (own_bs p5)), .unset, .unset, .unset] [(.int (2147483644 : Int32)), (.int (own_bs p5))])) _
  refine XS.icmpNo X0.here hx rfl (hb hby at_108) rfl (tlt (hbs : (2147483644 : Int32) < (own_bs p5))).2.2.2 ?_
  show Steps p.tables e below (s₁.setTop (mkF m 111 #[.val (.int p1), .val (.int p2), .val (.int p3), .val (.long q4), .second, .val (.int p5), .val (.int i6), .val (.int i7), .val (.int i8), .val (.ref r9), .val (.ref r10), .val (.int (0 : Int32)), .val (.int (1 : Int32)), .val (.int (own_bs p5)), .unset, .unset, .unset] [])) _
  refine XS.iload X0.here hx rfl (hb hby at_111) rfl ?_
  show Steps p.tables e below (s₁.setTop (mkF m 113 #[.val (.int p1), .val (.int p2), .val (.int p3), .val (.long q4), .second, .val (.int p5), .val (.int i6), .val (.int i7), .val (.int i8), .val (.ref r9), .val (.ref r10), .val (.int (0 : Int32)), .val (.int (1 : Int32)), .val (.int (own_bs p5)), .unset, .unset, .unset] [(.int (own_bs p5))])) _
  refine XS.iconst X0.here hx rfl (hb hby at_113) ?_
  show Steps p.tables e below (s₁.setTop (mkF m 114 #[.val (.int p1), .val (.int p2), .val (.int p3), .val (.long q4), .second, .val (.int p5), .val (.int i6), .val (.int i7), .val (.int i8), .val (.ref r9), .val (.ref r10), .val (.int (0 : Int32)), .val (.int (1 : Int32)), .val (.int (own_bs p5)), .unset, .unset, .unset] [(.int (3 : Int32)), (.int (own_bs p5))])) _
  refine XS.isub X0.here hx rfl (hb hby at_114) rfl ?_
  show Steps p.tables e below (s₁.setTop (mkF m 115 #[.val (.int p1), .val (.int p2), .val (.int p3), .val (.long q4), .second, .val (.int p5), .val (.int i6), .val (.int i7), .val (.int i8), .val (.ref r9), .val (.ref r10), .val (.int (0 : Int32)), .val (.int (1 : Int32)), .val (.int (own_bs p5)), .unset, .unset, .unset] [(.int (own_bs3 p5))])) _
  refine XS.istore X0.here hx rfl (hb hby at_115) rfl (l' := #[.val (.int p1), .val (.int p2), .val (.int p3), .val (.long q4), .second, .val (.int p5), .val (.int i6), .val (.int i7), .val (.int i8), .val (.ref r9), .val (.ref r10), .val (.int (0 : Int32)), .val (.int (1 : Int32)), .val (.int (own_bs3 p5)), .unset, .unset, .unset]) rfl ?_
  show Steps p.tables e below (s₁.setTop (mkF m 117 #[.val (.int p1), .val (.int p2), .val (.int p3), .val (.long q4), .second, .val (.int p5), .val (.int i6), .val (.int i7), .val (.int i8), .val (.ref r9), .val (.ref r10), .val (.int (0 : Int32)), .val (.int (1 : Int32)), .val (.int (own_bs3 p5)), .unset, .unset, .unset] [])) _
  refine XS.iloadN X0.here hx rfl (hb hby at_117) rfl ?_
  show Steps p.tables e below (s₁.setTop (mkF m 118 #[.val (.int p1), .val (.int p2), .val (.int p3), .val (.long q4), .second, .val (.int p5), .val (.int i6), .val (.int i7), .val (.int i8), .val (.ref r9), .val (.ref r10), .val (.int (0 : Int32)), .val (.int (1 : Int32)), .val (.int (own_bs3 p5)), .unset, .unset, .unset] [(.int p2)])) _
  refine XS.iconst X0.here hx rfl (hb hby at_118) ?_
  show Steps p.tables e below (s₁.setTop (mkF m 119 #[.val (.int p1), .val (.int p2), .val (.int p3), .val (.long q4), .second, .val (.int p5), .val (.int i6), .val (.int i7), .val (.int i8), .val (.ref r9), .val (.ref r10), .val (.int (0 : Int32)), .val (.int (1 : Int32)), .val (.int (own_bs3 p5)), .unset, .unset, .unset] [(.int (2 : Int32)), (.int p2)])) _
  refine XS.iushr X0.here hx rfl (hb hby at_119) rfl ?_
  show Steps p.tables e below (s₁.setTop (mkF m 120 #[.val (.int p1), .val (.int p2), .val (.int p3), .val (.long q4), .second, .val (.int p5), .val (.int i6), .val (.int i7), .val (.int i8), .val (.ref r9), .val (.ref r10), .val (.int (0 : Int32)), .val (.int (1 : Int32)), .val (.int (own_bs3 p5)), .unset, .unset, .unset] [(.int ((p2.toUInt32 >>> ((2 : Int32) &&& 31).toUInt32).toInt32))])) _
  refine XS.iconst X0.here hx rfl (hb hby at_120) ?_
  show Steps p.tables e below (s₁.setTop (mkF m 121 #[.val (.int p1), .val (.int p2), .val (.int p3), .val (.long q4), .second, .val (.int p5), .val (.int i6), .val (.int i7), .val (.int i8), .val (.ref r9), .val (.ref r10), .val (.int (0 : Int32)), .val (.int (1 : Int32)), .val (.int (own_bs3 p5)), .unset, .unset, .unset] [(.int (3 : Int32)), (.int ((p2.toUInt32 >>> ((2 : Int32) &&& 31).toUInt32).toInt32))])) _
  refine XS.iand X0.here hx rfl (hb hby at_121) rfl ?_
  show Steps p.tables e below (s₁.setTop (mkF m 122 #[.val (.int p1), .val (.int p2), .val (.int p3), .val (.long q4), .second, .val (.int p5), .val (.int i6), .val (.int i7), .val (.int i8), .val (.ref r9), .val (.ref r10), .val (.int (0 : Int32)), .val (.int (1 : Int32)), .val (.int (own_bs3 p5)), .unset, .unset, .unset] [(.int (own_bl p2))])) _
  rw [hbl]
  show Steps p.tables e below (s₁.setTop (mkF m 122 #[.val (.int p1), .val (.int p2), .val (.int p3), .val (.long q4), .second, .val (.int p5), .val (.int i6), .val (.int i7), .val (.int i8), .val (.ref r9), .val (.ref r10), .val (.int (0 : Int32)), .val (.int (1 : Int32)), .val (.int (own_bs3 p5)), .unset, .unset, .unset] [(.int (0 : Int32))])) _
  refine XS.istore X0.here hx rfl (hb hby at_122) rfl (l' := #[.val (.int p1), .val (.int p2), .val (.int p3), .val (.long q4), .second, .val (.int p5), .val (.int i6), .val (.int i7), .val (.int i8), .val (.ref r9), .val (.ref r10), .val (.int (0 : Int32)), .val (.int (1 : Int32)), .val (.int (own_bs3 p5)), .val (.int (0 : Int32)), .unset, .unset]) rfl ?_
  show Steps p.tables e below (s₁.setTop (mkF m 124 #[.val (.int p1), .val (.int p2), .val (.int p3), .val (.long q4), .second, .val (.int p5), .val (.int i6), .val (.int i7), .val (.int i8), .val (.ref r9), .val (.ref r10), .val (.int (0 : Int32)), .val (.int (1 : Int32)), .val (.int (own_bs3 p5)), .val (.int (0 : Int32)), .unset, .unset] [])) _
  refine st1 _ ?_
  show Steps p.tables e below (T1.setTop (mkF m 127 #[.val (.int p1), .val (.int p2), .val (.int p3), .val (.long q4), .second, .val (.int p5), .val (.int i6), .val (.int i7), .val (.int i8), .val (.ref r9), .val (.ref r10), .val (.int (0 : Int32)), .val (.int (1 : Int32)), .val (.int (own_bs3 p5)), .val (.int (0 : Int32)), .unset, .unset] [(.ref b1)])) _
  refine XS.dup X1.here hx rfl (hb hby at_127) rfl rfl ?_
  show Steps p.tables e below (T1.setTop (mkF m 128 #[.val (.int p1), .val (.int p2), .val (.int p3), .val (.long q4), .second, .val (.int p5), .val (.int i6), .val (.int i7), .val (.int i8), .val (.ref r9), .val (.ref r10), .val (.int (0 : Int32)), .val (.int (1 : Int32)), .val (.int (own_bs3 p5)), .val (.int (0 : Int32)), .unset, .unset] [(.ref b1), (.ref b1)])) _
  refine XS.iload X1.here hx rfl (hb hby at_128) rfl ?_
  show Steps p.tables e below (T1.setTop (mkF m 130 #[.val (.int p1), .val (.int p2), .val (.int p3), .val (.long q4), .second, .val (.int p5), .val (.int i6), .val (.int i7), .val (.int i8), .val (.ref r9), .val (.ref r10), .val (.int (0 : Int32)), .val (.int (1 : Int32)), .val (.int (own_bs3 p5)), .val (.int (0 : Int32)), .unset, .unset] [(.int (own_bs3 p5)), (.ref b1), (.ref b1)])) _
  refine XS.iload X1.here hx rfl (hb hby at_130) rfl ?_
  show Steps p.tables e below (T1.setTop (mkF m 132 #[.val (.int p1), .val (.int p2), .val (.int p3), .val (.long q4), .second, .val (.int p5), .val (.int i6), .val (.int i7), .val (.int i8), .val (.ref r9), .val (.ref r10), .val (.int (0 : Int32)), .val (.int (1 : Int32)), .val (.int (own_bs3 p5)), .val (.int (0 : Int32)), .unset, .unset] [(.int (own_bs3 p5)), (.int (own_bs3 p5)), (.ref b1), (.ref b1)])) _
  refine XS.iload X1.here hx rfl (hb hby at_132) rfl ?_
  show Steps p.tables e below (T1.setTop (mkF m 134 #[.val (.int p1), .val (.int p2), .val (.int p3), .val (.long q4), .second, .val (.int p5), .val (.int i6), .val (.int i7), .val (.int i8), .val (.ref r9), .val (.ref r10), .val (.int (0 : Int32)), .val (.int (1 : Int32)), .val (.int (own_bs3 p5)), .val (.int (0 : Int32)), .unset, .unset] [(.int (0 : Int32)), (.int (own_bs3 p5)), (.int (own_bs3 p5)), (.ref b1), (.ref b1)])) _
  refine XS.iadd X1.here hx rfl (hb hby at_134) rfl ?_
  show Steps p.tables e below (T1.setTop (mkF m 135 #[.val (.int p1), .val (.int p2), .val (.int p3), .val (.long q4), .second, .val (.int p5), .val (.int i6), .val (.int i7), .val (.int i8), .val (.ref r9), .val (.ref r10), .val (.int (0 : Int32)), .val (.int (1 : Int32)), .val (.int (own_bs3 p5)), .val (.int (0 : Int32)), .unset, .unset] [(.int ((own_bs3 p5) + (0 : Int32))), (.int (own_bs3 p5)), (.ref b1), (.ref b1)])) _
  rw [(own_add0 (own_bs3 p5))]
  show Steps p.tables e below (T1.setTop (mkF m 135 #[.val (.int p1), .val (.int p2), .val (.int p3), .val (.long q4), .second, .val (.int p5), .val (.int i6), .val (.int i7), .val (.int i8), .val (.ref r9), .val (.ref r10), .val (.int (0 : Int32)), .val (.int (1 : Int32)), .val (.int (own_bs3 p5)), .val (.int (0 : Int32)), .unset, .unset] [(.int (own_bs3 p5)), (.int (own_bs3 p5)), (.ref b1), (.ref b1)])) _
  refine st6.trans ?_
  show Steps p.tables e below (T6.setTop (mkF m 138 #[.val (.int p1), .val (.int p2), .val (.int p3), .val (.long q4), .second, .val (.int p5), .val (.int i6), .val (.int i7), .val (.int i8), .val (.ref r9), .val (.ref r10), .val (.int (0 : Int32)), .val (.int (1 : Int32)), .val (.int (own_bs3 p5)), .val (.int (0 : Int32)), .unset, .unset] [(.ref b1)])) _
  refine XS.astore X6.here hx rfl (hb hby at_138) rfl rfl (l' := #[.val (.int p1), .val (.int p2), .val (.int p3), .val (.long q4), .second, .val (.int p5), .val (.int i6), .val (.int i7), .val (.int i8), .val (.ref r9), .val (.ref r10), .val (.int (0 : Int32)), .val (.int (1 : Int32)), .val (.int (own_bs3 p5)), .val (.int (0 : Int32)), .val (.ref b1), .unset]) rfl ?_
  show Steps p.tables e below (T6.setTop (mkF m 140 #[.val (.int p1), .val (.int p2), .val (.int p3), .val (.long q4), .second, .val (.int p5), .val (.int i6), .val (.int i7), .val (.int i8), .val (.ref r9), .val (.ref r10), .val (.int (0 : Int32)), .val (.int (1 : Int32)), .val (.int (own_bs3 p5)), .val (.int (0 : Int32)), .val (.ref b1), .unset] [])) _
  refine XS.aload X6.here hx rfl (hb hby at_140) rfl rfl ?_
  show Steps p.tables e below (T6.setTop (mkF m 142 #[.val (.int p1), .val (.int p2), .val (.int p3), .val (.long q4), .second, .val (.int p5), .val (.int i6), .val (.int i7), .val (.int i8), .val (.ref r9), .val (.ref r10), .val (.int (0 : Int32)), .val (.int (1 : Int32)), .val (.int (own_bs3 p5)), .val (.int (0 : Int32)), .val (.ref b1), .unset] [(.ref b1)])) _
  refine st8.trans ?_
  show Steps p.tables e below (T8.setTop (mkF m 145 #[.val (.int p1), .val (.int p2), .val (.int p3), .val (.long q4), .second, .val (.int p5), .val (.int i6), .val (.int i7), .val (.int i8), .val (.ref r9), .val (.ref r10), .val (.int (0 : Int32)), .val (.int (1 : Int32)), .val (.int (own_bs3 p5)), .val (.int (0 : Int32)), .val (.ref b1), .unset] [(.int (1 : Int32))])) _
  refine XS.istore X8.here hx rfl (hb hby at_145) rfl (l' := #[.val (.int p1), .val (.int p2), .val (.int p3), .val (.long q4), .second, .val (.int p5), .val (.int i6), .val (.int i7), .val (.int i8), .val (.ref r9), .val (.ref r10), .val (.int (0 : Int32)), .val (.int (1 : Int32)), .val (.int (own_bs3 p5)), .val (.int (0 : Int32)), .val (.ref b1), .val (.int (1 : Int32))]) rfl ?_
  show Steps p.tables e below (T8.setTop (mkF m 147 #[.val (.int p1), .val (.int p2), .val (.int p3), .val (.long q4), .second, .val (.int p5), .val (.int i6), .val (.int i7), .val (.int i8), .val (.ref r9), .val (.ref r10), .val (.int (0 : Int32)), .val (.int (1 : Int32)), .val (.int (own_bs3 p5)), .val (.int (0 : Int32)), .val (.ref b1), .val (.int (1 : Int32))] [])) _
  refine XS.iload X8.here hx rfl (hb hby at_147) rfl ?_
  show Steps p.tables e below (T8.setTop (mkF m 149 #[.val (.int p1), .val (.int p2), .val (.int p3), .val (.long q4), .second, .val (.int p5), .val (.int i6), .val (.int i7), .val (.int i8), .val (.ref r9), .val (.ref r10), .val (.int (0 : Int32)), .val (.int (1 : Int32)), .val (.int (own_bs3 p5)), .val (.int (0 : Int32)), .val (.ref b1), .val (.int (1 : Int32))] [(.int (0 : Int32))])) _
  refine XS.iload X8.here hx rfl (hb hby at_149) rfl ?_
  show Steps p.tables e below (T8.setTop (mkF m 151 #[.val (.int p1), .val (.int p2), .val (.int p3), .val (.long q4), .second, .val (.int p5), .val (.int i6), .val (.int i7), .val (.int i8), .val (.ref r9), .val (.ref r10), .val (.int (0 : Int32)), .val (.int (1 : Int32)), .val (.int (own_bs3 p5)), .val (.int (0 : Int32)), .val (.ref b1), .val (.int (1 : Int32))] [(.int i7), (.int (0 : Int32))])) _
  refine XS.ifYes X8.here hx rfl (pc0 := 151) (pc' := 158) rfl (hb hby at_151) rfl ((if0 _ _).trans (feq (hl : ¬ (i7 = (0 : Int32)))).2) (by decide) (by decide) ?_
  show Steps p.tables e below (T8.setTop (mkF m 158 #[.val (.int p1), .val (.int p2), .val (.int p3), .val (.long q4), .second, .val (.int p5), .val (.int i6), .val (.int i7), .val (.int i8), .val (.ref r9), .val (.ref r10), .val (.int (0 : Int32)), .val (.int (1 : Int32)), .val (.int (own_bs3 p5)), .val (.int (0 : Int32)), .val (.ref b1), .val (.int (1 : Int32))] [(.int (0 : Int32))])) _
  refine XS.iconst X8.here hx rfl (hb hby at_158) ?_
  show Steps p.tables e below (T8.setTop (mkF m 159 #[.val (.int p1), .val (.int p2), .val (.int p3), .val (.long q4), .second, .val (.int p5), .val (.int i6), .val (.int i7), .val (.int i8), .val (.ref r9), .val (.ref r10), .val (.int (0 : Int32)), .val (.int (1 : Int32)), .val (.int (own_bs3 p5)), .val (.int (0 : Int32)), .val (.ref b1), .val (.int (1 : Int32))] [(.int (0 : Int32)), (.int (0 : Int32))])) _
  refine XS.icmpNo X8.here hx rfl (hb hby at_159) rfl (teq (rfl : (0 : Int32) = (0 : Int32))).2 ?_
  show Steps p.tables e below (T8.setTop (mkF m 162 #[.val (.int p1), .val (.int p2), .val (.int p3), .val (.long q4), .second, .val (.int p5), .val (.int i6), .val (.int i7), .val (.int i8), .val (.ref r9), .val (.ref r10), .val (.int (0 : Int32)), .val (.int (1 : Int32)), .val (.int (own_bs3 p5)), .val (.int (0 : Int32)), .val (.ref b1), .val (.int (1 : Int32))] [])) _
  refine XS.iload X8.here hx rfl (hb hby at_162) rfl ?_
  show Steps p.tables e below (T8.setTop (mkF m 164 #[.val (.int p1), .val (.int p2), .val (.int p3), .val (.long q4), .second, .val (.int p5), .val (.int i6), .val (.int i7), .val (.int i8), .val (.ref r9), .val (.ref r10), .val (.int (0 : Int32)), .val (.int (1 : Int32)), .val (.int (own_bs3 p5)), .val (.int (0 : Int32)), .val (.ref b1), .val (.int (1 : Int32))] [(.int (1 : Int32))])) _
  refine XS.ifNo X8.here hx rfl (hb hby at_164) rfl ((if0 _ _).trans (feq (by decide : ¬ ((1 : Int32) = (0 : Int32)))).1) ?_
  show Steps p.tables e below (T8.setTop (mkF m 167 #[.val (.int p1), .val (.int p2), .val (.int p3), .val (.long q4), .second, .val (.int p5), .val (.int i6), .val (.int i7), .val (.int i8), .val (.ref r9), .val (.ref r10), .val (.int (0 : Int32)), .val (.int (1 : Int32)), .val (.int (own_bs3 p5)), .val (.int (0 : Int32)), .val (.ref b1), .val (.int (1 : Int32))] [])) _
  refine XS.iload X8.here hx rfl (hb hby at_167) rfl ?_
  show Steps p.tables e below (T8.setTop (mkF m 169 #[.val (.int p1), .val (.int p2), .val (.int p3), .val (.long q4), .second, .val (.int p5), .val (.int i6), .val (.int i7), .val (.int i8), .val (.ref r9), .val (.ref r10), .val (.int (0 : Int32)), .val (.int (1 : Int32)), .val (.int (own_bs3 p5)), .val (.int (0 : Int32)), .val (.ref b1), .val (.int (1 : Int32))] [(.int (1 : Int32))])) _
  refine XS.iload X8.here hx rfl (hb hby at_169) rfl ?_
  show Steps p.tables e below (T8.setTop (mkF m 171 #[.val (.int p1), .val (.int p2), .val (.int p3), .val (.long q4), .second, .val (.int p5), .val (.int i6), .val (.int i7), .val (.int i8), .val (.ref r9), .val (.ref r10), .val (.int (0 : Int32)), .val (.int (1 : Int32)), .val (.int (own_bs3 p5)), .val (.int (0 : Int32)), .val (.ref b1), .val (.int (1 : Int32))] [(.int (0 : Int32)), (.int (1 : Int32))])) _
  refine XS.ifNo X8.here hx rfl (hb hby at_171) rfl ((if0 _ _).trans (teq (rfl : (0 : Int32) = (0 : Int32))).2) ?_
  show Steps p.tables e below (T8.setTop (mkF m 174 #[.val (.int p1), .val (.int p2), .val (.int p3), .val (.long q4), .second, .val (.int p5), .val (.int i6), .val (.int i7), .val (.int i8), .val (.ref r9), .val (.ref r10), .val (.int (0 : Int32)), .val (.int (1 : Int32)), .val (.int (own_bs3 p5)), .val (.int (0 : Int32)), .val (.ref b1), .val (.int (1 : Int32))] [(.int (1 : Int32))])) _
  refine XS.iconst X8.here hx rfl (hb hby at_174) ?_
  show Steps p.tables e below (T8.setTop (mkF m 175 #[.val (.int p1), .val (.int p2), .val (.int p3), .val (.long q4), .second, .val (.int p5), .val (.int i6), .val (.int i7), .val (.int i8), .val (.ref r9), .val (.ref r10), .val (.int (0 : Int32)), .val (.int (1 : Int32)), .val (.int (own_bs3 p5)), .val (.int (0 : Int32)), .val (.ref b1), .val (.int (1 : Int32))] [(.int (1 : Int32)), (.int (1 : Int32))])) _
  refine XS.goto X8.here hx rfl (pc0 := 175) (pc' := 179) rfl (hb hby at_175) (by decide) (by decide) ?_
  show Steps p.tables e below (T8.setTop (mkF m 179 #[.val (.int p1), .val (.int p2), .val (.int p3), .val (.long q4), .second, .val (.int p5), .val (.int i6), .val (.int i7), .val (.int i8), .val (.ref r9), .val (.ref r10), .val (.int (0 : Int32)), .val (.int (1 : Int32)), .val (.int (own_bs3 p5)), .val (.int (0 : Int32)), .val (.ref b1), .val (.int (1 : Int32))] [(.int (1 : Int32)), (.int (1 : Int32))])) _
  refine XS.icmpNo X8.here hx rfl (hb hby at_179) rfl (teq (rfl : (1 : Int32) = (1 : Int32))).2 ?_
  show Steps p.tables e below (T8.setTop (mkF m 182 #[.val (.int p1), .val (.int p2), .val (.int p3), .val (.long q4), .second, .val (.int p5), .val (.int i6), .val (.int i7), .val (.int i8), .val (.ref r9), .val (.ref r10), .val (.int (0 : Int32)), .val (.int (1 : Int32)), .val (.int (own_bs3 p5)), .val (.int (0 : Int32)), .val (.ref b1), .val (.int (1 : Int32))] [])) _
  refine XS.iconst X8.here hx rfl (hb hby at_182) ?_
  show Steps p.tables e below (T8.setTop (mkF m 183 #[.val (.int p1), .val (.int p2), .val (.int p3), .val (.long q4), .second, .val (.int p5), .val (.int i6), .val (.int i7), .val (.int i8), .val (.ref r9), .val (.ref r10), .val (.int (0 : Int32)), .val (.int (1 : Int32)), .val (.int (own_bs3 p5)), .val (.int (0 : Int32)), .val (.ref b1), .val (.int (1 : Int32))] [(.int (1 : Int32))])) _
  refine XS.goto X8.here hx rfl (pc0 := 183) (pc' := 187) rfl (hb hby at_183) (by decide) (by decide) ?_
  show Steps p.tables e below (T8.setTop (mkF m 187 #[.val (.int p1), .val (.int p2), .val (.int p3), .val (.long q4), .second, .val (.int p5), .val (.int i6), .val (.int i7), .val (.int i8), .val (.ref r9), .val (.ref r10), .val (.int (0 : Int32)), .val (.int (1 : Int32)), .val (.int (own_bs3 p5)), .val (.int (0 : Int32)), .val (.ref b1), .val (.int (1 : Int32))] [(.int (1 : Int32))])) _
  exact retN X8 hx (t := .boolean) hret (by simp) (hb hby at_187) hr
set_option maxRecDepth 65536 in
set_option maxHeartbeats 40000000 in
theorem own_k1 {p : Program} {l : Launch} {e : Env} {s : State} {m : MethodId} {below : List Frame} {meth : Method} {c : Code} {s₁ : State} {Z : State} {a0 : Array Value} (hw : ∀ d ∈ tables_1, d.before a0 Z = true) (G1 : Int32) (G3 : Value) (gl : own_Glob Z G1 G3) (p1 : Int32) (p2 : Int32) (p3 : Int32) (q4 : Int64) (p5 : Int32) (i6 : Int32) (i7 : Int32) (i8 : Int32) (r9 : Addr) (r10 : Addr) {h0 : Heap} {n0 : Nat} (Z0 : n0 ≤ h0.size) (X00 : Old Z n0 h0) (hl : i7 = (0 : Int32))
    {locs0 : List Loc} (X0 : Stand p l e room_1 s m #[(.int p1), (.int p2), (.int p3), (.long q4), (.int p5)] below meth c s₁ locs0 4 22) (N0 : Fr n0 locs0) (hx : p.tables.exec = Jvm.exec) (hZ : Z.Warmed39 s.vm) (hby : c.code = code) (hml : c.maxLocals = 17) (hown : s.vm.findClass "com/example/incorpus/incorpus/SpanIsEmptyPinLaw" = some m.cls) (e0 : s₁.heap = h0) (hret : meth.sig.returnType = some .boolean) (hlk : meth.locks = false) :
    ∃ s₂ o, Steps p.tables e below (s₁.setTop (mkF m 97 #[.val (.int p1), .val (.int p2), .val (.int p3), .val (.long q4), .second, .val (.int p5), .val (.int i6), .val (.int i7), .val (.int i8), .val (.ref r9), .val (.ref r10), .val (.int (1 : Int32)), .val (.int (1 : Int32)), .unset, .unset, .unset, .unset] [])) s₂ ∧ s₂.status = .running ∧ Ended s₂ below o ∧ ∃ v L, o = .returned v ∧ own_Qlaw h0 n0 v s₂.heap L ∧ FrameEnd s o s₂ L room_1.cells room_1.slots := by
  by_cases hbs : (2147483644 : Int32) < (own_bs p5)
  · by_cases hbl : own_bl p2 = 0
    · exact own_k111 hw G1 G3 gl p1 p2 p3 q4 p5 i6 i7 i8 r9 r10 Z0 X00 hl hbs hbl X0 N0 hx hZ hby hml hown e0 hret hlk
    · exact own_k110 hw G1 G3 gl p1 p2 p3 q4 p5 i6 i7 i8 r9 r10 Z0 X00 hl hbs hbl X0 N0 hx hZ hby hml hown e0 hret hlk
  · by_cases hbl : own_bl p2 = 0
    · exact own_k101 hw G1 G3 gl p1 p2 p3 q4 p5 i6 i7 i8 r9 r10 Z0 X00 hl hbs hbl X0 N0 hx hZ hby hml hown e0 hret hlk
    · exact own_k100 hw G1 G3 gl p1 p2 p3 q4 p5 i6 i7 i8 r9 r10 Z0 X00 hl hbs hbl X0 N0 hx hZ hby hml hown e0 hret hlk
set_option maxRecDepth 65536 in
set_option maxHeartbeats 40000000 in
theorem own_k0 {p : Program} {l : Launch} {e : Env} {s : State} {m : MethodId} {below : List Frame} {meth : Method} {c : Code} {s₁ : State} {Z : State} {a0 : Array Value} (hw : ∀ d ∈ tables_1, d.before a0 Z = true) (G1 : Int32) (G3 : Value) (gl : own_Glob Z G1 G3) (p1 : Int32) (p2 : Int32) (p3 : Int32) (q4 : Int64) (p5 : Int32) (i6 : Int32) (i7 : Int32) (i8 : Int32) (r9 : Addr) (r10 : Addr) {h0 : Heap} {n0 : Nat} (Z0 : n0 ≤ h0.size) (X00 : Old Z n0 h0) (hl : ¬ (i7 = (0 : Int32)))
    {locs0 : List Loc} (X0 : Stand p l e room_1 s m #[(.int p1), (.int p2), (.int p3), (.long q4), (.int p5)] below meth c s₁ locs0 4 22) (N0 : Fr n0 locs0) (hx : p.tables.exec = Jvm.exec) (hZ : Z.Warmed39 s.vm) (hby : c.code = code) (hml : c.maxLocals = 17) (hown : s.vm.findClass "com/example/incorpus/incorpus/SpanIsEmptyPinLaw" = some m.cls) (e0 : s₁.heap = h0) (hret : meth.sig.returnType = some .boolean) (hlk : meth.locks = false) :
    ∃ s₂ o, Steps p.tables e below (s₁.setTop (mkF m 97 #[.val (.int p1), .val (.int p2), .val (.int p3), .val (.long q4), .second, .val (.int p5), .val (.int i6), .val (.int i7), .val (.int i8), .val (.ref r9), .val (.ref r10), .val (.int (0 : Int32)), .val (.int (1 : Int32)), .unset, .unset, .unset, .unset] [])) s₂ ∧ s₂.status = .running ∧ Ended s₂ below o ∧ ∃ v L, o = .returned v ∧ own_Qlaw h0 n0 v s₂.heap L ∧ FrameEnd s o s₂ L room_1.cells room_1.slots := by
  by_cases hbs : (2147483644 : Int32) < (own_bs p5)
  · by_cases hbl : own_bl p2 = 0
    · exact own_k011 hw G1 G3 gl p1 p2 p3 q4 p5 i6 i7 i8 r9 r10 Z0 X00 hl hbs hbl X0 N0 hx hZ hby hml hown e0 hret hlk
    · exact own_k010 hw G1 G3 gl p1 p2 p3 q4 p5 i6 i7 i8 r9 r10 Z0 X00 hl hbs hbl X0 N0 hx hZ hby hml hown e0 hret hlk
  · by_cases hbl : own_bl p2 = 0
    · exact own_k001 hw G1 G3 gl p1 p2 p3 q4 p5 i6 i7 i8 r9 r10 Z0 X00 hl hbs hbl X0 N0 hx hZ hby hml hown e0 hret hlk
    · exact own_k000 hw G1 G3 gl p1 p2 p3 q4 p5 i6 i7 i8 r9 r10 Z0 X00 hl hbs hbl X0 N0 hx hZ hby hml hown e0 hret hlk
theorem own_pd8 : parseMethodDescriptor "(J)Ljava/lang/String;" = some ⟨[.long], some (.object "java/lang/String")⟩ := by decide +kernel
theorem own_pd9 : parseMethodDescriptor "(CLjava/lang/String;)I" = some ⟨[.char, (.object "java/lang/String")], some .int⟩ := by decide +kernel
theorem own_eflawE (m : MethodId) (p1 : Int32) (p2 : Int32) (p3 : Int32) (q4 : Int64) (p5 : Int32) : entryFrame m #[(.int p1), (.int p2), (.int p3), (.long q4), (.int p5)] maxLocals = mkF m 0 #[.val (.int p1), .val (.int p2), .val (.int p3), .val (.long q4), .second, .val (.int p5), .unset, .unset, .unset, .unset, .unset, .unset, .unset, .unset, .unset, .unset, .unset] [] := by first | (simp [entryFrame, mkF, argsToLocals, Value.category, maxLocals]; done) | rfl
set_option maxRecDepth 65536 in
set_option maxHeartbeats 40000000 in
theorem own_lawE (l : Launch) (Z : State) (a0 : Array Value) (hw : ∀ d ∈ tables_1, d.before a0 Z = true) (ws : List Jvm.Cond) (G1 : Int32) (G3 : Value) (gl : own_Glob Z G1 G3) (p1 : Int32) (p2 : Int32) (p3 : Int32) (q4 : Int64) (p5 : Int32) (h0 : Heap) (n0 : Nat) (Z0 : n0 ≤ h0.size) (X00 : Old Z n0 h0) (hl : own_a3 p2 = 0) :
    MetFree l x (head1 (Jvm.Cond.code x code maxLocals ret :: ws) room_1) (fun a U => a = #[(.int p1), (.int p2), (.int p3), (.long q4), (.int p5)] ∧ Z.Warmed39 U.vm ∧ U.heap = h0) (fun _ _ _ _ _ => True) (fun _ U o U' => ∃ v L, o = .returned v ∧ own_Qlaw h0 n0 v U'.heap L ∧ FrameEnd U o U' L room_1.cells room_1.slots) := by
  refine MetFree.of_bodySF (plainFor_of_name own_pn1) hisR ?_
  intro p e s m args below meth c s₁ Bd hml0 hP hK
  obtain ⟨rfl, hZ, hh⟩ := hP
  obtain ⟨O_CS, P_CS, O_SI, P_SI⟩ := id gl
  have hx := Bd.exec
  have hby := Bd.bytes
  have hml : c.maxLocals = 17 := hml0
  have hown : s.vm.findClass "com/example/incorpus/incorpus/SpanIsEmptyPinLaw" = some m.cls := findClass_of_methodNamed Bd.named
  have hnm := (name_of_methodNamed Bd.named Bd.method).1
  have X0 : Stand p l e room_1 s m #[(.int p1), (.int p2), (.int p3), (.long q4), (.int p5)] below meth c s₁ [] 0 0 := Stand.of_body Bd
  have e0 : s₁.heap = h0 := by rw [← hh, Bd.state]; rfl
  have N0 := Fr.nil n0
  have pre0 : ∀ t, Steps p.tables e below (s₁.setTop (mkF m 0 #[.val (.int p1), .val (.int p2), .val (.int p3), .val (.long q4), .second, .val (.int p5), .unset, .unset, .unset, .unset, .unset, .unset, .unset, .unset, .unset, .unset, .unset] [])) t → Steps p.tables e below (s₁.setTop (entryFrame m #[(.int p1), (.int p2), (.int p3), (.long q4), (.int p5)] maxLocals)) t := fun t k => castTop (own_eflawE m p1 p2 p3 q4 p5) k
  obtain ⟨_, _, ⟨T1, L1, k1, n1⟩, -, X1, ⟨Lc1, hQ1, l1, y1, z1⟩, st1⟩ := Jvm.LawKit.callS X0 hx (y := (⟨"com/example/incorpus/incorpus/SpanIsEmptyPinLaw", "text", "(J)Ljava/lang/String;"⟩ : MethodName)) hown (mvT hZ (hw _ (List.mem_of_getElem? (i := 0) rfl))) (mvT hZ (hw _ (List.mem_of_getElem? (i := 1) rfl))) (mvT hZ (hw _ (List.mem_of_getElem? (i := 2) rfl))) (mvT hZ (hw _ (List.mem_of_getElem? (i := 3) rfl))) (by decide) (backOf (W := 0) (own_rm_text l Z a0 hw [] G1 G3 gl q4 h0 n0 Z0 X00 ) hZ (hw _ (List.mem_of_getElem? (i := 3) rfl)) (hw _ (List.mem_of_getElem? (i := 2) rfl)) (by decide) (by decide)) (g := (mkF m 18 #[.val (.int p1), .val (.int p2), .val (.int p3), .val (.long q4), .second, .val (.int p5), .val (.int (own_a3 p1)), .val (.int (0 : Int32)), .val (.int (own_a3 p1)), .unset, .unset, .unset, .unset, .unset, .unset, .unset, .unset] [(.long q4)])) rfl (by rw [hml]; rfl) (argsL := [(.long q4)]) (rest := []) (lenOf own_pd8 rfl) rfl (by show 2 * 0 + _ ≤ _; exact Nat.le_of_eq rfl) (hb hby at_18) (fun _ _ => ⟨rfl, e0, (by decide : 0 + 3 ≤ _), (by decide : 0 + 20 ≤ _)⟩)
  dsimp only [Pt.U, Pt.locs, Pt.cells, Pt.slots] at X1 l1 y1 z1 st1 hQ1
  subst y1 z1
  obtain ⟨b37_1, t55_1, kb55_1, rfl, Nq1, Kq1, f1_0, f1_1, f1_2, f1_3, f1_4, f1_5, f1_6⟩ := hQ1
  have N1 : Fr n0 L1 := by rw [l1]; exact Fr.app N0 Nq1
  have Kp2 : Keep h0 T1.heap [] := (Keep.refl h0 []).trans Kq1 all0
  obtain ⟨T3, h3, X3, e3, E3, A3, D3, U3, st3⟩ := newO X1 hx hZ hown (hw _ (List.mem_of_getElem? (i := 35) rfl)) (hw _ (List.mem_of_getElem? (i := 36) rfl)) (hw _ (List.mem_of_getElem? (i := 37) rfl)) rfl (g := (mkF m 23 #[.val (.int p1), .val (.int p2), .val (.int p3), .val (.long q4), .second, .val (.int p5), .val (.int (own_a3 p1)), .val (.int (0 : Int32)), .val (.int (own_a3 p1)), .val (.ref b37_1), .unset, .unset, .unset, .unset, .unset, .unset, .unset] [])) rfl (hb hby at_23) (by decide) (by decide)
  obtain ⟨b3, g3⟩ : ∃ z, z = T1.heap.size := ⟨_, rfl⟩
  rw [← g3] at A3 D3 U3 st3
  have Kp4 : Keep h0 h3 [] := Kp2.ext E3
  have Fh5 : Fld Z h3 b3 "com/example/incorpus/incorpus/Span" "start" "I" (.int (0 : Int32)) := (D3 (Or.inr (hw _ (List.mem_of_getElem? (i := 48) rfl))) (ty := .int) (by decide))
  have gh6 : n0 ≤ b3 := Nat.le_trans (Nat.le_trans Z0 Kp2.1) (Nat.le_of_eq g3.symm)
  have Fh7 : Fld Z h3 b3 "com/example/incorpus/incorpus/Span" "end" "I" (.int (0 : Int32)) := (D3 (Or.inr (hw _ (List.mem_of_getElem? (i := 50) rfl))) (ty := .int) (by decide))
  obtain ⟨_, _, ⟨T8, L8, k8, n8⟩, -, X8, ⟨Lc8, hQ8, l8, y8, z8⟩, st8⟩ := X3.specialBack hx (y := (⟨"com/example/incorpus/incorpus/Span", "<init>", "(II)V"⟩ : MethodName)) rfl hown (mvT hZ (hw _ (List.mem_of_getElem? (i := 38) rfl))) (mvT hZ (hw _ (List.mem_of_getElem? (i := 39) rfl))) (mvT hZ (hw _ (List.mem_of_getElem? (i := 40) rfl))) (by decide) (backOf (W := 1) (own_rm_span l Z a0 hw [] G1 G3 gl b3 (own_a3 p1) (own_a3 p1) ((.int (0 : Int32))) ((.int (0 : Int32))) h3 n0 (Nat.le_trans Z0 Kp4.1) A3 Fh5 gh6 Fh7 ((own_a3n p1) : ¬ ((own_a3 p1) < (0 : Int32))) (Int32.lt_irrefl : ¬ ((own_a3 p1) < (own_a3 p1)))) hZ (hw _ (List.mem_of_getElem? (i := 40) rfl)) (hw _ (List.mem_of_getElem? (i := 37) rfl)) (by decide) (by decide)) (g := (mkF m 31 #[.val (.int p1), .val (.int p2), .val (.int p3), .val (.long q4), .second, .val (.int p5), .val (.int (own_a3 p1)), .val (.int (0 : Int32)), .val (.int (own_a3 p1)), .val (.ref b37_1), .unset, .unset, .unset, .unset, .unset, .unset, .unset] [(.int (own_a3 p1)), (.int (own_a3 p1)), (.ref b3), (.ref b3)])) rfl (by rw [hml]; rfl) (Steps.refl _) (a := b3) (argsL := [(.int (own_a3 p1)), (.int (own_a3 p1))]) (rest := [(.ref b3)]) (lenOf own_pd6 rfl) rfl (by show 2 * 0 + _ ≤ _; exact Nat.le_of_eq rfl) (hb hby at_31) (fun _ _ => ⟨rfl, e3, (by decide : 4 + 0 ≤ _), (by decide : 22 + 0 ≤ _)⟩)
  dsimp only [Pt.U, Pt.locs, Pt.cells, Pt.slots] at X8 l8 y8 z8 st8 hQ8
  subst y8 z8
  obtain ⟨rfl, Nq8, Kq8, f8_0, f8_1, f8_2⟩ := hQ8
  have N8 : Fr n0 L8 := by rw [l8]; exact Fr.app N1 Nq8
  have Kp9 : Keep h0 T8.heap [] := Kp4.trans Kq8 (allS (Or.inr (Nat.le_trans Kp2.1 (Nat.le_of_eq g3.symm))) all0)
  obtain ⟨cq10, kq10, q10a, q10b, q10c⟩ := isOf hZ rfl f8_0
  obtain ⟨_, _, ⟨T10, L10, k10, n10⟩, -, X10, ⟨Lc10, hQ10, l10, y10, z10⟩, st10⟩ := X8.virtualBack hx (y := (⟨"com/example/incorpus/incorpus/Span", "isEmpty", "()Z"⟩ : MethodName)) (z := (⟨"com/example/incorpus/incorpus/Span", "isEmpty", "()Z"⟩ : MethodName)) hown (mvT hZ (hw _ (List.mem_of_getElem? (i := 51) rfl))) (mvT hZ (hw _ (List.mem_of_getElem? (i := 52) rfl))) (notFace_of_selects (args := #[]) (mvT hZ (hw _ (List.mem_of_getElem? (i := 54) rfl)))) (mvT hZ (hw _ (List.mem_of_getElem? (i := 54) rfl))) (mvT hZ (hw _ (List.mem_of_getElem? (i := 53) rfl))) (by decide) (backOf (W := 0) (own_rm_emp1 l Z a0 hw [] G1 G3 gl b3 (own_a3 p1) (own_a3 p1) T8.heap n0 (Nat.le_trans Z0 Kp9.1) f8_1 f8_2 (rfl : (own_a3 p1) = (own_a3 p1))) hZ (hw _ (List.mem_of_getElem? (i := 55) rfl)) (hw _ (List.mem_of_getElem? (i := 37) rfl)) (by decide) (by decide)) q10a q10c (g := (mkF m 38 #[.val (.int p1), .val (.int p2), .val (.int p3), .val (.long q4), .second, .val (.int p5), .val (.int (own_a3 p1)), .val (.int (0 : Int32)), .val (.int (own_a3 p1)), .val (.ref b37_1), .val (.ref b3), .unset, .unset, .unset, .unset, .unset, .unset] [(.ref b3)])) rfl (by rw [hml]; rfl) (Steps.refl _) (argsL := []) (rest := []) (lenOf own_pd7 rfl) rfl (by show 2 * 0 + _ ≤ _; exact Nat.le_of_eq rfl) (hb hby at_38) (fun _ _ => ⟨rfl, rfl, (by decide : 4 + 0 ≤ _), (by decide : 22 + 0 ≤ _)⟩)
  dsimp only [Pt.U, Pt.locs, Pt.cells, Pt.slots] at X10 l10 y10 z10 st10 hQ10
  subst y10 z10
  obtain ⟨rfl, Nq10, e10⟩ := hQ10
  have N10 : Fr n0 L10 := by rw [l10]; exact Fr.app N8 Nq10
  obtain ⟨cq11, kq11, q11a, q11b, q11c⟩ := isOf hZ e10 f8_0
  obtain ⟨_, _, ⟨T11, L11, k11, n11⟩, -, X11, ⟨Lc11, hQ11, l11, y11, z11⟩, st11⟩ := X10.virtualBack hx (y := (⟨"com/example/incorpus/incorpus/Span", "indexOf", "(CLjava/lang/String;)I"⟩ : MethodName)) (z := (⟨"com/example/incorpus/incorpus/Span", "indexOf", "(CLjava/lang/String;)I"⟩ : MethodName)) hown (mvT hZ (hw _ (List.mem_of_getElem? (i := 78) rfl))) (mvT hZ (hw _ (List.mem_of_getElem? (i := 79) rfl))) (notFace_of_selects (args := #[]) (mvT hZ (hw _ (List.mem_of_getElem? (i := 81) rfl)))) (mvT hZ (hw _ (List.mem_of_getElem? (i := 81) rfl))) (mvT hZ (hw _ (List.mem_of_getElem? (i := 80) rfl))) (by decide) (backOf (W := 0) (own_rm_ixE l Z a0 hw [] G1 G3 gl b3 (p3.toUInt32.toUInt16.toUInt32.toInt32) b37_1 (own_a3 p1) (own_a3 p1) T8.heap n0 (Nat.le_trans Z0 Kp9.1) f8_1 f8_2 (Int32.lt_irrefl : ¬ ((own_a3 p1) < (own_a3 p1)))) hZ (hw _ (List.mem_of_getElem? (i := 82) rfl)) (hw _ (List.mem_of_getElem? (i := 37) rfl)) (by decide) (by decide)) q11a q11c (g := (mkF m 54 #[.val (.int p1), .val (.int p2), .val (.int p3), .val (.long q4), .second, .val (.int p5), .val (.int (own_a3 p1)), .val (.int (0 : Int32)), .val (.int (own_a3 p1)), .val (.ref b37_1), .val (.ref b3), .val (.int (1 : Int32)), .unset, .unset, .unset, .unset, .unset] [(.ref b37_1), (.int (p3.toUInt32.toUInt16.toUInt32.toInt32)), (.ref b3)])) rfl (by rw [hml]; rfl) (Steps.refl _) (argsL := [(.int (p3.toUInt32.toUInt16.toUInt32.toInt32)), (.ref b37_1)]) (rest := []) (lenOf own_pd9 rfl) rfl (by show 2 * 0 + _ ≤ _; exact Nat.le_of_eq rfl) (hb hby at_54) (fun _ _ => ⟨rfl, e10, (by decide : 4 + 0 ≤ _), (by decide : 22 + 0 ≤ _)⟩)
  dsimp only [Pt.U, Pt.locs, Pt.cells, Pt.slots] at X11 l11 y11 z11 st11 hQ11
  subst y11 z11
  obtain ⟨rfl, Nq11, e11⟩ := hQ11
  have N11 : Fr n0 L11 := by rw [l11]; exact Fr.app N10 Nq11
  have Old12 : Old Z n0 T1.heap := X00.keep Kq1 all0
  have Old13 : Old Z n0 h3 := Old12.ext E3
  have Old14 : Old Z n0 T8.heap := Old13.keep Kq8 (allS gh6 all0)
  obtain ⟨s₂, o₂, hst₂, hrest₂⟩ := own_k1 hw G1 G3 gl p1 p2 p3 q4 p5 (own_a3 p1) (0 : Int32) (own_a3 p1) b37_1 b3 (Nat.le_trans Z0 Kp9.1) Old14 rfl X11 N11 hx hZ hby hml hown e11 Bd.returns Bd.notSynchronized
  refine ⟨s₂, o₂, pre0 _ ?_, hrest₂⟩
  show Steps p.tables e below (s₁.setTop (mkF m 0 #[.val (.int p1), .val (.int p2), .val (.int p3), .val (.long q4), .second, .val (.int p5), .unset, .unset, .unset, .unset, .unset, .unset, .unset, .unset, .unset, .unset, .unset] [])) _
  refine XS.iloadN X0.here hx rfl (hb hby at_0) rfl ?_
  show Steps p.tables e below (s₁.setTop (mkF m 1 #[.val (.int p1), .val (.int p2), .val (.int p3), .val (.long q4), .second, .val (.int p5), .unset, .unset, .unset, .unset, .unset, .unset, .unset, .unset, .unset, .unset, .unset] [(.int p1)])) _
  refine XS.iconst X0.here hx rfl (hb hby at_1) ?_
  show Steps p.tables e below (s₁.setTop (mkF m 2 #[.val (.int p1), .val (.int p2), .val (.int p3), .val (.long q4), .second, .val (.int p5), .unset, .unset, .unset, .unset, .unset, .unset, .unset, .unset, .unset, .unset, .unset] [(.int (3 : Int32)), (.int p1)])) _
  refine XS.iand X0.here hx rfl (hb hby at_2) rfl ?_
  show Steps p.tables e below (s₁.setTop (mkF m 3 #[.val (.int p1), .val (.int p2), .val (.int p3), .val (.long q4), .second, .val (.int p5), .unset, .unset, .unset, .unset, .unset, .unset, .unset, .unset, .unset, .unset, .unset] [(.int (own_a3 p1))])) _
  refine XS.istore X0.here hx rfl (hb hby at_3) rfl (l' := #[.val (.int p1), .val (.int p2), .val (.int p3), .val (.long q4), .second, .val (.int p5), .val (.int (own_a3 p1)), .unset, .unset, .unset, .unset, .unset, .unset, .unset, .unset, .unset, .unset]) rfl ?_
  show Steps p.tables e below (s₁.setTop (mkF m 5 #[.val (.int p1), .val (.int p2), .val (.int p3), .val (.long q4), .second, .val (.int p5), .val (.int (own_a3 p1)), .unset, .unset, .unset, .unset, .unset, .unset, .unset, .unset, .unset, .unset] [])) _
  refine XS.iloadN X0.here hx rfl (hb hby at_5) rfl ?_
  show Steps p.tables e below (s₁.setTop (mkF m 6 #[.val (.int p1), .val (.int p2), .val (.int p3), .val (.long q4), .second, .val (.int p5), .val (.int (own_a3 p1)), .unset, .unset, .unset, .unset, .unset, .unset, .unset, .unset, .unset, .unset] [(.int p2)])) _
  refine XS.iconst X0.here hx rfl (hb hby at_6) ?_
  show Steps p.tables e below (s₁.setTop (mkF m 7 #[.val (.int p1), .val (.int p2), .val (.int p3), .val (.long q4), .second, .val (.int p5), .val (.int (own_a3 p1)), .unset, .unset, .unset, .unset, .unset, .unset, .unset, .unset, .unset, .unset] [(.int (3 : Int32)), (.int p2)])) _
  refine XS.iand X0.here hx rfl (hb hby at_7) rfl ?_
  show Steps p.tables e below (s₁.setTop (mkF m 8 #[.val (.int p1), .val (.int p2), .val (.int p3), .val (.long q4), .second, .val (.int p5), .val (.int (own_a3 p1)), .unset, .unset, .unset, .unset, .unset, .unset, .unset, .unset, .unset, .unset] [(.int (own_a3 p2))])) _
  rw [hl]
  show Steps p.tables e below (s₁.setTop (mkF m 8 #[.val (.int p1), .val (.int p2), .val (.int p3), .val (.long q4), .second, .val (.int p5), .val (.int (own_a3 p1)), .unset, .unset, .unset, .unset, .unset, .unset, .unset, .unset, .unset, .unset] [(.int (0 : Int32))])) _
  refine XS.istore X0.here hx rfl (hb hby at_8) rfl (l' := #[.val (.int p1), .val (.int p2), .val (.int p3), .val (.long q4), .second, .val (.int p5), .val (.int (own_a3 p1)), .val (.int (0 : Int32)), .unset, .unset, .unset, .unset, .unset, .unset, .unset, .unset, .unset]) rfl ?_
  show Steps p.tables e below (s₁.setTop (mkF m 10 #[.val (.int p1), .val (.int p2), .val (.int p3), .val (.long q4), .second, .val (.int p5), .val (.int (own_a3 p1)), .val (.int (0 : Int32)), .unset, .unset, .unset, .unset, .unset, .unset, .unset, .unset, .unset] [])) _
  refine XS.iload X0.here hx rfl (hb hby at_10) rfl ?_
  show Steps p.tables e below (s₁.setTop (mkF m 12 #[.val (.int p1), .val (.int p2), .val (.int p3), .val (.long q4), .second, .val (.int p5), .val (.int (own_a3 p1)), .val (.int (0 : Int32)), .unset, .unset, .unset, .unset, .unset, .unset, .unset, .unset, .unset] [(.int (own_a3 p1))])) _
  refine XS.iload X0.here hx rfl (hb hby at_12) rfl ?_
  show Steps p.tables e below (s₁.setTop (mkF m 14 #[.val (.int p1), .val (.int p2), .val (.int p3), .val (.long q4), .second, .val (.int p5), .val (.int (own_a3 p1)), .val (.int (0 : Int32)), .unset, .unset, .unset, .unset, .unset, .unset, .unset, .unset, .unset] [(.int (0 : Int32)), (.int (own_a3 p1))])) _
  refine XS.iadd X0.here hx rfl (hb hby at_14) rfl ?_
  show Steps p.tables e below (s₁.setTop (mkF m 15 #[.val (.int p1), .val (.int p2), .val (.int p3), .val (.long q4), .second, .val (.int p5), .val (.int (own_a3 p1)), .val (.int (0 : Int32)), .unset, .unset, .unset, .unset, .unset, .unset, .unset, .unset, .unset] [(.int ((own_a3 p1) + (0 : Int32)))])) _
  rw [(own_add0 (own_a3 p1))]
  show Steps p.tables e below (s₁.setTop (mkF m 15 #[.val (.int p1), .val (.int p2), .val (.int p3), .val (.long q4), .second, .val (.int p5), .val (.int (own_a3 p1)), .val (.int (0 : Int32)), .unset, .unset, .unset, .unset, .unset, .unset, .unset, .unset, .unset] [(.int (own_a3 p1))])) _
  refine XS.istore X0.here hx rfl (hb hby at_15) rfl (l' := #[.val (.int p1), .val (.int p2), .val (.int p3), .val (.long q4), .second, .val (.int p5), .val (.int (own_a3 p1)), .val (.int (0 : Int32)), .val (.int (own_a3 p1)), .unset, .unset, .unset, .unset, .unset, .unset, .unset, .unset]) rfl ?_
  show Steps p.tables e below (s₁.setTop (mkF m 17 #[.val (.int p1), .val (.int p2), .val (.int p3), .val (.long q4), .second, .val (.int p5), .val (.int (own_a3 p1)), .val (.int (0 : Int32)), .val (.int (own_a3 p1)), .unset, .unset, .unset, .unset, .unset, .unset, .unset, .unset] [])) _
  refine XS.lloadN X0.here hx rfl (hb hby at_17) rfl ?_
  show Steps p.tables e below (s₁.setTop (mkF m 18 #[.val (.int p1), .val (.int p2), .val (.int p3), .val (.long q4), .second, .val (.int p5), .val (.int (own_a3 p1)), .val (.int (0 : Int32)), .val (.int (own_a3 p1)), .unset, .unset, .unset, .unset, .unset, .unset, .unset, .unset] [(.long q4)])) _
  refine st1 _ ?_
  show Steps p.tables e below (T1.setTop (mkF m 21 #[.val (.int p1), .val (.int p2), .val (.int p3), .val (.long q4), .second, .val (.int p5), .val (.int (own_a3 p1)), .val (.int (0 : Int32)), .val (.int (own_a3 p1)), .unset, .unset, .unset, .unset, .unset, .unset, .unset, .unset] [(.ref b37_1)])) _
  refine XS.astore X1.here hx rfl (hb hby at_21) rfl rfl (l' := #[.val (.int p1), .val (.int p2), .val (.int p3), .val (.long q4), .second, .val (.int p5), .val (.int (own_a3 p1)), .val (.int (0 : Int32)), .val (.int (own_a3 p1)), .val (.ref b37_1), .unset, .unset, .unset, .unset, .unset, .unset, .unset]) rfl ?_
  show Steps p.tables e below (T1.setTop (mkF m 23 #[.val (.int p1), .val (.int p2), .val (.int p3), .val (.long q4), .second, .val (.int p5), .val (.int (own_a3 p1)), .val (.int (0 : Int32)), .val (.int (own_a3 p1)), .val (.ref b37_1), .unset, .unset, .unset, .unset, .unset, .unset, .unset] [])) _
  refine st3 _ ?_
  show Steps p.tables e below (T3.setTop (mkF m 26 #[.val (.int p1), .val (.int p2), .val (.int p3), .val (.long q4), .second, .val (.int p5), .val (.int (own_a3 p1)), .val (.int (0 : Int32)), .val (.int (own_a3 p1)), .val (.ref b37_1), .unset, .unset, .unset, .unset, .unset, .unset, .unset] [(.ref b3)])) _
  refine XS.dup X3.here hx rfl (hb hby at_26) rfl rfl ?_
  show Steps p.tables e below (T3.setTop (mkF m 27 #[.val (.int p1), .val (.int p2), .val (.int p3), .val (.long q4), .second, .val (.int p5), .val (.int (own_a3 p1)), .val (.int (0 : Int32)), .val (.int (own_a3 p1)), .val (.ref b37_1), .unset, .unset, .unset, .unset, .unset, .unset, .unset] [(.ref b3), (.ref b3)])) _
  refine XS.iload X3.here hx rfl (hb hby at_27) rfl ?_
  show Steps p.tables e below (T3.setTop (mkF m 29 #[.val (.int p1), .val (.int p2), .val (.int p3), .val (.long q4), .second, .val (.int p5), .val (.int (own_a3 p1)), .val (.int (0 : Int32)), .val (.int (own_a3 p1)), .val (.ref b37_1), .unset, .unset, .unset, .unset, .unset, .unset, .unset] [(.int (own_a3 p1)), (.ref b3), (.ref b3)])) _
  refine XS.iload X3.here hx rfl (hb hby at_29) rfl ?_
  show Steps p.tables e below (T3.setTop (mkF m 31 #[.val (.int p1), .val (.int p2), .val (.int p3), .val (.long q4), .second, .val (.int p5), .val (.int (own_a3 p1)), .val (.int (0 : Int32)), .val (.int (own_a3 p1)), .val (.ref b37_1), .unset, .unset, .unset, .unset, .unset, .unset, .unset] [(.int (own_a3 p1)), (.int (own_a3 p1)), (.ref b3), (.ref b3)])) _
  refine st8.trans ?_
  show Steps p.tables e below (T8.setTop (mkF m 34 #[.val (.int p1), .val (.int p2), .val (.int p3), .val (.long q4), .second, .val (.int p5), .val (.int (own_a3 p1)), .val (.int (0 : Int32)), .val (.int (own_a3 p1)), .val (.ref b37_1), .unset, .unset, .unset, .unset, .unset, .unset, .unset] [(.ref b3)])) _
  refine XS.astore X8.here hx rfl (hb hby at_34) rfl rfl (l' := #[.val (.int p1), .val (.int p2), .val (.int p3), .val (.long q4), .second, .val (.int p5), .val (.int (own_a3 p1)), .val (.int (0 : Int32)), .val (.int (own_a3 p1)), .val (.ref b37_1), .val (.ref b3), .unset, .unset, .unset, .unset, .unset, .unset]) rfl ?_
  show Steps p.tables e below (T8.setTop (mkF m 36 #[.val (.int p1), .val (.int p2), .val (.int p3), .val (.long q4), .second, .val (.int p5), .val (.int (own_a3 p1)), .val (.int (0 : Int32)), .val (.int (own_a3 p1)), .val (.ref b37_1), .val (.ref b3), .unset, .unset, .unset, .unset, .unset, .unset] [])) _
  refine XS.aload X8.here hx rfl (hb hby at_36) rfl rfl ?_
  show Steps p.tables e below (T8.setTop (mkF m 38 #[.val (.int p1), .val (.int p2), .val (.int p3), .val (.long q4), .second, .val (.int p5), .val (.int (own_a3 p1)), .val (.int (0 : Int32)), .val (.int (own_a3 p1)), .val (.ref b37_1), .val (.ref b3), .unset, .unset, .unset, .unset, .unset, .unset] [(.ref b3)])) _
  refine st10.trans ?_
  show Steps p.tables e below (T10.setTop (mkF m 41 #[.val (.int p1), .val (.int p2), .val (.int p3), .val (.long q4), .second, .val (.int p5), .val (.int (own_a3 p1)), .val (.int (0 : Int32)), .val (.int (own_a3 p1)), .val (.ref b37_1), .val (.ref b3), .unset, .unset, .unset, .unset, .unset, .unset] [(.int (1 : Int32))])) _
  refine XS.istore X10.here hx rfl (hb hby at_41) rfl (l' := #[.val (.int p1), .val (.int p2), .val (.int p3), .val (.long q4), .second, .val (.int p5), .val (.int (own_a3 p1)), .val (.int (0 : Int32)), .val (.int (own_a3 p1)), .val (.ref b37_1), .val (.ref b3), .val (.int (1 : Int32)), .unset, .unset, .unset, .unset, .unset]) rfl ?_
  show Steps p.tables e below (T10.setTop (mkF m 43 #[.val (.int p1), .val (.int p2), .val (.int p3), .val (.long q4), .second, .val (.int p5), .val (.int (own_a3 p1)), .val (.int (0 : Int32)), .val (.int (own_a3 p1)), .val (.ref b37_1), .val (.ref b3), .val (.int (1 : Int32)), .unset, .unset, .unset, .unset, .unset] [])) _
  refine XS.iload X10.here hx rfl (hb hby at_43) rfl ?_
  show Steps p.tables e below (T10.setTop (mkF m 45 #[.val (.int p1), .val (.int p2), .val (.int p3), .val (.long q4), .second, .val (.int p5), .val (.int (own_a3 p1)), .val (.int (0 : Int32)), .val (.int (own_a3 p1)), .val (.ref b37_1), .val (.ref b3), .val (.int (1 : Int32)), .unset, .unset, .unset, .unset, .unset] [(.int (1 : Int32))])) _
  refine XS.ifNo X10.here hx rfl (hb hby at_45) rfl ((if0 _ _).trans (feq (by decide : ¬ ((1 : Int32) = (0 : Int32)))).1) ?_
  show Steps p.tables e below (T10.setTop (mkF m 48 #[.val (.int p1), .val (.int p2), .val (.int p3), .val (.long q4), .second, .val (.int p5), .val (.int (own_a3 p1)), .val (.int (0 : Int32)), .val (.int (own_a3 p1)), .val (.ref b37_1), .val (.ref b3), .val (.int (1 : Int32)), .unset, .unset, .unset, .unset, .unset] [])) _
  refine XS.aload X10.here hx rfl (hb hby at_48) rfl rfl ?_
  show Steps p.tables e below (T10.setTop (mkF m 50 #[.val (.int p1), .val (.int p2), .val (.int p3), .val (.long q4), .second, .val (.int p5), .val (.int (own_a3 p1)), .val (.int (0 : Int32)), .val (.int (own_a3 p1)), .val (.ref b37_1), .val (.ref b3), .val (.int (1 : Int32)), .unset, .unset, .unset, .unset, .unset] [(.ref b3)])) _
  refine XS.iloadN X10.here hx rfl (hb hby at_50) rfl ?_
  show Steps p.tables e below (T10.setTop (mkF m 51 #[.val (.int p1), .val (.int p2), .val (.int p3), .val (.long q4), .second, .val (.int p5), .val (.int (own_a3 p1)), .val (.int (0 : Int32)), .val (.int (own_a3 p1)), .val (.ref b37_1), .val (.ref b3), .val (.int (1 : Int32)), .unset, .unset, .unset, .unset, .unset] [(.int p3), (.ref b3)])) _
  refine XS.i2c X10.here hx rfl (hb hby at_51) rfl ?_
  show Steps p.tables e below (T10.setTop (mkF m 52 #[.val (.int p1), .val (.int p2), .val (.int p3), .val (.long q4), .second, .val (.int p5), .val (.int (own_a3 p1)), .val (.int (0 : Int32)), .val (.int (own_a3 p1)), .val (.ref b37_1), .val (.ref b3), .val (.int (1 : Int32)), .unset, .unset, .unset, .unset, .unset] [(.int (p3.toUInt32.toUInt16.toUInt32.toInt32)), (.ref b3)])) _
  refine XS.aload X10.here hx rfl (hb hby at_52) rfl rfl ?_
  show Steps p.tables e below (T10.setTop (mkF m 54 #[.val (.int p1), .val (.int p2), .val (.int p3), .val (.long q4), .second, .val (.int p5), .val (.int (own_a3 p1)), .val (.int (0 : Int32)), .val (.int (own_a3 p1)), .val (.ref b37_1), .val (.ref b3), .val (.int (1 : Int32)), .unset, .unset, .unset, .unset, .unset] [(.ref b37_1), (.int (p3.toUInt32.toUInt16.toUInt32.toInt32)), (.ref b3)])) _
  refine st11.trans ?_
  show Steps p.tables e below (T11.setTop (mkF m 57 #[.val (.int p1), .val (.int p2), .val (.int p3), .val (.long q4), .second, .val (.int p5), .val (.int (own_a3 p1)), .val (.int (0 : Int32)), .val (.int (own_a3 p1)), .val (.ref b37_1), .val (.ref b3), .val (.int (1 : Int32)), .unset, .unset, .unset, .unset, .unset] [(.int (-1 : Int32))])) _
  refine XS.iconst X11.here hx rfl (hb hby at_57) ?_
  show Steps p.tables e below (T11.setTop (mkF m 58 #[.val (.int p1), .val (.int p2), .val (.int p3), .val (.long q4), .second, .val (.int p5), .val (.int (own_a3 p1)), .val (.int (0 : Int32)), .val (.int (own_a3 p1)), .val (.ref b37_1), .val (.ref b3), .val (.int (1 : Int32)), .unset, .unset, .unset, .unset, .unset] [(.int (-1 : Int32)), (.int (-1 : Int32))])) _
  refine XS.icmpNo X11.here hx rfl (hb hby at_58) rfl (teq (rfl : (-1 : Int32) = (-1 : Int32))).2 ?_
  show Steps p.tables e below (T11.setTop (mkF m 61 #[.val (.int p1), .val (.int p2), .val (.int p3), .val (.long q4), .second, .val (.int p5), .val (.int (own_a3 p1)), .val (.int (0 : Int32)), .val (.int (own_a3 p1)), .val (.ref b37_1), .val (.ref b3), .val (.int (1 : Int32)), .unset, .unset, .unset, .unset, .unset] [])) _
  refine XS.iconst X11.here hx rfl (hb hby at_61) ?_
  show Steps p.tables e below (T11.setTop (mkF m 62 #[.val (.int p1), .val (.int p2), .val (.int p3), .val (.long q4), .second, .val (.int p5), .val (.int (own_a3 p1)), .val (.int (0 : Int32)), .val (.int (own_a3 p1)), .val (.ref b37_1), .val (.ref b3), .val (.int (1 : Int32)), .unset, .unset, .unset, .unset, .unset] [(.int (1 : Int32))])) _
  refine XS.goto X11.here hx rfl (pc0 := 62) (pc' := 66) rfl (hb hby at_62) (by decide) (by decide) ?_
  show Steps p.tables e below (T11.setTop (mkF m 66 #[.val (.int p1), .val (.int p2), .val (.int p3), .val (.long q4), .second, .val (.int p5), .val (.int (own_a3 p1)), .val (.int (0 : Int32)), .val (.int (own_a3 p1)), .val (.ref b37_1), .val (.ref b3), .val (.int (1 : Int32)), .unset, .unset, .unset, .unset, .unset] [(.int (1 : Int32))])) _
  refine XS.istore X11.here hx rfl (hb hby at_66) rfl (l' := #[.val (.int p1), .val (.int p2), .val (.int p3), .val (.long q4), .second, .val (.int p5), .val (.int (own_a3 p1)), .val (.int (0 : Int32)), .val (.int (own_a3 p1)), .val (.ref b37_1), .val (.ref b3), .val (.int (1 : Int32)), .val (.int (1 : Int32)), .unset, .unset, .unset, .unset]) rfl ?_
  show Steps p.tables e below (T11.setTop (mkF m 68 #[.val (.int p1), .val (.int p2), .val (.int p3), .val (.long q4), .second, .val (.int p5), .val (.int (own_a3 p1)), .val (.int (0 : Int32)), .val (.int (own_a3 p1)), .val (.ref b37_1), .val (.ref b3), .val (.int (1 : Int32)), .val (.int (1 : Int32)), .unset, .unset, .unset, .unset] [])) _
  refine XS.goto X11.here hx rfl (pc0 := 68) (pc' := 97) rfl (hb hby at_68) (by decide) (by decide) ?_
  show Steps p.tables e below (T11.setTop (mkF m 97 #[.val (.int p1), .val (.int p2), .val (.int p3), .val (.long q4), .second, .val (.int p5), .val (.int (own_a3 p1)), .val (.int (0 : Int32)), .val (.int (own_a3 p1)), .val (.ref b37_1), .val (.ref b3), .val (.int (1 : Int32)), .val (.int (1 : Int32)), .unset, .unset, .unset, .unset] [])) _
  exact hst₂
theorem own_eflaw0 (m : MethodId) (p1 : Int32) (p2 : Int32) (p3 : Int32) (q4 : Int64) (p5 : Int32) : entryFrame m #[(.int p1), (.int p2), (.int p3), (.long q4), (.int p5)] maxLocals = mkF m 0 #[.val (.int p1), .val (.int p2), .val (.int p3), .val (.long q4), .second, .val (.int p5), .unset, .unset, .unset, .unset, .unset, .unset, .unset, .unset, .unset, .unset, .unset] [] := by first | (simp [entryFrame, mkF, argsToLocals, Value.category, maxLocals]; done) | rfl
set_option maxRecDepth 65536 in
set_option maxHeartbeats 40000000 in
theorem own_law0 (l : Launch) (Z : State) (a0 : Array Value) (hw : ∀ d ∈ tables_1, d.before a0 Z = true) (ws : List Jvm.Cond) (G1 : Int32) (G3 : Value) (gl : own_Glob Z G1 G3) (p1 : Int32) (p2 : Int32) (p3 : Int32) (q4 : Int64) (p5 : Int32) (h0 : Heap) (n0 : Nat) (Z0 : n0 ≤ h0.size) (X00 : Old Z n0 h0) (hs : own_a3 p1 = 0) (hl : ¬ (own_a3 p2 = (0 : Int32))) :
    MetFree l x (head1 (Jvm.Cond.code x code maxLocals ret :: ws) room_1) (fun a U => a = #[(.int p1), (.int p2), (.int p3), (.long q4), (.int p5)] ∧ Z.Warmed39 U.vm ∧ U.heap = h0) (fun _ _ _ _ _ => True) (fun _ U o U' => ∃ v L, o = .returned v ∧ own_Qlaw h0 n0 v U'.heap L ∧ FrameEnd U o U' L room_1.cells room_1.slots) := by
  refine MetFree.of_bodySF (plainFor_of_name own_pn1) hisR ?_
  intro p e s m args below meth c s₁ Bd hml0 hP hK
  obtain ⟨rfl, hZ, hh⟩ := hP
  obtain ⟨O_CS, P_CS, O_SI, P_SI⟩ := id gl
  have hx := Bd.exec
  have hby := Bd.bytes
  have hml : c.maxLocals = 17 := hml0
  have hown : s.vm.findClass "com/example/incorpus/incorpus/SpanIsEmptyPinLaw" = some m.cls := findClass_of_methodNamed Bd.named
  have hnm := (name_of_methodNamed Bd.named Bd.method).1
  have X0 : Stand p l e room_1 s m #[(.int p1), (.int p2), (.int p3), (.long q4), (.int p5)] below meth c s₁ [] 0 0 := Stand.of_body Bd
  have e0 : s₁.heap = h0 := by rw [← hh, Bd.state]; rfl
  have N0 := Fr.nil n0
  have pre0 : ∀ t, Steps p.tables e below (s₁.setTop (mkF m 0 #[.val (.int p1), .val (.int p2), .val (.int p3), .val (.long q4), .second, .val (.int p5), .unset, .unset, .unset, .unset, .unset, .unset, .unset, .unset, .unset, .unset, .unset] [])) t → Steps p.tables e below (s₁.setTop (entryFrame m #[(.int p1), (.int p2), (.int p3), (.long q4), (.int p5)] maxLocals)) t := fun t k => castTop (own_eflaw0 m p1 p2 p3 q4 p5) k
  obtain ⟨_, _, ⟨T1, L1, k1, n1⟩, -, X1, ⟨Lc1, hQ1, l1, y1, z1⟩, st1⟩ := Jvm.LawKit.callS X0 hx (y := (⟨"com/example/incorpus/incorpus/SpanIsEmptyPinLaw", "text", "(J)Ljava/lang/String;"⟩ : MethodName)) hown (mvT hZ (hw _ (List.mem_of_getElem? (i := 0) rfl))) (mvT hZ (hw _ (List.mem_of_getElem? (i := 1) rfl))) (mvT hZ (hw _ (List.mem_of_getElem? (i := 2) rfl))) (mvT hZ (hw _ (List.mem_of_getElem? (i := 3) rfl))) (by decide) (backOf (W := 0) (own_rm_text l Z a0 hw [] G1 G3 gl q4 h0 n0 Z0 X00 ) hZ (hw _ (List.mem_of_getElem? (i := 3) rfl)) (hw _ (List.mem_of_getElem? (i := 2) rfl)) (by decide) (by decide)) (g := (mkF m 18 #[.val (.int p1), .val (.int p2), .val (.int p3), .val (.long q4), .second, .val (.int p5), .val (.int (0 : Int32)), .val (.int (own_a3 p2)), .val (.int ((0 : Int32) + (own_a3 p2))), .unset, .unset, .unset, .unset, .unset, .unset, .unset, .unset] [(.long q4)])) rfl (by rw [hml]; rfl) (argsL := [(.long q4)]) (rest := []) (lenOf own_pd8 rfl) rfl (by show 2 * 0 + _ ≤ _; exact Nat.le_of_eq rfl) (hb hby at_18) (fun _ _ => ⟨rfl, e0, (by decide : 0 + 3 ≤ _), (by decide : 0 + 20 ≤ _)⟩)
  dsimp only [Pt.U, Pt.locs, Pt.cells, Pt.slots] at X1 l1 y1 z1 st1 hQ1
  subst y1 z1
  obtain ⟨b37_1, t55_1, kb55_1, rfl, Nq1, Kq1, f1_0, f1_1, f1_2, f1_3, f1_4, f1_5, f1_6⟩ := hQ1
  have N1 : Fr n0 L1 := by rw [l1]; exact Fr.app N0 Nq1
  have Kp2 : Keep h0 T1.heap [] := (Keep.refl h0 []).trans Kq1 all0
  obtain ⟨T3, h3, X3, e3, E3, A3, D3, U3, st3⟩ := newO X1 hx hZ hown (hw _ (List.mem_of_getElem? (i := 35) rfl)) (hw _ (List.mem_of_getElem? (i := 36) rfl)) (hw _ (List.mem_of_getElem? (i := 37) rfl)) rfl (g := (mkF m 23 #[.val (.int p1), .val (.int p2), .val (.int p3), .val (.long q4), .second, .val (.int p5), .val (.int (0 : Int32)), .val (.int (own_a3 p2)), .val (.int ((0 : Int32) + (own_a3 p2))), .val (.ref b37_1), .unset, .unset, .unset, .unset, .unset, .unset, .unset] [])) rfl (hb hby at_23) (by decide) (by decide)
  obtain ⟨b3, g3⟩ : ∃ z, z = T1.heap.size := ⟨_, rfl⟩
  rw [← g3] at A3 D3 U3 st3
  have Kp4 : Keep h0 h3 [] := Kp2.ext E3
  have Fh5 : Fld Z h3 b3 "com/example/incorpus/incorpus/Span" "start" "I" (.int (0 : Int32)) := (D3 (Or.inr (hw _ (List.mem_of_getElem? (i := 48) rfl))) (ty := .int) (by decide))
  have gh6 : n0 ≤ b3 := Nat.le_trans (Nat.le_trans Z0 Kp2.1) (Nat.le_of_eq g3.symm)
  have Fh7 : Fld Z h3 b3 "com/example/incorpus/incorpus/Span" "end" "I" (.int (0 : Int32)) := (D3 (Or.inr (hw _ (List.mem_of_getElem? (i := 50) rfl))) (ty := .int) (by decide))
  obtain ⟨_, _, ⟨T8, L8, k8, n8⟩, -, X8, ⟨Lc8, hQ8, l8, y8, z8⟩, st8⟩ := X3.specialBack hx (y := (⟨"com/example/incorpus/incorpus/Span", "<init>", "(II)V"⟩ : MethodName)) rfl hown (mvT hZ (hw _ (List.mem_of_getElem? (i := 38) rfl))) (mvT hZ (hw _ (List.mem_of_getElem? (i := 39) rfl))) (mvT hZ (hw _ (List.mem_of_getElem? (i := 40) rfl))) (by decide) (backOf (W := 1) (own_rm_span l Z a0 hw [] G1 G3 gl b3 (0 : Int32) ((0 : Int32) + (own_a3 p2)) ((.int (0 : Int32))) ((.int (0 : Int32))) h3 n0 (Nat.le_trans Z0 Kp4.1) A3 Fh5 gh6 Fh7 (by decide : ¬ ((0 : Int32) < (0 : Int32))) ((own_e0 p2 hl).2.1 : ¬ (((0 : Int32) + (own_a3 p2)) < (0 : Int32)))) hZ (hw _ (List.mem_of_getElem? (i := 40) rfl)) (hw _ (List.mem_of_getElem? (i := 37) rfl)) (by decide) (by decide)) (g := (mkF m 31 #[.val (.int p1), .val (.int p2), .val (.int p3), .val (.long q4), .second, .val (.int p5), .val (.int (0 : Int32)), .val (.int (own_a3 p2)), .val (.int ((0 : Int32) + (own_a3 p2))), .val (.ref b37_1), .unset, .unset, .unset, .unset, .unset, .unset, .unset] [(.int ((0 : Int32) + (own_a3 p2))), (.int (0 : Int32)), (.ref b3), (.ref b3)])) rfl (by rw [hml]; rfl) (Steps.refl _) (a := b3) (argsL := [(.int (0 : Int32)), (.int ((0 : Int32) + (own_a3 p2)))]) (rest := [(.ref b3)]) (lenOf own_pd6 rfl) rfl (by show 2 * 0 + _ ≤ _; exact Nat.le_of_eq rfl) (hb hby at_31) (fun _ _ => ⟨rfl, e3, (by decide : 4 + 0 ≤ _), (by decide : 22 + 0 ≤ _)⟩)
  dsimp only [Pt.U, Pt.locs, Pt.cells, Pt.slots] at X8 l8 y8 z8 st8 hQ8
  subst y8 z8
  obtain ⟨rfl, Nq8, Kq8, f8_0, f8_1, f8_2⟩ := hQ8
  have N8 : Fr n0 L8 := by rw [l8]; exact Fr.app N1 Nq8
  have Kp9 : Keep h0 T8.heap [] := Kp4.trans Kq8 (allS (Or.inr (Nat.le_trans Kp2.1 (Nat.le_of_eq g3.symm))) all0)
  obtain ⟨cq10, kq10, q10a, q10b, q10c⟩ := isOf hZ rfl f8_0
  obtain ⟨_, _, ⟨T10, L10, k10, n10⟩, -, X10, ⟨Lc10, hQ10, l10, y10, z10⟩, st10⟩ := X8.virtualBack hx (y := (⟨"com/example/incorpus/incorpus/Span", "isEmpty", "()Z"⟩ : MethodName)) (z := (⟨"com/example/incorpus/incorpus/Span", "isEmpty", "()Z"⟩ : MethodName)) hown (mvT hZ (hw _ (List.mem_of_getElem? (i := 51) rfl))) (mvT hZ (hw _ (List.mem_of_getElem? (i := 52) rfl))) (notFace_of_selects (args := #[]) (mvT hZ (hw _ (List.mem_of_getElem? (i := 54) rfl)))) (mvT hZ (hw _ (List.mem_of_getElem? (i := 54) rfl))) (mvT hZ (hw _ (List.mem_of_getElem? (i := 53) rfl))) (by decide) (backOf (W := 0) (own_rm_emp0 l Z a0 hw [] G1 G3 gl b3 (0 : Int32) ((0 : Int32) + (own_a3 p2)) T8.heap n0 (Nat.le_trans Z0 Kp9.1) f8_1 f8_2 ((own_e0 p2 hl).2.2 : ¬ ((0 : Int32) = ((0 : Int32) + (own_a3 p2))))) hZ (hw _ (List.mem_of_getElem? (i := 55) rfl)) (hw _ (List.mem_of_getElem? (i := 37) rfl)) (by decide) (by decide)) q10a q10c (g := (mkF m 38 #[.val (.int p1), .val (.int p2), .val (.int p3), .val (.long q4), .second, .val (.int p5), .val (.int (0 : Int32)), .val (.int (own_a3 p2)), .val (.int ((0 : Int32) + (own_a3 p2))), .val (.ref b37_1), .val (.ref b3), .unset, .unset, .unset, .unset, .unset, .unset] [(.ref b3)])) rfl (by rw [hml]; rfl) (Steps.refl _) (argsL := []) (rest := []) (lenOf own_pd7 rfl) rfl (by show 2 * 0 + _ ≤ _; exact Nat.le_of_eq rfl) (hb hby at_38) (fun _ _ => ⟨rfl, rfl, (by decide : 4 + 0 ≤ _), (by decide : 22 + 0 ≤ _)⟩)
  dsimp only [Pt.U, Pt.locs, Pt.cells, Pt.slots] at X10 l10 y10 z10 st10 hQ10
  subst y10 z10
  obtain ⟨rfl, Nq10, e10⟩ := hQ10
  have N10 : Fr n0 L10 := by rw [l10]; exact Fr.app N8 Nq10
  have Eh11 : Exa Z T8.heap b37_1 "java/lang/String" := ((f1_1.ext E3).keep Kq8)
  have Fh12 : Fld Z T8.heap b37_1 "java/lang/String" "value" "[B" (.ref t55_1) := ((f1_2.ext E3).keep Kq8 (ninS (Nat.ne_of_lt (Nat.lt_of_lt_of_le f1_1.lt (Nat.le_of_eq g3.symm))) nin0))
  have Fh13 : Fld Z T8.heap b37_1 "java/lang/String" "coder" "B" (.int (0 : Int32)) := ((f1_3.ext E3).keep Kq8 (ninS (Nat.ne_of_lt (Nat.lt_of_lt_of_le f1_1.lt (Nat.le_of_eq g3.symm))) nin0))
  have Vh14 : Arv Z T8.heap t55_1 kb55_1 .byte (8 : Int32) ((([(own_t0 q4), (own_t1 q4 (8 : Int32)), (own_t1 q4 (16 : Int32)), (own_t1 q4 (24 : Int32)), (own_t1 q4 (32 : Int32)), (own_t1 q4 (40 : Int32)), (own_t1 q4 (48 : Int32)), (own_t1 q4 (56 : Int32))] : List Int32).map (fun c => c.toInt8.toInt32)).map Value.int) (.int (0 : Int32)) := ((f1_5.ext E3).keep Kq8 (ninS (Nat.ne_of_lt (Nat.lt_of_lt_of_le f1_5.lt (Nat.le_of_eq g3.symm))) nin0))
  have cdh15 : StrChars.Road.CodA ([(own_t0 q4), (own_t1 q4 (8 : Int32)), (own_t1 q4 (16 : Int32)), (own_t1 q4 (24 : Int32)), (own_t1 q4 (32 : Int32)), (own_t1 q4 (40 : Int32)), (own_t1 q4 (48 : Int32)), (own_t1 q4 (56 : Int32))] : List Int32) 0 (8 : Int32) ((([(own_t0 q4), (own_t1 q4 (8 : Int32)), (own_t1 q4 (16 : Int32)), (own_t1 q4 (24 : Int32)), (own_t1 q4 (32 : Int32)), (own_t1 q4 (40 : Int32)), (own_t1 q4 (48 : Int32)), (own_t1 q4 (56 : Int32))] : List Int32).map (fun c => c.toInt8.toInt32)).map Value.int) := (StrChars.Road.codOf (cs := ([(own_t0 q4), (own_t1 q4 (8 : Int32)), (own_t1 q4 (16 : Int32)), (own_t1 q4 (24 : Int32)), (own_t1 q4 (32 : Int32)), (own_t1 q4 (40 : Int32)), (own_t1 q4 (48 : Int32)), (own_t1 q4 (56 : Int32))] : List Int32)) (n := 8) rfl (fun c hc => (f1_6 c hc).2))
  have hws_wordsChN : ∀ d ∈ StrChars.Road.wordsChN, d.before a0 Z = true := fun d hd => hw d (own_hws_wordsChN d hd)
  have Old16 : Old Z n0 T1.heap := X00.keep Kq1 all0
  have Old17 : Old Z n0 h3 := Old16.ext E3
  have Old18 : Old Z n0 T8.heap := Old17.keep Kq8 (allS gh6 all0)
  obtain ⟨cq19, kq19, q19a, q19b, q19c⟩ := isOf hZ e10 Eh11
  obtain ⟨_, _, ⟨T19, L19, k19, n19⟩, -, X19, ⟨Lc19, hQ19, l19, y19, z19⟩, st19⟩ := X10.virtualBack hx (y := (⟨"java/lang/String", "charAt", "(I)C"⟩ : MethodName)) (z := (⟨"java/lang/String", "charAt", "(I)C"⟩ : MethodName)) hown (mvT hZ (hw _ (List.mem_of_getElem? (i := 56) rfl))) (mvT hZ (hw _ (List.mem_of_getElem? (i := 57) rfl))) (notFace_of_selects (args := #[]) (mvT hZ (hw _ (List.mem_of_getElem? (i := 59) rfl)))) (mvT hZ (hw _ (List.mem_of_getElem? (i := 59) rfl))) (mvT hZ (hw _ (List.mem_of_getElem? (i := 58) rfl))) (by decide) (StrChars.Road.chN (W := 1) hZ hws_wordsChN (kI := 4) (hw _ (List.mem_of_getElem? (i := 7) rfl)) Eh11 Fh12 Fh13 Vh14 cdh15 (own_up _ f1_6) (O_CS.ext Old18.2) P_CS (O_SI.ext Old18.2) P_SI (Nat.le_of_ble_eq_true rfl) (i := 0) (Nat.le_of_ble_eq_true rfl) (j := (0 : Int32)) rfl (by decide) (by decide)) q19a q19c (g := (mkF m 77 #[.val (.int p1), .val (.int p2), .val (.int p3), .val (.long q4), .second, .val (.int p5), .val (.int (0 : Int32)), .val (.int (own_a3 p2)), .val (.int ((0 : Int32) + (own_a3 p2))), .val (.ref b37_1), .val (.ref b3), .val (.int (0 : Int32)), .unset, .unset, .unset, .unset, .unset] [(.int (0 : Int32)), (.ref b37_1), (.ref b3)])) rfl (by rw [hml]; rfl) (Steps.refl _) (argsL := [(.int (0 : Int32))]) (rest := [(.ref b3)]) (lenOf own_pd5 rfl) rfl (by show 2 * 0 + _ ≤ _; exact Nat.le_of_eq rfl) (hb hby at_77) (fun _ _ => ⟨rfl, e10, (by decide : 4 + 0 ≤ _), (by decide : 22 + 0 ≤ _)⟩)
  dsimp only [Pt.U, Pt.locs, Pt.cells, Pt.slots] at X19 l19 y19 z19 st19 hQ19
  subst y19 z19
  obtain ⟨rfl, rfl, e19⟩ := hQ19
  have N19 : Fr n0 L19 := by rw [l19]; exact Fr.app N10 (Fr.nil n0)
  obtain ⟨cq20, kq20, q20a, q20b, q20c⟩ := isOf hZ e19 f8_0
  obtain ⟨_, _, ⟨T20, L20, k20, n20⟩, -, X20, ⟨Lc20, hQ20, l20, y20, z20⟩, st20⟩ := X19.virtualBack hx (y := (⟨"com/example/incorpus/incorpus/Span", "indexOf", "(CLjava/lang/String;)I"⟩ : MethodName)) (z := (⟨"com/example/incorpus/incorpus/Span", "indexOf", "(CLjava/lang/String;)I"⟩ : MethodName)) hown (mvT hZ (hw _ (List.mem_of_getElem? (i := 78) rfl))) (mvT hZ (hw _ (List.mem_of_getElem? (i := 79) rfl))) (notFace_of_selects (args := #[]) (mvT hZ (hw _ (List.mem_of_getElem? (i := 81) rfl)))) (mvT hZ (hw _ (List.mem_of_getElem? (i := 81) rfl))) (mvT hZ (hw _ (List.mem_of_getElem? (i := 80) rfl))) (by decide) (backOf (W := 0) (own_rm_ix0 l Z a0 hw [] G1 G3 gl b3 (own_t0 q4) b37_1 (own_t0 q4) (own_t1 q4 (8 : Int32)) (own_t1 q4 (16 : Int32)) (own_t1 q4 (24 : Int32)) (own_t1 q4 (32 : Int32)) (own_t1 q4 (40 : Int32)) (own_t1 q4 (48 : Int32)) (own_t1 q4 (56 : Int32)) t55_1 (kb55_1) ((0 : Int32) + (own_a3 p2)) T8.heap n0 (Nat.le_trans Z0 Kp9.1) Old18 Eh11 Fh12 Fh13 Vh14 f1_6 f8_1 f8_2 ((own_e0 p2 hl).1 : (0 : Int32) < ((0 : Int32) + (own_a3 p2))) (rfl : (own_t0 q4) = (own_t0 q4))) hZ (hw _ (List.mem_of_getElem? (i := 82) rfl)) (hw _ (List.mem_of_getElem? (i := 37) rfl)) (by decide) (by decide)) q20a q20c (g := (mkF m 82 #[.val (.int p1), .val (.int p2), .val (.int p3), .val (.long q4), .second, .val (.int p5), .val (.int (0 : Int32)), .val (.int (own_a3 p2)), .val (.int ((0 : Int32) + (own_a3 p2))), .val (.ref b37_1), .val (.ref b3), .val (.int (0 : Int32)), .unset, .unset, .unset, .unset, .unset] [(.ref b37_1), (.int (own_t0 q4)), (.ref b3)])) rfl (by rw [hml]; rfl) (Steps.refl _) (argsL := [(.int (own_t0 q4)), (.ref b37_1)]) (rest := []) (lenOf own_pd9 rfl) rfl (by show 2 * 0 + _ ≤ _; exact Nat.le_of_eq rfl) (hb hby at_82) (fun _ _ => ⟨rfl, e19, (by decide : 4 + 0 ≤ _), (by decide : 22 + 0 ≤ _)⟩)
  dsimp only [Pt.U, Pt.locs, Pt.cells, Pt.slots] at X20 l20 y20 z20 st20 hQ20
  subst y20 z20
  obtain ⟨rfl, Nq20, e20⟩ := hQ20
  have N20 : Fr n0 L20 := by rw [l20]; exact Fr.app N19 Nq20
  obtain ⟨s₂, o₂, hst₂, hrest₂⟩ := own_k0 hw G1 G3 gl p1 p2 p3 q4 p5 (0 : Int32) (own_a3 p2) ((0 : Int32) + (own_a3 p2)) b37_1 b3 (Nat.le_trans Z0 Kp9.1) Old18 hl X20 N20 hx hZ hby hml hown e20 Bd.returns Bd.notSynchronized
  refine ⟨s₂, o₂, pre0 _ ?_, hrest₂⟩
  show Steps p.tables e below (s₁.setTop (mkF m 0 #[.val (.int p1), .val (.int p2), .val (.int p3), .val (.long q4), .second, .val (.int p5), .unset, .unset, .unset, .unset, .unset, .unset, .unset, .unset, .unset, .unset, .unset] [])) _
  refine XS.iloadN X0.here hx rfl (hb hby at_0) rfl ?_
  show Steps p.tables e below (s₁.setTop (mkF m 1 #[.val (.int p1), .val (.int p2), .val (.int p3), .val (.long q4), .second, .val (.int p5), .unset, .unset, .unset, .unset, .unset, .unset, .unset, .unset, .unset, .unset, .unset] [(.int p1)])) _
  refine XS.iconst X0.here hx rfl (hb hby at_1) ?_
  show Steps p.tables e below (s₁.setTop (mkF m 2 #[.val (.int p1), .val (.int p2), .val (.int p3), .val (.long q4), .second, .val (.int p5), .unset, .unset, .unset, .unset, .unset, .unset, .unset, .unset, .unset, .unset, .unset] [(.int (3 : Int32)), (.int p1)])) _
  refine XS.iand X0.here hx rfl (hb hby at_2) rfl ?_
  show Steps p.tables e below (s₁.setTop (mkF m 3 #[.val (.int p1), .val (.int p2), .val (.int p3), .val (.long q4), .second, .val (.int p5), .unset, .unset, .unset, .unset, .unset, .unset, .unset, .unset, .unset, .unset, .unset] [(.int (own_a3 p1))])) _
  rw [hs]
  show Steps p.tables e below (s₁.setTop (mkF m 3 #[.val (.int p1), .val (.int p2), .val (.int p3), .val (.long q4), .second, .val (.int p5), .unset, .unset, .unset, .unset, .unset, .unset, .unset, .unset, .unset, .unset, .unset] [(.int (0 : Int32))])) _
  refine XS.istore X0.here hx rfl (hb hby at_3) rfl (l' := #[.val (.int p1), .val (.int p2), .val (.int p3), .val (.long q4), .second, .val (.int p5), .val (.int (0 : Int32)), .unset, .unset, .unset, .unset, .unset, .unset, .unset, .unset, .unset, .unset]) rfl ?_
  show Steps p.tables e below (s₁.setTop (mkF m 5 #[.val (.int p1), .val (.int p2), .val (.int p3), .val (.long q4), .second, .val (.int p5), .val (.int (0 : Int32)), .unset, .unset, .unset, .unset, .unset, .unset, .unset, .unset, .unset, .unset] [])) _
  refine XS.iloadN X0.here hx rfl (hb hby at_5) rfl ?_
  show Steps p.tables e below (s₁.setTop (mkF m 6 #[.val (.int p1), .val (.int p2), .val (.int p3), .val (.long q4), .second, .val (.int p5), .val (.int (0 : Int32)), .unset, .unset, .unset, .unset, .unset, .unset, .unset, .unset, .unset, .unset] [(.int p2)])) _
  refine XS.iconst X0.here hx rfl (hb hby at_6) ?_
  show Steps p.tables e below (s₁.setTop (mkF m 7 #[.val (.int p1), .val (.int p2), .val (.int p3), .val (.long q4), .second, .val (.int p5), .val (.int (0 : Int32)), .unset, .unset, .unset, .unset, .unset, .unset, .unset, .unset, .unset, .unset] [(.int (3 : Int32)), (.int p2)])) _
  refine XS.iand X0.here hx rfl (hb hby at_7) rfl ?_
  show Steps p.tables e below (s₁.setTop (mkF m 8 #[.val (.int p1), .val (.int p2), .val (.int p3), .val (.long q4), .second, .val (.int p5), .val (.int (0 : Int32)), .unset, .unset, .unset, .unset, .unset, .unset, .unset, .unset, .unset, .unset] [(.int (own_a3 p2))])) _
  refine XS.istore X0.here hx rfl (hb hby at_8) rfl (l' := #[.val (.int p1), .val (.int p2), .val (.int p3), .val (.long q4), .second, .val (.int p5), .val (.int (0 : Int32)), .val (.int (own_a3 p2)), .unset, .unset, .unset, .unset, .unset, .unset, .unset, .unset, .unset]) rfl ?_
  show Steps p.tables e below (s₁.setTop (mkF m 10 #[.val (.int p1), .val (.int p2), .val (.int p3), .val (.long q4), .second, .val (.int p5), .val (.int (0 : Int32)), .val (.int (own_a3 p2)), .unset, .unset, .unset, .unset, .unset, .unset, .unset, .unset, .unset] [])) _
  refine XS.iload X0.here hx rfl (hb hby at_10) rfl ?_
  show Steps p.tables e below (s₁.setTop (mkF m 12 #[.val (.int p1), .val (.int p2), .val (.int p3), .val (.long q4), .second, .val (.int p5), .val (.int (0 : Int32)), .val (.int (own_a3 p2)), .unset, .unset, .unset, .unset, .unset, .unset, .unset, .unset, .unset] [(.int (0 : Int32))])) _
  refine XS.iload X0.here hx rfl (hb hby at_12) rfl ?_
  show Steps p.tables e below (s₁.setTop (mkF m 14 #[.val (.int p1), .val (.int p2), .val (.int p3), .val (.long q4), .second, .val (.int p5), .val (.int (0 : Int32)), .val (.int (own_a3 p2)), .unset, .unset, .unset, .unset, .unset, .unset, .unset, .unset, .unset] [(.int (own_a3 p2)), (.int (0 : Int32))])) _
  refine XS.iadd X0.here hx rfl (hb hby at_14) rfl ?_
  show Steps p.tables e below (s₁.setTop (mkF m 15 #[.val (.int p1), .val (.int p2), .val (.int p3), .val (.long q4), .second, .val (.int p5), .val (.int (0 : Int32)), .val (.int (own_a3 p2)), .unset, .unset, .unset, .unset, .unset, .unset, .unset, .unset, .unset] [(.int ((0 : Int32) + (own_a3 p2)))])) _
  refine XS.istore X0.here hx rfl (hb hby at_15) rfl (l' := #[.val (.int p1), .val (.int p2), .val (.int p3), .val (.long q4), .second, .val (.int p5), .val (.int (0 : Int32)), .val (.int (own_a3 p2)), .val (.int ((0 : Int32) + (own_a3 p2))), .unset, .unset, .unset, .unset, .unset, .unset, .unset, .unset]) rfl ?_
  show Steps p.tables e below (s₁.setTop (mkF m 17 #[.val (.int p1), .val (.int p2), .val (.int p3), .val (.long q4), .second, .val (.int p5), .val (.int (0 : Int32)), .val (.int (own_a3 p2)), .val (.int ((0 : Int32) + (own_a3 p2))), .unset, .unset, .unset, .unset, .unset, .unset, .unset, .unset] [])) _
  refine XS.lloadN X0.here hx rfl (hb hby at_17) rfl ?_
  show Steps p.tables e below (s₁.setTop (mkF m 18 #[.val (.int p1), .val (.int p2), .val (.int p3), .val (.long q4), .second, .val (.int p5), .val (.int (0 : Int32)), .val (.int (own_a3 p2)), .val (.int ((0 : Int32) + (own_a3 p2))), .unset, .unset, .unset, .unset, .unset, .unset, .unset, .unset] [(.long q4)])) _
  refine st1 _ ?_
  show Steps p.tables e below (T1.setTop (mkF m 21 #[.val (.int p1), .val (.int p2), .val (.int p3), .val (.long q4), .second, .val (.int p5), .val (.int (0 : Int32)), .val (.int (own_a3 p2)), .val (.int ((0 : Int32) + (own_a3 p2))), .unset, .unset, .unset, .unset, .unset, .unset, .unset, .unset] [(.ref b37_1)])) _
  refine XS.astore X1.here hx rfl (hb hby at_21) rfl rfl (l' := #[.val (.int p1), .val (.int p2), .val (.int p3), .val (.long q4), .second, .val (.int p5), .val (.int (0 : Int32)), .val (.int (own_a3 p2)), .val (.int ((0 : Int32) + (own_a3 p2))), .val (.ref b37_1), .unset, .unset, .unset, .unset, .unset, .unset, .unset]) rfl ?_
  show Steps p.tables e below (T1.setTop (mkF m 23 #[.val (.int p1), .val (.int p2), .val (.int p3), .val (.long q4), .second, .val (.int p5), .val (.int (0 : Int32)), .val (.int (own_a3 p2)), .val (.int ((0 : Int32) + (own_a3 p2))), .val (.ref b37_1), .unset, .unset, .unset, .unset, .unset, .unset, .unset] [])) _
  refine st3 _ ?_
  show Steps p.tables e below (T3.setTop (mkF m 26 #[.val (.int p1), .val (.int p2), .val (.int p3), .val (.long q4), .second, .val (.int p5), .val (.int (0 : Int32)), .val (.int (own_a3 p2)), .val (.int ((0 : Int32) + (own_a3 p2))), .val (.ref b37_1), .unset, .unset, .unset, .unset, .unset, .unset, .unset] [(.ref b3)])) _
  refine XS.dup X3.here hx rfl (hb hby at_26) rfl rfl ?_
  show Steps p.tables e below (T3.setTop (mkF m 27 #[.val (.int p1), .val (.int p2), .val (.int p3), .val (.long q4), .second, .val (.int p5), .val (.int (0 : Int32)), .val (.int (own_a3 p2)), .val (.int ((0 : Int32) + (own_a3 p2))), .val (.ref b37_1), .unset, .unset, .unset, .unset, .unset, .unset, .unset] [(.ref b3), (.ref b3)])) _
  refine XS.iload X3.here hx rfl (hb hby at_27) rfl ?_
  show Steps p.tables e below (T3.setTop (mkF m 29 #[.val (.int p1), .val (.int p2), .val (.int p3), .val (.long q4), .second, .val (.int p5), .val (.int (0 : Int32)), .val (.int (own_a3 p2)), .val (.int ((0 : Int32) + (own_a3 p2))), .val (.ref b37_1), .unset, .unset, .unset, .unset, .unset, .unset, .unset] [(.int (0 : Int32)), (.ref b3), (.ref b3)])) _
  refine XS.iload X3.here hx rfl (hb hby at_29) rfl ?_
  show Steps p.tables e below (T3.setTop (mkF m 31 #[.val (.int p1), .val (.int p2), .val (.int p3), .val (.long q4), .second, .val (.int p5), .val (.int (0 : Int32)), .val (.int (own_a3 p2)), .val (.int ((0 : Int32) + (own_a3 p2))), .val (.ref b37_1), .unset, .unset, .unset, .unset, .unset, .unset, .unset] [(.int ((0 : Int32) + (own_a3 p2))), (.int (0 : Int32)), (.ref b3), (.ref b3)])) _
  refine st8.trans ?_
  show Steps p.tables e below (T8.setTop (mkF m 34 #[.val (.int p1), .val (.int p2), .val (.int p3), .val (.long q4), .second, .val (.int p5), .val (.int (0 : Int32)), .val (.int (own_a3 p2)), .val (.int ((0 : Int32) + (own_a3 p2))), .val (.ref b37_1), .unset, .unset, .unset, .unset, .unset, .unset, .unset] [(.ref b3)])) _
  refine XS.astore X8.here hx rfl (hb hby at_34) rfl rfl (l' := #[.val (.int p1), .val (.int p2), .val (.int p3), .val (.long q4), .second, .val (.int p5), .val (.int (0 : Int32)), .val (.int (own_a3 p2)), .val (.int ((0 : Int32) + (own_a3 p2))), .val (.ref b37_1), .val (.ref b3), .unset, .unset, .unset, .unset, .unset, .unset]) rfl ?_
  show Steps p.tables e below (T8.setTop (mkF m 36 #[.val (.int p1), .val (.int p2), .val (.int p3), .val (.long q4), .second, .val (.int p5), .val (.int (0 : Int32)), .val (.int (own_a3 p2)), .val (.int ((0 : Int32) + (own_a3 p2))), .val (.ref b37_1), .val (.ref b3), .unset, .unset, .unset, .unset, .unset, .unset] [])) _
  refine XS.aload X8.here hx rfl (hb hby at_36) rfl rfl ?_
  show Steps p.tables e below (T8.setTop (mkF m 38 #[.val (.int p1), .val (.int p2), .val (.int p3), .val (.long q4), .second, .val (.int p5), .val (.int (0 : Int32)), .val (.int (own_a3 p2)), .val (.int ((0 : Int32) + (own_a3 p2))), .val (.ref b37_1), .val (.ref b3), .unset, .unset, .unset, .unset, .unset, .unset] [(.ref b3)])) _
  refine st10.trans ?_
  show Steps p.tables e below (T10.setTop (mkF m 41 #[.val (.int p1), .val (.int p2), .val (.int p3), .val (.long q4), .second, .val (.int p5), .val (.int (0 : Int32)), .val (.int (own_a3 p2)), .val (.int ((0 : Int32) + (own_a3 p2))), .val (.ref b37_1), .val (.ref b3), .unset, .unset, .unset, .unset, .unset, .unset] [(.int (0 : Int32))])) _
  refine XS.istore X10.here hx rfl (hb hby at_41) rfl (l' := #[.val (.int p1), .val (.int p2), .val (.int p3), .val (.long q4), .second, .val (.int p5), .val (.int (0 : Int32)), .val (.int (own_a3 p2)), .val (.int ((0 : Int32) + (own_a3 p2))), .val (.ref b37_1), .val (.ref b3), .val (.int (0 : Int32)), .unset, .unset, .unset, .unset, .unset]) rfl ?_
  show Steps p.tables e below (T10.setTop (mkF m 43 #[.val (.int p1), .val (.int p2), .val (.int p3), .val (.long q4), .second, .val (.int p5), .val (.int (0 : Int32)), .val (.int (own_a3 p2)), .val (.int ((0 : Int32) + (own_a3 p2))), .val (.ref b37_1), .val (.ref b3), .val (.int (0 : Int32)), .unset, .unset, .unset, .unset, .unset] [])) _
  refine XS.iload X10.here hx rfl (hb hby at_43) rfl ?_
  show Steps p.tables e below (T10.setTop (mkF m 45 #[.val (.int p1), .val (.int p2), .val (.int p3), .val (.long q4), .second, .val (.int p5), .val (.int (0 : Int32)), .val (.int (own_a3 p2)), .val (.int ((0 : Int32) + (own_a3 p2))), .val (.ref b37_1), .val (.ref b3), .val (.int (0 : Int32)), .unset, .unset, .unset, .unset, .unset] [(.int (0 : Int32))])) _
  refine XS.ifYes X10.here hx rfl (pc0 := 45) (pc' := 71) rfl (hb hby at_45) rfl ((if0 _ _).trans (teq (rfl : (0 : Int32) = (0 : Int32))).1) (by decide) (by decide) ?_
  show Steps p.tables e below (T10.setTop (mkF m 71 #[.val (.int p1), .val (.int p2), .val (.int p3), .val (.long q4), .second, .val (.int p5), .val (.int (0 : Int32)), .val (.int (own_a3 p2)), .val (.int ((0 : Int32) + (own_a3 p2))), .val (.ref b37_1), .val (.ref b3), .val (.int (0 : Int32)), .unset, .unset, .unset, .unset, .unset] [])) _
  refine XS.aload X10.here hx rfl (hb hby at_71) rfl rfl ?_
  show Steps p.tables e below (T10.setTop (mkF m 73 #[.val (.int p1), .val (.int p2), .val (.int p3), .val (.long q4), .second, .val (.int p5), .val (.int (0 : Int32)), .val (.int (own_a3 p2)), .val (.int ((0 : Int32) + (own_a3 p2))), .val (.ref b37_1), .val (.ref b3), .val (.int (0 : Int32)), .unset, .unset, .unset, .unset, .unset] [(.ref b3)])) _
  refine XS.aload X10.here hx rfl (hb hby at_73) rfl rfl ?_
  show Steps p.tables e below (T10.setTop (mkF m 75 #[.val (.int p1), .val (.int p2), .val (.int p3), .val (.long q4), .second, .val (.int p5), .val (.int (0 : Int32)), .val (.int (own_a3 p2)), .val (.int ((0 : Int32) + (own_a3 p2))), .val (.ref b37_1), .val (.ref b3), .val (.int (0 : Int32)), .unset, .unset, .unset, .unset, .unset] [(.ref b37_1), (.ref b3)])) _
  refine XS.iload X10.here hx rfl (hb hby at_75) rfl ?_
  show Steps p.tables e below (T10.setTop (mkF m 77 #[.val (.int p1), .val (.int p2), .val (.int p3), .val (.long q4), .second, .val (.int p5), .val (.int (0 : Int32)), .val (.int (own_a3 p2)), .val (.int ((0 : Int32) + (own_a3 p2))), .val (.ref b37_1), .val (.ref b3), .val (.int (0 : Int32)), .unset, .unset, .unset, .unset, .unset] [(.int (0 : Int32)), (.ref b37_1), (.ref b3)])) _
  refine st19.trans ?_
  show Steps p.tables e below (T19.setTop (mkF m 80 #[.val (.int p1), .val (.int p2), .val (.int p3), .val (.long q4), .second, .val (.int p5), .val (.int (0 : Int32)), .val (.int (own_a3 p2)), .val (.int ((0 : Int32) + (own_a3 p2))), .val (.ref b37_1), .val (.ref b3), .val (.int (0 : Int32)), .unset, .unset, .unset, .unset, .unset] [(.int (own_t0 q4)), (.ref b3)])) _
  refine XS.aload X19.here hx rfl (hb hby at_80) rfl rfl ?_
  show Steps p.tables e below (T19.setTop (mkF m 82 #[.val (.int p1), .val (.int p2), .val (.int p3), .val (.long q4), .second, .val (.int p5), .val (.int (0 : Int32)), .val (.int (own_a3 p2)), .val (.int ((0 : Int32) + (own_a3 p2))), .val (.ref b37_1), .val (.ref b3), .val (.int (0 : Int32)), .unset, .unset, .unset, .unset, .unset] [(.ref b37_1), (.int (own_t0 q4)), (.ref b3)])) _
  refine st20.trans ?_
  show Steps p.tables e below (T20.setTop (mkF m 85 #[.val (.int p1), .val (.int p2), .val (.int p3), .val (.long q4), .second, .val (.int p5), .val (.int (0 : Int32)), .val (.int (own_a3 p2)), .val (.int ((0 : Int32) + (own_a3 p2))), .val (.ref b37_1), .val (.ref b3), .val (.int (0 : Int32)), .unset, .unset, .unset, .unset, .unset] [(.int (0 : Int32))])) _
  refine XS.iload X20.here hx rfl (hb hby at_85) rfl ?_
  show Steps p.tables e below (T20.setTop (mkF m 87 #[.val (.int p1), .val (.int p2), .val (.int p3), .val (.long q4), .second, .val (.int p5), .val (.int (0 : Int32)), .val (.int (own_a3 p2)), .val (.int ((0 : Int32) + (own_a3 p2))), .val (.ref b37_1), .val (.ref b3), .val (.int (0 : Int32)), .unset, .unset, .unset, .unset, .unset] [(.int (0 : Int32)), (.int (0 : Int32))])) _
  refine XS.icmpNo X20.here hx rfl (hb hby at_87) rfl (teq (rfl : (0 : Int32) = (0 : Int32))).2 ?_
  show Steps p.tables e below (T20.setTop (mkF m 90 #[.val (.int p1), .val (.int p2), .val (.int p3), .val (.long q4), .second, .val (.int p5), .val (.int (0 : Int32)), .val (.int (own_a3 p2)), .val (.int ((0 : Int32) + (own_a3 p2))), .val (.ref b37_1), .val (.ref b3), .val (.int (0 : Int32)), .unset, .unset, .unset, .unset, .unset] [])) _
  refine XS.iconst X20.here hx rfl (hb hby at_90) ?_
  show Steps p.tables e below (T20.setTop (mkF m 91 #[.val (.int p1), .val (.int p2), .val (.int p3), .val (.long q4), .second, .val (.int p5), .val (.int (0 : Int32)), .val (.int (own_a3 p2)), .val (.int ((0 : Int32) + (own_a3 p2))), .val (.ref b37_1), .val (.ref b3), .val (.int (0 : Int32)), .unset, .unset, .unset, .unset, .unset] [(.int (1 : Int32))])) _
  refine XS.goto X20.here hx rfl (pc0 := 91) (pc' := 95) rfl (hb hby at_91) (by decide) (by decide) ?_
  show Steps p.tables e below (T20.setTop (mkF m 95 #[.val (.int p1), .val (.int p2), .val (.int p3), .val (.long q4), .second, .val (.int p5), .val (.int (0 : Int32)), .val (.int (own_a3 p2)), .val (.int ((0 : Int32) + (own_a3 p2))), .val (.ref b37_1), .val (.ref b3), .val (.int (0 : Int32)), .unset, .unset, .unset, .unset, .unset] [(.int (1 : Int32))])) _
  refine XS.istore X20.here hx rfl (hb hby at_95) rfl (l' := #[.val (.int p1), .val (.int p2), .val (.int p3), .val (.long q4), .second, .val (.int p5), .val (.int (0 : Int32)), .val (.int (own_a3 p2)), .val (.int ((0 : Int32) + (own_a3 p2))), .val (.ref b37_1), .val (.ref b3), .val (.int (0 : Int32)), .val (.int (1 : Int32)), .unset, .unset, .unset, .unset]) rfl ?_
  show Steps p.tables e below (T20.setTop (mkF m 97 #[.val (.int p1), .val (.int p2), .val (.int p3), .val (.long q4), .second, .val (.int p5), .val (.int (0 : Int32)), .val (.int (own_a3 p2)), .val (.int ((0 : Int32) + (own_a3 p2))), .val (.ref b37_1), .val (.ref b3), .val (.int (0 : Int32)), .val (.int (1 : Int32)), .unset, .unset, .unset, .unset] [])) _
  exact hst₂
theorem own_eflaw1 (m : MethodId) (p1 : Int32) (p2 : Int32) (p3 : Int32) (q4 : Int64) (p5 : Int32) : entryFrame m #[(.int p1), (.int p2), (.int p3), (.long q4), (.int p5)] maxLocals = mkF m 0 #[.val (.int p1), .val (.int p2), .val (.int p3), .val (.long q4), .second, .val (.int p5), .unset, .unset, .unset, .unset, .unset, .unset, .unset, .unset, .unset, .unset, .unset] [] := by first | (simp [entryFrame, mkF, argsToLocals, Value.category, maxLocals]; done) | rfl
set_option maxRecDepth 65536 in
set_option maxHeartbeats 40000000 in
theorem own_law1 (l : Launch) (Z : State) (a0 : Array Value) (hw : ∀ d ∈ tables_1, d.before a0 Z = true) (ws : List Jvm.Cond) (G1 : Int32) (G3 : Value) (gl : own_Glob Z G1 G3) (p1 : Int32) (p2 : Int32) (p3 : Int32) (q4 : Int64) (p5 : Int32) (h0 : Heap) (n0 : Nat) (Z0 : n0 ≤ h0.size) (X00 : Old Z n0 h0) (hs : own_a3 p1 = 1) (hl : ¬ (own_a3 p2 = (0 : Int32))) :
    MetFree l x (head1 (Jvm.Cond.code x code maxLocals ret :: ws) room_1) (fun a U => a = #[(.int p1), (.int p2), (.int p3), (.long q4), (.int p5)] ∧ Z.Warmed39 U.vm ∧ U.heap = h0) (fun _ _ _ _ _ => True) (fun _ U o U' => ∃ v L, o = .returned v ∧ own_Qlaw h0 n0 v U'.heap L ∧ FrameEnd U o U' L room_1.cells room_1.slots) := by
  refine MetFree.of_bodySF (plainFor_of_name own_pn1) hisR ?_
  intro p e s m args below meth c s₁ Bd hml0 hP hK
  obtain ⟨rfl, hZ, hh⟩ := hP
  obtain ⟨O_CS, P_CS, O_SI, P_SI⟩ := id gl
  have hx := Bd.exec
  have hby := Bd.bytes
  have hml : c.maxLocals = 17 := hml0
  have hown : s.vm.findClass "com/example/incorpus/incorpus/SpanIsEmptyPinLaw" = some m.cls := findClass_of_methodNamed Bd.named
  have hnm := (name_of_methodNamed Bd.named Bd.method).1
  have X0 : Stand p l e room_1 s m #[(.int p1), (.int p2), (.int p3), (.long q4), (.int p5)] below meth c s₁ [] 0 0 := Stand.of_body Bd
  have e0 : s₁.heap = h0 := by rw [← hh, Bd.state]; rfl
  have N0 := Fr.nil n0
  have pre0 : ∀ t, Steps p.tables e below (s₁.setTop (mkF m 0 #[.val (.int p1), .val (.int p2), .val (.int p3), .val (.long q4), .second, .val (.int p5), .unset, .unset, .unset, .unset, .unset, .unset, .unset, .unset, .unset, .unset, .unset] [])) t → Steps p.tables e below (s₁.setTop (entryFrame m #[(.int p1), (.int p2), (.int p3), (.long q4), (.int p5)] maxLocals)) t := fun t k => castTop (own_eflaw1 m p1 p2 p3 q4 p5) k
  obtain ⟨_, _, ⟨T1, L1, k1, n1⟩, -, X1, ⟨Lc1, hQ1, l1, y1, z1⟩, st1⟩ := Jvm.LawKit.callS X0 hx (y := (⟨"com/example/incorpus/incorpus/SpanIsEmptyPinLaw", "text", "(J)Ljava/lang/String;"⟩ : MethodName)) hown (mvT hZ (hw _ (List.mem_of_getElem? (i := 0) rfl))) (mvT hZ (hw _ (List.mem_of_getElem? (i := 1) rfl))) (mvT hZ (hw _ (List.mem_of_getElem? (i := 2) rfl))) (mvT hZ (hw _ (List.mem_of_getElem? (i := 3) rfl))) (by decide) (backOf (W := 0) (own_rm_text l Z a0 hw [] G1 G3 gl q4 h0 n0 Z0 X00 ) hZ (hw _ (List.mem_of_getElem? (i := 3) rfl)) (hw _ (List.mem_of_getElem? (i := 2) rfl)) (by decide) (by decide)) (g := (mkF m 18 #[.val (.int p1), .val (.int p2), .val (.int p3), .val (.long q4), .second, .val (.int p5), .val (.int (1 : Int32)), .val (.int (own_a3 p2)), .val (.int ((1 : Int32) + (own_a3 p2))), .unset, .unset, .unset, .unset, .unset, .unset, .unset, .unset] [(.long q4)])) rfl (by rw [hml]; rfl) (argsL := [(.long q4)]) (rest := []) (lenOf own_pd8 rfl) rfl (by show 2 * 0 + _ ≤ _; exact Nat.le_of_eq rfl) (hb hby at_18) (fun _ _ => ⟨rfl, e0, (by decide : 0 + 3 ≤ _), (by decide : 0 + 20 ≤ _)⟩)
  dsimp only [Pt.U, Pt.locs, Pt.cells, Pt.slots] at X1 l1 y1 z1 st1 hQ1
  subst y1 z1
  obtain ⟨b37_1, t55_1, kb55_1, rfl, Nq1, Kq1, f1_0, f1_1, f1_2, f1_3, f1_4, f1_5, f1_6⟩ := hQ1
  have N1 : Fr n0 L1 := by rw [l1]; exact Fr.app N0 Nq1
  have Kp2 : Keep h0 T1.heap [] := (Keep.refl h0 []).trans Kq1 all0
  obtain ⟨T3, h3, X3, e3, E3, A3, D3, U3, st3⟩ := newO X1 hx hZ hown (hw _ (List.mem_of_getElem? (i := 35) rfl)) (hw _ (List.mem_of_getElem? (i := 36) rfl)) (hw _ (List.mem_of_getElem? (i := 37) rfl)) rfl (g := (mkF m 23 #[.val (.int p1), .val (.int p2), .val (.int p3), .val (.long q4), .second, .val (.int p5), .val (.int (1 : Int32)), .val (.int (own_a3 p2)), .val (.int ((1 : Int32) + (own_a3 p2))), .val (.ref b37_1), .unset, .unset, .unset, .unset, .unset, .unset, .unset] [])) rfl (hb hby at_23) (by decide) (by decide)
  obtain ⟨b3, g3⟩ : ∃ z, z = T1.heap.size := ⟨_, rfl⟩
  rw [← g3] at A3 D3 U3 st3
  have Kp4 : Keep h0 h3 [] := Kp2.ext E3
  have Fh5 : Fld Z h3 b3 "com/example/incorpus/incorpus/Span" "start" "I" (.int (0 : Int32)) := (D3 (Or.inr (hw _ (List.mem_of_getElem? (i := 48) rfl))) (ty := .int) (by decide))
  have gh6 : n0 ≤ b3 := Nat.le_trans (Nat.le_trans Z0 Kp2.1) (Nat.le_of_eq g3.symm)
  have Fh7 : Fld Z h3 b3 "com/example/incorpus/incorpus/Span" "end" "I" (.int (0 : Int32)) := (D3 (Or.inr (hw _ (List.mem_of_getElem? (i := 50) rfl))) (ty := .int) (by decide))
  obtain ⟨_, _, ⟨T8, L8, k8, n8⟩, -, X8, ⟨Lc8, hQ8, l8, y8, z8⟩, st8⟩ := X3.specialBack hx (y := (⟨"com/example/incorpus/incorpus/Span", "<init>", "(II)V"⟩ : MethodName)) rfl hown (mvT hZ (hw _ (List.mem_of_getElem? (i := 38) rfl))) (mvT hZ (hw _ (List.mem_of_getElem? (i := 39) rfl))) (mvT hZ (hw _ (List.mem_of_getElem? (i := 40) rfl))) (by decide) (backOf (W := 1) (own_rm_span l Z a0 hw [] G1 G3 gl b3 (1 : Int32) ((1 : Int32) + (own_a3 p2)) ((.int (0 : Int32))) ((.int (0 : Int32))) h3 n0 (Nat.le_trans Z0 Kp4.1) A3 Fh5 gh6 Fh7 (by decide : ¬ ((1 : Int32) < (0 : Int32))) ((own_e1 p2 hl).2.1 : ¬ (((1 : Int32) + (own_a3 p2)) < (1 : Int32)))) hZ (hw _ (List.mem_of_getElem? (i := 40) rfl)) (hw _ (List.mem_of_getElem? (i := 37) rfl)) (by decide) (by decide)) (g := (mkF m 31 #[.val (.int p1), .val (.int p2), .val (.int p3), .val (.long q4), .second, .val (.int p5), .val (.int (1 : Int32)), .val (.int (own_a3 p2)), .val (.int ((1 : Int32) + (own_a3 p2))), .val (.ref b37_1), .unset, .unset, .unset, .unset, .unset, .unset, .unset] [(.int ((1 : Int32) + (own_a3 p2))), (.int (1 : Int32)), (.ref b3), (.ref b3)])) rfl (by rw [hml]; rfl) (Steps.refl _) (a := b3) (argsL := [(.int (1 : Int32)), (.int ((1 : Int32) + (own_a3 p2)))]) (rest := [(.ref b3)]) (lenOf own_pd6 rfl) rfl (by show 2 * 0 + _ ≤ _; exact Nat.le_of_eq rfl) (hb hby at_31) (fun _ _ => ⟨rfl, e3, (by decide : 4 + 0 ≤ _), (by decide : 22 + 0 ≤ _)⟩)
  dsimp only [Pt.U, Pt.locs, Pt.cells, Pt.slots] at X8 l8 y8 z8 st8 hQ8
  subst y8 z8
  obtain ⟨rfl, Nq8, Kq8, f8_0, f8_1, f8_2⟩ := hQ8
  have N8 : Fr n0 L8 := by rw [l8]; exact Fr.app N1 Nq8
  have Kp9 : Keep h0 T8.heap [] := Kp4.trans Kq8 (allS (Or.inr (Nat.le_trans Kp2.1 (Nat.le_of_eq g3.symm))) all0)
  obtain ⟨cq10, kq10, q10a, q10b, q10c⟩ := isOf hZ rfl f8_0
  obtain ⟨_, _, ⟨T10, L10, k10, n10⟩, -, X10, ⟨Lc10, hQ10, l10, y10, z10⟩, st10⟩ := X8.virtualBack hx (y := (⟨"com/example/incorpus/incorpus/Span", "isEmpty", "()Z"⟩ : MethodName)) (z := (⟨"com/example/incorpus/incorpus/Span", "isEmpty", "()Z"⟩ : MethodName)) hown (mvT hZ (hw _ (List.mem_of_getElem? (i := 51) rfl))) (mvT hZ (hw _ (List.mem_of_getElem? (i := 52) rfl))) (notFace_of_selects (args := #[]) (mvT hZ (hw _ (List.mem_of_getElem? (i := 54) rfl)))) (mvT hZ (hw _ (List.mem_of_getElem? (i := 54) rfl))) (mvT hZ (hw _ (List.mem_of_getElem? (i := 53) rfl))) (by decide) (backOf (W := 0) (own_rm_emp0 l Z a0 hw [] G1 G3 gl b3 (1 : Int32) ((1 : Int32) + (own_a3 p2)) T8.heap n0 (Nat.le_trans Z0 Kp9.1) f8_1 f8_2 ((own_e1 p2 hl).2.2 : ¬ ((1 : Int32) = ((1 : Int32) + (own_a3 p2))))) hZ (hw _ (List.mem_of_getElem? (i := 55) rfl)) (hw _ (List.mem_of_getElem? (i := 37) rfl)) (by decide) (by decide)) q10a q10c (g := (mkF m 38 #[.val (.int p1), .val (.int p2), .val (.int p3), .val (.long q4), .second, .val (.int p5), .val (.int (1 : Int32)), .val (.int (own_a3 p2)), .val (.int ((1 : Int32) + (own_a3 p2))), .val (.ref b37_1), .val (.ref b3), .unset, .unset, .unset, .unset, .unset, .unset] [(.ref b3)])) rfl (by rw [hml]; rfl) (Steps.refl _) (argsL := []) (rest := []) (lenOf own_pd7 rfl) rfl (by show 2 * 0 + _ ≤ _; exact Nat.le_of_eq rfl) (hb hby at_38) (fun _ _ => ⟨rfl, rfl, (by decide : 4 + 0 ≤ _), (by decide : 22 + 0 ≤ _)⟩)
  dsimp only [Pt.U, Pt.locs, Pt.cells, Pt.slots] at X10 l10 y10 z10 st10 hQ10
  subst y10 z10
  obtain ⟨rfl, Nq10, e10⟩ := hQ10
  have N10 : Fr n0 L10 := by rw [l10]; exact Fr.app N8 Nq10
  have Eh11 : Exa Z T8.heap b37_1 "java/lang/String" := ((f1_1.ext E3).keep Kq8)
  have Fh12 : Fld Z T8.heap b37_1 "java/lang/String" "value" "[B" (.ref t55_1) := ((f1_2.ext E3).keep Kq8 (ninS (Nat.ne_of_lt (Nat.lt_of_lt_of_le f1_1.lt (Nat.le_of_eq g3.symm))) nin0))
  have Fh13 : Fld Z T8.heap b37_1 "java/lang/String" "coder" "B" (.int (0 : Int32)) := ((f1_3.ext E3).keep Kq8 (ninS (Nat.ne_of_lt (Nat.lt_of_lt_of_le f1_1.lt (Nat.le_of_eq g3.symm))) nin0))
  have Vh14 : Arv Z T8.heap t55_1 kb55_1 .byte (8 : Int32) ((([(own_t0 q4), (own_t1 q4 (8 : Int32)), (own_t1 q4 (16 : Int32)), (own_t1 q4 (24 : Int32)), (own_t1 q4 (32 : Int32)), (own_t1 q4 (40 : Int32)), (own_t1 q4 (48 : Int32)), (own_t1 q4 (56 : Int32))] : List Int32).map (fun c => c.toInt8.toInt32)).map Value.int) (.int (0 : Int32)) := ((f1_5.ext E3).keep Kq8 (ninS (Nat.ne_of_lt (Nat.lt_of_lt_of_le f1_5.lt (Nat.le_of_eq g3.symm))) nin0))
  have cdh15 : StrChars.Road.CodA ([(own_t0 q4), (own_t1 q4 (8 : Int32)), (own_t1 q4 (16 : Int32)), (own_t1 q4 (24 : Int32)), (own_t1 q4 (32 : Int32)), (own_t1 q4 (40 : Int32)), (own_t1 q4 (48 : Int32)), (own_t1 q4 (56 : Int32))] : List Int32) 0 (8 : Int32) ((([(own_t0 q4), (own_t1 q4 (8 : Int32)), (own_t1 q4 (16 : Int32)), (own_t1 q4 (24 : Int32)), (own_t1 q4 (32 : Int32)), (own_t1 q4 (40 : Int32)), (own_t1 q4 (48 : Int32)), (own_t1 q4 (56 : Int32))] : List Int32).map (fun c => c.toInt8.toInt32)).map Value.int) := (StrChars.Road.codOf (cs := ([(own_t0 q4), (own_t1 q4 (8 : Int32)), (own_t1 q4 (16 : Int32)), (own_t1 q4 (24 : Int32)), (own_t1 q4 (32 : Int32)), (own_t1 q4 (40 : Int32)), (own_t1 q4 (48 : Int32)), (own_t1 q4 (56 : Int32))] : List Int32)) (n := 8) rfl (fun c hc => (f1_6 c hc).2))
  have hws_wordsChN : ∀ d ∈ StrChars.Road.wordsChN, d.before a0 Z = true := fun d hd => hw d (own_hws_wordsChN d hd)
  have Old16 : Old Z n0 T1.heap := X00.keep Kq1 all0
  have Old17 : Old Z n0 h3 := Old16.ext E3
  have Old18 : Old Z n0 T8.heap := Old17.keep Kq8 (allS gh6 all0)
  obtain ⟨cq19, kq19, q19a, q19b, q19c⟩ := isOf hZ e10 Eh11
  obtain ⟨_, _, ⟨T19, L19, k19, n19⟩, -, X19, ⟨Lc19, hQ19, l19, y19, z19⟩, st19⟩ := X10.virtualBack hx (y := (⟨"java/lang/String", "charAt", "(I)C"⟩ : MethodName)) (z := (⟨"java/lang/String", "charAt", "(I)C"⟩ : MethodName)) hown (mvT hZ (hw _ (List.mem_of_getElem? (i := 56) rfl))) (mvT hZ (hw _ (List.mem_of_getElem? (i := 57) rfl))) (notFace_of_selects (args := #[]) (mvT hZ (hw _ (List.mem_of_getElem? (i := 59) rfl)))) (mvT hZ (hw _ (List.mem_of_getElem? (i := 59) rfl))) (mvT hZ (hw _ (List.mem_of_getElem? (i := 58) rfl))) (by decide) (StrChars.Road.chN (W := 1) hZ hws_wordsChN (kI := 4) (hw _ (List.mem_of_getElem? (i := 7) rfl)) Eh11 Fh12 Fh13 Vh14 cdh15 (own_up _ f1_6) (O_CS.ext Old18.2) P_CS (O_SI.ext Old18.2) P_SI (Nat.le_of_ble_eq_true rfl) (i := 1) (Nat.le_of_ble_eq_true rfl) (j := (1 : Int32)) rfl (by decide) (by decide)) q19a q19c (g := (mkF m 77 #[.val (.int p1), .val (.int p2), .val (.int p3), .val (.long q4), .second, .val (.int p5), .val (.int (1 : Int32)), .val (.int (own_a3 p2)), .val (.int ((1 : Int32) + (own_a3 p2))), .val (.ref b37_1), .val (.ref b3), .val (.int (0 : Int32)), .unset, .unset, .unset, .unset, .unset] [(.int (1 : Int32)), (.ref b37_1), (.ref b3)])) rfl (by rw [hml]; rfl) (Steps.refl _) (argsL := [(.int (1 : Int32))]) (rest := [(.ref b3)]) (lenOf own_pd5 rfl) rfl (by show 2 * 0 + _ ≤ _; exact Nat.le_of_eq rfl) (hb hby at_77) (fun _ _ => ⟨rfl, e10, (by decide : 4 + 0 ≤ _), (by decide : 22 + 0 ≤ _)⟩)
  dsimp only [Pt.U, Pt.locs, Pt.cells, Pt.slots] at X19 l19 y19 z19 st19 hQ19
  subst y19 z19
  obtain ⟨rfl, rfl, e19⟩ := hQ19
  have N19 : Fr n0 L19 := by rw [l19]; exact Fr.app N10 (Fr.nil n0)
  obtain ⟨cq20, kq20, q20a, q20b, q20c⟩ := isOf hZ e19 f8_0
  obtain ⟨_, _, ⟨T20, L20, k20, n20⟩, -, X20, ⟨Lc20, hQ20, l20, y20, z20⟩, st20⟩ := X19.virtualBack hx (y := (⟨"com/example/incorpus/incorpus/Span", "indexOf", "(CLjava/lang/String;)I"⟩ : MethodName)) (z := (⟨"com/example/incorpus/incorpus/Span", "indexOf", "(CLjava/lang/String;)I"⟩ : MethodName)) hown (mvT hZ (hw _ (List.mem_of_getElem? (i := 78) rfl))) (mvT hZ (hw _ (List.mem_of_getElem? (i := 79) rfl))) (notFace_of_selects (args := #[]) (mvT hZ (hw _ (List.mem_of_getElem? (i := 81) rfl)))) (mvT hZ (hw _ (List.mem_of_getElem? (i := 81) rfl))) (mvT hZ (hw _ (List.mem_of_getElem? (i := 80) rfl))) (by decide) (backOf (W := 0) (own_rm_ix1 l Z a0 hw [] G1 G3 gl b3 (own_t1 q4 (8 : Int32)) b37_1 (own_t0 q4) (own_t1 q4 (8 : Int32)) (own_t1 q4 (16 : Int32)) (own_t1 q4 (24 : Int32)) (own_t1 q4 (32 : Int32)) (own_t1 q4 (40 : Int32)) (own_t1 q4 (48 : Int32)) (own_t1 q4 (56 : Int32)) t55_1 (kb55_1) ((1 : Int32) + (own_a3 p2)) T8.heap n0 (Nat.le_trans Z0 Kp9.1) Old18 Eh11 Fh12 Fh13 Vh14 f1_6 f8_1 f8_2 ((own_e1 p2 hl).1 : (1 : Int32) < ((1 : Int32) + (own_a3 p2))) (rfl : (own_t1 q4 (8 : Int32)) = (own_t1 q4 (8 : Int32)))) hZ (hw _ (List.mem_of_getElem? (i := 82) rfl)) (hw _ (List.mem_of_getElem? (i := 37) rfl)) (by decide) (by decide)) q20a q20c (g := (mkF m 82 #[.val (.int p1), .val (.int p2), .val (.int p3), .val (.long q4), .second, .val (.int p5), .val (.int (1 : Int32)), .val (.int (own_a3 p2)), .val (.int ((1 : Int32) + (own_a3 p2))), .val (.ref b37_1), .val (.ref b3), .val (.int (0 : Int32)), .unset, .unset, .unset, .unset, .unset] [(.ref b37_1), (.int (own_t1 q4 (8 : Int32))), (.ref b3)])) rfl (by rw [hml]; rfl) (Steps.refl _) (argsL := [(.int (own_t1 q4 (8 : Int32))), (.ref b37_1)]) (rest := []) (lenOf own_pd9 rfl) rfl (by show 2 * 0 + _ ≤ _; exact Nat.le_of_eq rfl) (hb hby at_82) (fun _ _ => ⟨rfl, e19, (by decide : 4 + 0 ≤ _), (by decide : 22 + 0 ≤ _)⟩)
  dsimp only [Pt.U, Pt.locs, Pt.cells, Pt.slots] at X20 l20 y20 z20 st20 hQ20
  subst y20 z20
  obtain ⟨rfl, Nq20, e20⟩ := hQ20
  have N20 : Fr n0 L20 := by rw [l20]; exact Fr.app N19 Nq20
  obtain ⟨s₂, o₂, hst₂, hrest₂⟩ := own_k0 hw G1 G3 gl p1 p2 p3 q4 p5 (1 : Int32) (own_a3 p2) ((1 : Int32) + (own_a3 p2)) b37_1 b3 (Nat.le_trans Z0 Kp9.1) Old18 hl X20 N20 hx hZ hby hml hown e20 Bd.returns Bd.notSynchronized
  refine ⟨s₂, o₂, pre0 _ ?_, hrest₂⟩
  show Steps p.tables e below (s₁.setTop (mkF m 0 #[.val (.int p1), .val (.int p2), .val (.int p3), .val (.long q4), .second, .val (.int p5), .unset, .unset, .unset, .unset, .unset, .unset, .unset, .unset, .unset, .unset, .unset] [])) _
  refine XS.iloadN X0.here hx rfl (hb hby at_0) rfl ?_
  show Steps p.tables e below (s₁.setTop (mkF m 1 #[.val (.int p1), .val (.int p2), .val (.int p3), .val (.long q4), .second, .val (.int p5), .unset, .unset, .unset, .unset, .unset, .unset, .unset, .unset, .unset, .unset, .unset] [(.int p1)])) _
  refine XS.iconst X0.here hx rfl (hb hby at_1) ?_
  show Steps p.tables e below (s₁.setTop (mkF m 2 #[.val (.int p1), .val (.int p2), .val (.int p3), .val (.long q4), .second, .val (.int p5), .unset, .unset, .unset, .unset, .unset, .unset, .unset, .unset, .unset, .unset, .unset] [(.int (3 : Int32)), (.int p1)])) _
  refine XS.iand X0.here hx rfl (hb hby at_2) rfl ?_
  show Steps p.tables e below (s₁.setTop (mkF m 3 #[.val (.int p1), .val (.int p2), .val (.int p3), .val (.long q4), .second, .val (.int p5), .unset, .unset, .unset, .unset, .unset, .unset, .unset, .unset, .unset, .unset, .unset] [(.int (own_a3 p1))])) _
  rw [hs]
  show Steps p.tables e below (s₁.setTop (mkF m 3 #[.val (.int p1), .val (.int p2), .val (.int p3), .val (.long q4), .second, .val (.int p5), .unset, .unset, .unset, .unset, .unset, .unset, .unset, .unset, .unset, .unset, .unset] [(.int (1 : Int32))])) _
  refine XS.istore X0.here hx rfl (hb hby at_3) rfl (l' := #[.val (.int p1), .val (.int p2), .val (.int p3), .val (.long q4), .second, .val (.int p5), .val (.int (1 : Int32)), .unset, .unset, .unset, .unset, .unset, .unset, .unset, .unset, .unset, .unset]) rfl ?_
  show Steps p.tables e below (s₁.setTop (mkF m 5 #[.val (.int p1), .val (.int p2), .val (.int p3), .val (.long q4), .second, .val (.int p5), .val (.int (1 : Int32)), .unset, .unset, .unset, .unset, .unset, .unset, .unset, .unset, .unset, .unset] [])) _
  refine XS.iloadN X0.here hx rfl (hb hby at_5) rfl ?_
  show Steps p.tables e below (s₁.setTop (mkF m 6 #[.val (.int p1), .val (.int p2), .val (.int p3), .val (.long q4), .second, .val (.int p5), .val (.int (1 : Int32)), .unset, .unset, .unset, .unset, .unset, .unset, .unset, .unset, .unset, .unset] [(.int p2)])) _
  refine XS.iconst X0.here hx rfl (hb hby at_6) ?_
  show Steps p.tables e below (s₁.setTop (mkF m 7 #[.val (.int p1), .val (.int p2), .val (.int p3), .val (.long q4), .second, .val (.int p5), .val (.int (1 : Int32)), .unset, .unset, .unset, .unset, .unset, .unset, .unset, .unset, .unset, .unset] [(.int (3 : Int32)), (.int p2)])) _
  refine XS.iand X0.here hx rfl (hb hby at_7) rfl ?_
  show Steps p.tables e below (s₁.setTop (mkF m 8 #[.val (.int p1), .val (.int p2), .val (.int p3), .val (.long q4), .second, .val (.int p5), .val (.int (1 : Int32)), .unset, .unset, .unset, .unset, .unset, .unset, .unset, .unset, .unset, .unset] [(.int (own_a3 p2))])) _
  refine XS.istore X0.here hx rfl (hb hby at_8) rfl (l' := #[.val (.int p1), .val (.int p2), .val (.int p3), .val (.long q4), .second, .val (.int p5), .val (.int (1 : Int32)), .val (.int (own_a3 p2)), .unset, .unset, .unset, .unset, .unset, .unset, .unset, .unset, .unset]) rfl ?_
  show Steps p.tables e below (s₁.setTop (mkF m 10 #[.val (.int p1), .val (.int p2), .val (.int p3), .val (.long q4), .second, .val (.int p5), .val (.int (1 : Int32)), .val (.int (own_a3 p2)), .unset, .unset, .unset, .unset, .unset, .unset, .unset, .unset, .unset] [])) _
  refine XS.iload X0.here hx rfl (hb hby at_10) rfl ?_
  show Steps p.tables e below (s₁.setTop (mkF m 12 #[.val (.int p1), .val (.int p2), .val (.int p3), .val (.long q4), .second, .val (.int p5), .val (.int (1 : Int32)), .val (.int (own_a3 p2)), .unset, .unset, .unset, .unset, .unset, .unset, .unset, .unset, .unset] [(.int (1 : Int32))])) _
  refine XS.iload X0.here hx rfl (hb hby at_12) rfl ?_
  show Steps p.tables e below (s₁.setTop (mkF m 14 #[.val (.int p1), .val (.int p2), .val (.int p3), .val (.long q4), .second, .val (.int p5), .val (.int (1 : Int32)), .val (.int (own_a3 p2)), .unset, .unset, .unset, .unset, .unset, .unset, .unset, .unset, .unset] [(.int (own_a3 p2)), (.int (1 : Int32))])) _
  refine XS.iadd X0.here hx rfl (hb hby at_14) rfl ?_
  show Steps p.tables e below (s₁.setTop (mkF m 15 #[.val (.int p1), .val (.int p2), .val (.int p3), .val (.long q4), .second, .val (.int p5), .val (.int (1 : Int32)), .val (.int (own_a3 p2)), .unset, .unset, .unset, .unset, .unset, .unset, .unset, .unset, .unset] [(.int ((1 : Int32) + (own_a3 p2)))])) _
  refine XS.istore X0.here hx rfl (hb hby at_15) rfl (l' := #[.val (.int p1), .val (.int p2), .val (.int p3), .val (.long q4), .second, .val (.int p5), .val (.int (1 : Int32)), .val (.int (own_a3 p2)), .val (.int ((1 : Int32) + (own_a3 p2))), .unset, .unset, .unset, .unset, .unset, .unset, .unset, .unset]) rfl ?_
  show Steps p.tables e below (s₁.setTop (mkF m 17 #[.val (.int p1), .val (.int p2), .val (.int p3), .val (.long q4), .second, .val (.int p5), .val (.int (1 : Int32)), .val (.int (own_a3 p2)), .val (.int ((1 : Int32) + (own_a3 p2))), .unset, .unset, .unset, .unset, .unset, .unset, .unset, .unset] [])) _
  refine XS.lloadN X0.here hx rfl (hb hby at_17) rfl ?_
  show Steps p.tables e below (s₁.setTop (mkF m 18 #[.val (.int p1), .val (.int p2), .val (.int p3), .val (.long q4), .second, .val (.int p5), .val (.int (1 : Int32)), .val (.int (own_a3 p2)), .val (.int ((1 : Int32) + (own_a3 p2))), .unset, .unset, .unset, .unset, .unset, .unset, .unset, .unset] [(.long q4)])) _
  refine st1 _ ?_
  show Steps p.tables e below (T1.setTop (mkF m 21 #[.val (.int p1), .val (.int p2), .val (.int p3), .val (.long q4), .second, .val (.int p5), .val (.int (1 : Int32)), .val (.int (own_a3 p2)), .val (.int ((1 : Int32) + (own_a3 p2))), .unset, .unset, .unset, .unset, .unset, .unset, .unset, .unset] [(.ref b37_1)])) _
  refine XS.astore X1.here hx rfl (hb hby at_21) rfl rfl (l' := #[.val (.int p1), .val (.int p2), .val (.int p3), .val (.long q4), .second, .val (.int p5), .val (.int (1 : Int32)), .val (.int (own_a3 p2)), .val (.int ((1 : Int32) + (own_a3 p2))), .val (.ref b37_1), .unset, .unset, .unset, .unset, .unset, .unset, .unset]) rfl ?_
  show Steps p.tables e below (T1.setTop (mkF m 23 #[.val (.int p1), .val (.int p2), .val (.int p3), .val (.long q4), .second, .val (.int p5), .val (.int (1 : Int32)), .val (.int (own_a3 p2)), .val (.int ((1 : Int32) + (own_a3 p2))), .val (.ref b37_1), .unset, .unset, .unset, .unset, .unset, .unset, .unset] [])) _
  refine st3 _ ?_
  show Steps p.tables e below (T3.setTop (mkF m 26 #[.val (.int p1), .val (.int p2), .val (.int p3), .val (.long q4), .second, .val (.int p5), .val (.int (1 : Int32)), .val (.int (own_a3 p2)), .val (.int ((1 : Int32) + (own_a3 p2))), .val (.ref b37_1), .unset, .unset, .unset, .unset, .unset, .unset, .unset] [(.ref b3)])) _
  refine XS.dup X3.here hx rfl (hb hby at_26) rfl rfl ?_
  show Steps p.tables e below (T3.setTop (mkF m 27 #[.val (.int p1), .val (.int p2), .val (.int p3), .val (.long q4), .second, .val (.int p5), .val (.int (1 : Int32)), .val (.int (own_a3 p2)), .val (.int ((1 : Int32) + (own_a3 p2))), .val (.ref b37_1), .unset, .unset, .unset, .unset, .unset, .unset, .unset] [(.ref b3), (.ref b3)])) _
  refine XS.iload X3.here hx rfl (hb hby at_27) rfl ?_
  show Steps p.tables e below (T3.setTop (mkF m 29 #[.val (.int p1), .val (.int p2), .val (.int p3), .val (.long q4), .second, .val (.int p5), .val (.int (1 : Int32)), .val (.int (own_a3 p2)), .val (.int ((1 : Int32) + (own_a3 p2))), .val (.ref b37_1), .unset, .unset, .unset, .unset, .unset, .unset, .unset] [(.int (1 : Int32)), (.ref b3), (.ref b3)])) _
  refine XS.iload X3.here hx rfl (hb hby at_29) rfl ?_
  show Steps p.tables e below (T3.setTop (mkF m 31 #[.val (.int p1), .val (.int p2), .val (.int p3), .val (.long q4), .second, .val (.int p5), .val (.int (1 : Int32)), .val (.int (own_a3 p2)), .val (.int ((1 : Int32) + (own_a3 p2))), .val (.ref b37_1), .unset, .unset, .unset, .unset, .unset, .unset, .unset] [(.int ((1 : Int32) + (own_a3 p2))), (.int (1 : Int32)), (.ref b3), (.ref b3)])) _
  refine st8.trans ?_
  show Steps p.tables e below (T8.setTop (mkF m 34 #[.val (.int p1), .val (.int p2), .val (.int p3), .val (.long q4), .second, .val (.int p5), .val (.int (1 : Int32)), .val (.int (own_a3 p2)), .val (.int ((1 : Int32) + (own_a3 p2))), .val (.ref b37_1), .unset, .unset, .unset, .unset, .unset, .unset, .unset] [(.ref b3)])) _
  refine XS.astore X8.here hx rfl (hb hby at_34) rfl rfl (l' := #[.val (.int p1), .val (.int p2), .val (.int p3), .val (.long q4), .second, .val (.int p5), .val (.int (1 : Int32)), .val (.int (own_a3 p2)), .val (.int ((1 : Int32) + (own_a3 p2))), .val (.ref b37_1), .val (.ref b3), .unset, .unset, .unset, .unset, .unset, .unset]) rfl ?_
  show Steps p.tables e below (T8.setTop (mkF m 36 #[.val (.int p1), .val (.int p2), .val (.int p3), .val (.long q4), .second, .val (.int p5), .val (.int (1 : Int32)), .val (.int (own_a3 p2)), .val (.int ((1 : Int32) + (own_a3 p2))), .val (.ref b37_1), .val (.ref b3), .unset, .unset, .unset, .unset, .unset, .unset] [])) _
  refine XS.aload X8.here hx rfl (hb hby at_36) rfl rfl ?_
  show Steps p.tables e below (T8.setTop (mkF m 38 #[.val (.int p1), .val (.int p2), .val (.int p3), .val (.long q4), .second, .val (.int p5), .val (.int (1 : Int32)), .val (.int (own_a3 p2)), .val (.int ((1 : Int32) + (own_a3 p2))), .val (.ref b37_1), .val (.ref b3), .unset, .unset, .unset, .unset, .unset, .unset] [(.ref b3)])) _
  refine st10.trans ?_
  show Steps p.tables e below (T10.setTop (mkF m 41 #[.val (.int p1), .val (.int p2), .val (.int p3), .val (.long q4), .second, .val (.int p5), .val (.int (1 : Int32)), .val (.int (own_a3 p2)), .val (.int ((1 : Int32) + (own_a3 p2))), .val (.ref b37_1), .val (.ref b3), .unset, .unset, .unset, .unset, .unset, .unset] [(.int (0 : Int32))])) _
  refine XS.istore X10.here hx rfl (hb hby at_41) rfl (l' := #[.val (.int p1), .val (.int p2), .val (.int p3), .val (.long q4), .second, .val (.int p5), .val (.int (1 : Int32)), .val (.int (own_a3 p2)), .val (.int ((1 : Int32) + (own_a3 p2))), .val (.ref b37_1), .val (.ref b3), .val (.int (0 : Int32)), .unset, .unset, .unset, .unset, .unset]) rfl ?_
  show Steps p.tables e below (T10.setTop (mkF m 43 #[.val (.int p1), .val (.int p2), .val (.int p3), .val (.long q4), .second, .val (.int p5), .val (.int (1 : Int32)), .val (.int (own_a3 p2)), .val (.int ((1 : Int32) + (own_a3 p2))), .val (.ref b37_1), .val (.ref b3), .val (.int (0 : Int32)), .unset, .unset, .unset, .unset, .unset] [])) _
  refine XS.iload X10.here hx rfl (hb hby at_43) rfl ?_
  show Steps p.tables e below (T10.setTop (mkF m 45 #[.val (.int p1), .val (.int p2), .val (.int p3), .val (.long q4), .second, .val (.int p5), .val (.int (1 : Int32)), .val (.int (own_a3 p2)), .val (.int ((1 : Int32) + (own_a3 p2))), .val (.ref b37_1), .val (.ref b3), .val (.int (0 : Int32)), .unset, .unset, .unset, .unset, .unset] [(.int (0 : Int32))])) _
  refine XS.ifYes X10.here hx rfl (pc0 := 45) (pc' := 71) rfl (hb hby at_45) rfl ((if0 _ _).trans (teq (rfl : (0 : Int32) = (0 : Int32))).1) (by decide) (by decide) ?_
  show Steps p.tables e below (T10.setTop (mkF m 71 #[.val (.int p1), .val (.int p2), .val (.int p3), .val (.long q4), .second, .val (.int p5), .val (.int (1 : Int32)), .val (.int (own_a3 p2)), .val (.int ((1 : Int32) + (own_a3 p2))), .val (.ref b37_1), .val (.ref b3), .val (.int (0 : Int32)), .unset, .unset, .unset, .unset, .unset] [])) _
  refine XS.aload X10.here hx rfl (hb hby at_71) rfl rfl ?_
  show Steps p.tables e below (T10.setTop (mkF m 73 #[.val (.int p1), .val (.int p2), .val (.int p3), .val (.long q4), .second, .val (.int p5), .val (.int (1 : Int32)), .val (.int (own_a3 p2)), .val (.int ((1 : Int32) + (own_a3 p2))), .val (.ref b37_1), .val (.ref b3), .val (.int (0 : Int32)), .unset, .unset, .unset, .unset, .unset] [(.ref b3)])) _
  refine XS.aload X10.here hx rfl (hb hby at_73) rfl rfl ?_
  show Steps p.tables e below (T10.setTop (mkF m 75 #[.val (.int p1), .val (.int p2), .val (.int p3), .val (.long q4), .second, .val (.int p5), .val (.int (1 : Int32)), .val (.int (own_a3 p2)), .val (.int ((1 : Int32) + (own_a3 p2))), .val (.ref b37_1), .val (.ref b3), .val (.int (0 : Int32)), .unset, .unset, .unset, .unset, .unset] [(.ref b37_1), (.ref b3)])) _
  refine XS.iload X10.here hx rfl (hb hby at_75) rfl ?_
  show Steps p.tables e below (T10.setTop (mkF m 77 #[.val (.int p1), .val (.int p2), .val (.int p3), .val (.long q4), .second, .val (.int p5), .val (.int (1 : Int32)), .val (.int (own_a3 p2)), .val (.int ((1 : Int32) + (own_a3 p2))), .val (.ref b37_1), .val (.ref b3), .val (.int (0 : Int32)), .unset, .unset, .unset, .unset, .unset] [(.int (1 : Int32)), (.ref b37_1), (.ref b3)])) _
  refine st19.trans ?_
  show Steps p.tables e below (T19.setTop (mkF m 80 #[.val (.int p1), .val (.int p2), .val (.int p3), .val (.long q4), .second, .val (.int p5), .val (.int (1 : Int32)), .val (.int (own_a3 p2)), .val (.int ((1 : Int32) + (own_a3 p2))), .val (.ref b37_1), .val (.ref b3), .val (.int (0 : Int32)), .unset, .unset, .unset, .unset, .unset] [(.int (own_t1 q4 (8 : Int32))), (.ref b3)])) _
  refine XS.aload X19.here hx rfl (hb hby at_80) rfl rfl ?_
  show Steps p.tables e below (T19.setTop (mkF m 82 #[.val (.int p1), .val (.int p2), .val (.int p3), .val (.long q4), .second, .val (.int p5), .val (.int (1 : Int32)), .val (.int (own_a3 p2)), .val (.int ((1 : Int32) + (own_a3 p2))), .val (.ref b37_1), .val (.ref b3), .val (.int (0 : Int32)), .unset, .unset, .unset, .unset, .unset] [(.ref b37_1), (.int (own_t1 q4 (8 : Int32))), (.ref b3)])) _
  refine st20.trans ?_
  show Steps p.tables e below (T20.setTop (mkF m 85 #[.val (.int p1), .val (.int p2), .val (.int p3), .val (.long q4), .second, .val (.int p5), .val (.int (1 : Int32)), .val (.int (own_a3 p2)), .val (.int ((1 : Int32) + (own_a3 p2))), .val (.ref b37_1), .val (.ref b3), .val (.int (0 : Int32)), .unset, .unset, .unset, .unset, .unset] [(.int (1 : Int32))])) _
  refine XS.iload X20.here hx rfl (hb hby at_85) rfl ?_
  show Steps p.tables e below (T20.setTop (mkF m 87 #[.val (.int p1), .val (.int p2), .val (.int p3), .val (.long q4), .second, .val (.int p5), .val (.int (1 : Int32)), .val (.int (own_a3 p2)), .val (.int ((1 : Int32) + (own_a3 p2))), .val (.ref b37_1), .val (.ref b3), .val (.int (0 : Int32)), .unset, .unset, .unset, .unset, .unset] [(.int (1 : Int32)), (.int (1 : Int32))])) _
  refine XS.icmpNo X20.here hx rfl (hb hby at_87) rfl (teq (rfl : (1 : Int32) = (1 : Int32))).2 ?_
  show Steps p.tables e below (T20.setTop (mkF m 90 #[.val (.int p1), .val (.int p2), .val (.int p3), .val (.long q4), .second, .val (.int p5), .val (.int (1 : Int32)), .val (.int (own_a3 p2)), .val (.int ((1 : Int32) + (own_a3 p2))), .val (.ref b37_1), .val (.ref b3), .val (.int (0 : Int32)), .unset, .unset, .unset, .unset, .unset] [])) _
  refine XS.iconst X20.here hx rfl (hb hby at_90) ?_
  show Steps p.tables e below (T20.setTop (mkF m 91 #[.val (.int p1), .val (.int p2), .val (.int p3), .val (.long q4), .second, .val (.int p5), .val (.int (1 : Int32)), .val (.int (own_a3 p2)), .val (.int ((1 : Int32) + (own_a3 p2))), .val (.ref b37_1), .val (.ref b3), .val (.int (0 : Int32)), .unset, .unset, .unset, .unset, .unset] [(.int (1 : Int32))])) _
  refine XS.goto X20.here hx rfl (pc0 := 91) (pc' := 95) rfl (hb hby at_91) (by decide) (by decide) ?_
  show Steps p.tables e below (T20.setTop (mkF m 95 #[.val (.int p1), .val (.int p2), .val (.int p3), .val (.long q4), .second, .val (.int p5), .val (.int (1 : Int32)), .val (.int (own_a3 p2)), .val (.int ((1 : Int32) + (own_a3 p2))), .val (.ref b37_1), .val (.ref b3), .val (.int (0 : Int32)), .unset, .unset, .unset, .unset, .unset] [(.int (1 : Int32))])) _
  refine XS.istore X20.here hx rfl (hb hby at_95) rfl (l' := #[.val (.int p1), .val (.int p2), .val (.int p3), .val (.long q4), .second, .val (.int p5), .val (.int (1 : Int32)), .val (.int (own_a3 p2)), .val (.int ((1 : Int32) + (own_a3 p2))), .val (.ref b37_1), .val (.ref b3), .val (.int (0 : Int32)), .val (.int (1 : Int32)), .unset, .unset, .unset, .unset]) rfl ?_
  show Steps p.tables e below (T20.setTop (mkF m 97 #[.val (.int p1), .val (.int p2), .val (.int p3), .val (.long q4), .second, .val (.int p5), .val (.int (1 : Int32)), .val (.int (own_a3 p2)), .val (.int ((1 : Int32) + (own_a3 p2))), .val (.ref b37_1), .val (.ref b3), .val (.int (0 : Int32)), .val (.int (1 : Int32)), .unset, .unset, .unset, .unset] [])) _
  exact hst₂
theorem own_eflaw2 (m : MethodId) (p1 : Int32) (p2 : Int32) (p3 : Int32) (q4 : Int64) (p5 : Int32) : entryFrame m #[(.int p1), (.int p2), (.int p3), (.long q4), (.int p5)] maxLocals = mkF m 0 #[.val (.int p1), .val (.int p2), .val (.int p3), .val (.long q4), .second, .val (.int p5), .unset, .unset, .unset, .unset, .unset, .unset, .unset, .unset, .unset, .unset, .unset] [] := by first | (simp [entryFrame, mkF, argsToLocals, Value.category, maxLocals]; done) | rfl
set_option maxRecDepth 65536 in
set_option maxHeartbeats 40000000 in
theorem own_law2 (l : Launch) (Z : State) (a0 : Array Value) (hw : ∀ d ∈ tables_1, d.before a0 Z = true) (ws : List Jvm.Cond) (G1 : Int32) (G3 : Value) (gl : own_Glob Z G1 G3) (p1 : Int32) (p2 : Int32) (p3 : Int32) (q4 : Int64) (p5 : Int32) (h0 : Heap) (n0 : Nat) (Z0 : n0 ≤ h0.size) (X00 : Old Z n0 h0) (hs : own_a3 p1 = 2) (hl : ¬ (own_a3 p2 = (0 : Int32))) :
    MetFree l x (head1 (Jvm.Cond.code x code maxLocals ret :: ws) room_1) (fun a U => a = #[(.int p1), (.int p2), (.int p3), (.long q4), (.int p5)] ∧ Z.Warmed39 U.vm ∧ U.heap = h0) (fun _ _ _ _ _ => True) (fun _ U o U' => ∃ v L, o = .returned v ∧ own_Qlaw h0 n0 v U'.heap L ∧ FrameEnd U o U' L room_1.cells room_1.slots) := by
  refine MetFree.of_bodySF (plainFor_of_name own_pn1) hisR ?_
  intro p e s m args below meth c s₁ Bd hml0 hP hK
  obtain ⟨rfl, hZ, hh⟩ := hP
  obtain ⟨O_CS, P_CS, O_SI, P_SI⟩ := id gl
  have hx := Bd.exec
  have hby := Bd.bytes
  have hml : c.maxLocals = 17 := hml0
  have hown : s.vm.findClass "com/example/incorpus/incorpus/SpanIsEmptyPinLaw" = some m.cls := findClass_of_methodNamed Bd.named
  have hnm := (name_of_methodNamed Bd.named Bd.method).1
  have X0 : Stand p l e room_1 s m #[(.int p1), (.int p2), (.int p3), (.long q4), (.int p5)] below meth c s₁ [] 0 0 := Stand.of_body Bd
  have e0 : s₁.heap = h0 := by rw [← hh, Bd.state]; rfl
  have N0 := Fr.nil n0
  have pre0 : ∀ t, Steps p.tables e below (s₁.setTop (mkF m 0 #[.val (.int p1), .val (.int p2), .val (.int p3), .val (.long q4), .second, .val (.int p5), .unset, .unset, .unset, .unset, .unset, .unset, .unset, .unset, .unset, .unset, .unset] [])) t → Steps p.tables e below (s₁.setTop (entryFrame m #[(.int p1), (.int p2), (.int p3), (.long q4), (.int p5)] maxLocals)) t := fun t k => castTop (own_eflaw2 m p1 p2 p3 q4 p5) k
  obtain ⟨_, _, ⟨T1, L1, k1, n1⟩, -, X1, ⟨Lc1, hQ1, l1, y1, z1⟩, st1⟩ := Jvm.LawKit.callS X0 hx (y := (⟨"com/example/incorpus/incorpus/SpanIsEmptyPinLaw", "text", "(J)Ljava/lang/String;"⟩ : MethodName)) hown (mvT hZ (hw _ (List.mem_of_getElem? (i := 0) rfl))) (mvT hZ (hw _ (List.mem_of_getElem? (i := 1) rfl))) (mvT hZ (hw _ (List.mem_of_getElem? (i := 2) rfl))) (mvT hZ (hw _ (List.mem_of_getElem? (i := 3) rfl))) (by decide) (backOf (W := 0) (own_rm_text l Z a0 hw [] G1 G3 gl q4 h0 n0 Z0 X00 ) hZ (hw _ (List.mem_of_getElem? (i := 3) rfl)) (hw _ (List.mem_of_getElem? (i := 2) rfl)) (by decide) (by decide)) (g := (mkF m 18 #[.val (.int p1), .val (.int p2), .val (.int p3), .val (.long q4), .second, .val (.int p5), .val (.int (2 : Int32)), .val (.int (own_a3 p2)), .val (.int ((2 : Int32) + (own_a3 p2))), .unset, .unset, .unset, .unset, .unset, .unset, .unset, .unset] [(.long q4)])) rfl (by rw [hml]; rfl) (argsL := [(.long q4)]) (rest := []) (lenOf own_pd8 rfl) rfl (by show 2 * 0 + _ ≤ _; exact Nat.le_of_eq rfl) (hb hby at_18) (fun _ _ => ⟨rfl, e0, (by decide : 0 + 3 ≤ _), (by decide : 0 + 20 ≤ _)⟩)
  dsimp only [Pt.U, Pt.locs, Pt.cells, Pt.slots] at X1 l1 y1 z1 st1 hQ1
  subst y1 z1
  obtain ⟨b37_1, t55_1, kb55_1, rfl, Nq1, Kq1, f1_0, f1_1, f1_2, f1_3, f1_4, f1_5, f1_6⟩ := hQ1
  have N1 : Fr n0 L1 := by rw [l1]; exact Fr.app N0 Nq1
  have Kp2 : Keep h0 T1.heap [] := (Keep.refl h0 []).trans Kq1 all0
  obtain ⟨T3, h3, X3, e3, E3, A3, D3, U3, st3⟩ := newO X1 hx hZ hown (hw _ (List.mem_of_getElem? (i := 35) rfl)) (hw _ (List.mem_of_getElem? (i := 36) rfl)) (hw _ (List.mem_of_getElem? (i := 37) rfl)) rfl (g := (mkF m 23 #[.val (.int p1), .val (.int p2), .val (.int p3), .val (.long q4), .second, .val (.int p5), .val (.int (2 : Int32)), .val (.int (own_a3 p2)), .val (.int ((2 : Int32) + (own_a3 p2))), .val (.ref b37_1), .unset, .unset, .unset, .unset, .unset, .unset, .unset] [])) rfl (hb hby at_23) (by decide) (by decide)
  obtain ⟨b3, g3⟩ : ∃ z, z = T1.heap.size := ⟨_, rfl⟩
  rw [← g3] at A3 D3 U3 st3
  have Kp4 : Keep h0 h3 [] := Kp2.ext E3
  have Fh5 : Fld Z h3 b3 "com/example/incorpus/incorpus/Span" "start" "I" (.int (0 : Int32)) := (D3 (Or.inr (hw _ (List.mem_of_getElem? (i := 48) rfl))) (ty := .int) (by decide))
  have gh6 : n0 ≤ b3 := Nat.le_trans (Nat.le_trans Z0 Kp2.1) (Nat.le_of_eq g3.symm)
  have Fh7 : Fld Z h3 b3 "com/example/incorpus/incorpus/Span" "end" "I" (.int (0 : Int32)) := (D3 (Or.inr (hw _ (List.mem_of_getElem? (i := 50) rfl))) (ty := .int) (by decide))
  obtain ⟨_, _, ⟨T8, L8, k8, n8⟩, -, X8, ⟨Lc8, hQ8, l8, y8, z8⟩, st8⟩ := X3.specialBack hx (y := (⟨"com/example/incorpus/incorpus/Span", "<init>", "(II)V"⟩ : MethodName)) rfl hown (mvT hZ (hw _ (List.mem_of_getElem? (i := 38) rfl))) (mvT hZ (hw _ (List.mem_of_getElem? (i := 39) rfl))) (mvT hZ (hw _ (List.mem_of_getElem? (i := 40) rfl))) (by decide) (backOf (W := 1) (own_rm_span l Z a0 hw [] G1 G3 gl b3 (2 : Int32) ((2 : Int32) + (own_a3 p2)) ((.int (0 : Int32))) ((.int (0 : Int32))) h3 n0 (Nat.le_trans Z0 Kp4.1) A3 Fh5 gh6 Fh7 (by decide : ¬ ((2 : Int32) < (0 : Int32))) ((own_e2 p2 hl).2.1 : ¬ (((2 : Int32) + (own_a3 p2)) < (2 : Int32)))) hZ (hw _ (List.mem_of_getElem? (i := 40) rfl)) (hw _ (List.mem_of_getElem? (i := 37) rfl)) (by decide) (by decide)) (g := (mkF m 31 #[.val (.int p1), .val (.int p2), .val (.int p3), .val (.long q4), .second, .val (.int p5), .val (.int (2 : Int32)), .val (.int (own_a3 p2)), .val (.int ((2 : Int32) + (own_a3 p2))), .val (.ref b37_1), .unset, .unset, .unset, .unset, .unset, .unset, .unset] [(.int ((2 : Int32) + (own_a3 p2))), (.int (2 : Int32)), (.ref b3), (.ref b3)])) rfl (by rw [hml]; rfl) (Steps.refl _) (a := b3) (argsL := [(.int (2 : Int32)), (.int ((2 : Int32) + (own_a3 p2)))]) (rest := [(.ref b3)]) (lenOf own_pd6 rfl) rfl (by show 2 * 0 + _ ≤ _; exact Nat.le_of_eq rfl) (hb hby at_31) (fun _ _ => ⟨rfl, e3, (by decide : 4 + 0 ≤ _), (by decide : 22 + 0 ≤ _)⟩)
  dsimp only [Pt.U, Pt.locs, Pt.cells, Pt.slots] at X8 l8 y8 z8 st8 hQ8
  subst y8 z8
  obtain ⟨rfl, Nq8, Kq8, f8_0, f8_1, f8_2⟩ := hQ8
  have N8 : Fr n0 L8 := by rw [l8]; exact Fr.app N1 Nq8
  have Kp9 : Keep h0 T8.heap [] := Kp4.trans Kq8 (allS (Or.inr (Nat.le_trans Kp2.1 (Nat.le_of_eq g3.symm))) all0)
  obtain ⟨cq10, kq10, q10a, q10b, q10c⟩ := isOf hZ rfl f8_0
  obtain ⟨_, _, ⟨T10, L10, k10, n10⟩, -, X10, ⟨Lc10, hQ10, l10, y10, z10⟩, st10⟩ := X8.virtualBack hx (y := (⟨"com/example/incorpus/incorpus/Span", "isEmpty", "()Z"⟩ : MethodName)) (z := (⟨"com/example/incorpus/incorpus/Span", "isEmpty", "()Z"⟩ : MethodName)) hown (mvT hZ (hw _ (List.mem_of_getElem? (i := 51) rfl))) (mvT hZ (hw _ (List.mem_of_getElem? (i := 52) rfl))) (notFace_of_selects (args := #[]) (mvT hZ (hw _ (List.mem_of_getElem? (i := 54) rfl)))) (mvT hZ (hw _ (List.mem_of_getElem? (i := 54) rfl))) (mvT hZ (hw _ (List.mem_of_getElem? (i := 53) rfl))) (by decide) (backOf (W := 0) (own_rm_emp0 l Z a0 hw [] G1 G3 gl b3 (2 : Int32) ((2 : Int32) + (own_a3 p2)) T8.heap n0 (Nat.le_trans Z0 Kp9.1) f8_1 f8_2 ((own_e2 p2 hl).2.2 : ¬ ((2 : Int32) = ((2 : Int32) + (own_a3 p2))))) hZ (hw _ (List.mem_of_getElem? (i := 55) rfl)) (hw _ (List.mem_of_getElem? (i := 37) rfl)) (by decide) (by decide)) q10a q10c (g := (mkF m 38 #[.val (.int p1), .val (.int p2), .val (.int p3), .val (.long q4), .second, .val (.int p5), .val (.int (2 : Int32)), .val (.int (own_a3 p2)), .val (.int ((2 : Int32) + (own_a3 p2))), .val (.ref b37_1), .val (.ref b3), .unset, .unset, .unset, .unset, .unset, .unset] [(.ref b3)])) rfl (by rw [hml]; rfl) (Steps.refl _) (argsL := []) (rest := []) (lenOf own_pd7 rfl) rfl (by show 2 * 0 + _ ≤ _; exact Nat.le_of_eq rfl) (hb hby at_38) (fun _ _ => ⟨rfl, rfl, (by decide : 4 + 0 ≤ _), (by decide : 22 + 0 ≤ _)⟩)
  dsimp only [Pt.U, Pt.locs, Pt.cells, Pt.slots] at X10 l10 y10 z10 st10 hQ10
  subst y10 z10
  obtain ⟨rfl, Nq10, e10⟩ := hQ10
  have N10 : Fr n0 L10 := by rw [l10]; exact Fr.app N8 Nq10
  have Eh11 : Exa Z T8.heap b37_1 "java/lang/String" := ((f1_1.ext E3).keep Kq8)
  have Fh12 : Fld Z T8.heap b37_1 "java/lang/String" "value" "[B" (.ref t55_1) := ((f1_2.ext E3).keep Kq8 (ninS (Nat.ne_of_lt (Nat.lt_of_lt_of_le f1_1.lt (Nat.le_of_eq g3.symm))) nin0))
  have Fh13 : Fld Z T8.heap b37_1 "java/lang/String" "coder" "B" (.int (0 : Int32)) := ((f1_3.ext E3).keep Kq8 (ninS (Nat.ne_of_lt (Nat.lt_of_lt_of_le f1_1.lt (Nat.le_of_eq g3.symm))) nin0))
  have Vh14 : Arv Z T8.heap t55_1 kb55_1 .byte (8 : Int32) ((([(own_t0 q4), (own_t1 q4 (8 : Int32)), (own_t1 q4 (16 : Int32)), (own_t1 q4 (24 : Int32)), (own_t1 q4 (32 : Int32)), (own_t1 q4 (40 : Int32)), (own_t1 q4 (48 : Int32)), (own_t1 q4 (56 : Int32))] : List Int32).map (fun c => c.toInt8.toInt32)).map Value.int) (.int (0 : Int32)) := ((f1_5.ext E3).keep Kq8 (ninS (Nat.ne_of_lt (Nat.lt_of_lt_of_le f1_5.lt (Nat.le_of_eq g3.symm))) nin0))
  have cdh15 : StrChars.Road.CodA ([(own_t0 q4), (own_t1 q4 (8 : Int32)), (own_t1 q4 (16 : Int32)), (own_t1 q4 (24 : Int32)), (own_t1 q4 (32 : Int32)), (own_t1 q4 (40 : Int32)), (own_t1 q4 (48 : Int32)), (own_t1 q4 (56 : Int32))] : List Int32) 0 (8 : Int32) ((([(own_t0 q4), (own_t1 q4 (8 : Int32)), (own_t1 q4 (16 : Int32)), (own_t1 q4 (24 : Int32)), (own_t1 q4 (32 : Int32)), (own_t1 q4 (40 : Int32)), (own_t1 q4 (48 : Int32)), (own_t1 q4 (56 : Int32))] : List Int32).map (fun c => c.toInt8.toInt32)).map Value.int) := (StrChars.Road.codOf (cs := ([(own_t0 q4), (own_t1 q4 (8 : Int32)), (own_t1 q4 (16 : Int32)), (own_t1 q4 (24 : Int32)), (own_t1 q4 (32 : Int32)), (own_t1 q4 (40 : Int32)), (own_t1 q4 (48 : Int32)), (own_t1 q4 (56 : Int32))] : List Int32)) (n := 8) rfl (fun c hc => (f1_6 c hc).2))
  have hws_wordsChN : ∀ d ∈ StrChars.Road.wordsChN, d.before a0 Z = true := fun d hd => hw d (own_hws_wordsChN d hd)
  have Old16 : Old Z n0 T1.heap := X00.keep Kq1 all0
  have Old17 : Old Z n0 h3 := Old16.ext E3
  have Old18 : Old Z n0 T8.heap := Old17.keep Kq8 (allS gh6 all0)
  obtain ⟨cq19, kq19, q19a, q19b, q19c⟩ := isOf hZ e10 Eh11
  obtain ⟨_, _, ⟨T19, L19, k19, n19⟩, -, X19, ⟨Lc19, hQ19, l19, y19, z19⟩, st19⟩ := X10.virtualBack hx (y := (⟨"java/lang/String", "charAt", "(I)C"⟩ : MethodName)) (z := (⟨"java/lang/String", "charAt", "(I)C"⟩ : MethodName)) hown (mvT hZ (hw _ (List.mem_of_getElem? (i := 56) rfl))) (mvT hZ (hw _ (List.mem_of_getElem? (i := 57) rfl))) (notFace_of_selects (args := #[]) (mvT hZ (hw _ (List.mem_of_getElem? (i := 59) rfl)))) (mvT hZ (hw _ (List.mem_of_getElem? (i := 59) rfl))) (mvT hZ (hw _ (List.mem_of_getElem? (i := 58) rfl))) (by decide) (StrChars.Road.chN (W := 1) hZ hws_wordsChN (kI := 4) (hw _ (List.mem_of_getElem? (i := 7) rfl)) Eh11 Fh12 Fh13 Vh14 cdh15 (own_up _ f1_6) (O_CS.ext Old18.2) P_CS (O_SI.ext Old18.2) P_SI (Nat.le_of_ble_eq_true rfl) (i := 2) (Nat.le_of_ble_eq_true rfl) (j := (2 : Int32)) rfl (by decide) (by decide)) q19a q19c (g := (mkF m 77 #[.val (.int p1), .val (.int p2), .val (.int p3), .val (.long q4), .second, .val (.int p5), .val (.int (2 : Int32)), .val (.int (own_a3 p2)), .val (.int ((2 : Int32) + (own_a3 p2))), .val (.ref b37_1), .val (.ref b3), .val (.int (0 : Int32)), .unset, .unset, .unset, .unset, .unset] [(.int (2 : Int32)), (.ref b37_1), (.ref b3)])) rfl (by rw [hml]; rfl) (Steps.refl _) (argsL := [(.int (2 : Int32))]) (rest := [(.ref b3)]) (lenOf own_pd5 rfl) rfl (by show 2 * 0 + _ ≤ _; exact Nat.le_of_eq rfl) (hb hby at_77) (fun _ _ => ⟨rfl, e10, (by decide : 4 + 0 ≤ _), (by decide : 22 + 0 ≤ _)⟩)
  dsimp only [Pt.U, Pt.locs, Pt.cells, Pt.slots] at X19 l19 y19 z19 st19 hQ19
  subst y19 z19
  obtain ⟨rfl, rfl, e19⟩ := hQ19
  have N19 : Fr n0 L19 := by rw [l19]; exact Fr.app N10 (Fr.nil n0)
  obtain ⟨cq20, kq20, q20a, q20b, q20c⟩ := isOf hZ e19 f8_0
  obtain ⟨_, _, ⟨T20, L20, k20, n20⟩, -, X20, ⟨Lc20, hQ20, l20, y20, z20⟩, st20⟩ := X19.virtualBack hx (y := (⟨"com/example/incorpus/incorpus/Span", "indexOf", "(CLjava/lang/String;)I"⟩ : MethodName)) (z := (⟨"com/example/incorpus/incorpus/Span", "indexOf", "(CLjava/lang/String;)I"⟩ : MethodName)) hown (mvT hZ (hw _ (List.mem_of_getElem? (i := 78) rfl))) (mvT hZ (hw _ (List.mem_of_getElem? (i := 79) rfl))) (notFace_of_selects (args := #[]) (mvT hZ (hw _ (List.mem_of_getElem? (i := 81) rfl)))) (mvT hZ (hw _ (List.mem_of_getElem? (i := 81) rfl))) (mvT hZ (hw _ (List.mem_of_getElem? (i := 80) rfl))) (by decide) (backOf (W := 0) (own_rm_ix2 l Z a0 hw [] G1 G3 gl b3 (own_t1 q4 (16 : Int32)) b37_1 (own_t0 q4) (own_t1 q4 (8 : Int32)) (own_t1 q4 (16 : Int32)) (own_t1 q4 (24 : Int32)) (own_t1 q4 (32 : Int32)) (own_t1 q4 (40 : Int32)) (own_t1 q4 (48 : Int32)) (own_t1 q4 (56 : Int32)) t55_1 (kb55_1) ((2 : Int32) + (own_a3 p2)) T8.heap n0 (Nat.le_trans Z0 Kp9.1) Old18 Eh11 Fh12 Fh13 Vh14 f1_6 f8_1 f8_2 ((own_e2 p2 hl).1 : (2 : Int32) < ((2 : Int32) + (own_a3 p2))) (rfl : (own_t1 q4 (16 : Int32)) = (own_t1 q4 (16 : Int32)))) hZ (hw _ (List.mem_of_getElem? (i := 82) rfl)) (hw _ (List.mem_of_getElem? (i := 37) rfl)) (by decide) (by decide)) q20a q20c (g := (mkF m 82 #[.val (.int p1), .val (.int p2), .val (.int p3), .val (.long q4), .second, .val (.int p5), .val (.int (2 : Int32)), .val (.int (own_a3 p2)), .val (.int ((2 : Int32) + (own_a3 p2))), .val (.ref b37_1), .val (.ref b3), .val (.int (0 : Int32)), .unset, .unset, .unset, .unset, .unset] [(.ref b37_1), (.int (own_t1 q4 (16 : Int32))), (.ref b3)])) rfl (by rw [hml]; rfl) (Steps.refl _) (argsL := [(.int (own_t1 q4 (16 : Int32))), (.ref b37_1)]) (rest := []) (lenOf own_pd9 rfl) rfl (by show 2 * 0 + _ ≤ _; exact Nat.le_of_eq rfl) (hb hby at_82) (fun _ _ => ⟨rfl, e19, (by decide : 4 + 0 ≤ _), (by decide : 22 + 0 ≤ _)⟩)
  dsimp only [Pt.U, Pt.locs, Pt.cells, Pt.slots] at X20 l20 y20 z20 st20 hQ20
  subst y20 z20
  obtain ⟨rfl, Nq20, e20⟩ := hQ20
  have N20 : Fr n0 L20 := by rw [l20]; exact Fr.app N19 Nq20
  obtain ⟨s₂, o₂, hst₂, hrest₂⟩ := own_k0 hw G1 G3 gl p1 p2 p3 q4 p5 (2 : Int32) (own_a3 p2) ((2 : Int32) + (own_a3 p2)) b37_1 b3 (Nat.le_trans Z0 Kp9.1) Old18 hl X20 N20 hx hZ hby hml hown e20 Bd.returns Bd.notSynchronized
  refine ⟨s₂, o₂, pre0 _ ?_, hrest₂⟩
  show Steps p.tables e below (s₁.setTop (mkF m 0 #[.val (.int p1), .val (.int p2), .val (.int p3), .val (.long q4), .second, .val (.int p5), .unset, .unset, .unset, .unset, .unset, .unset, .unset, .unset, .unset, .unset, .unset] [])) _
  refine XS.iloadN X0.here hx rfl (hb hby at_0) rfl ?_
  show Steps p.tables e below (s₁.setTop (mkF m 1 #[.val (.int p1), .val (.int p2), .val (.int p3), .val (.long q4), .second, .val (.int p5), .unset, .unset, .unset, .unset, .unset, .unset, .unset, .unset, .unset, .unset, .unset] [(.int p1)])) _
  refine XS.iconst X0.here hx rfl (hb hby at_1) ?_
  show Steps p.tables e below (s₁.setTop (mkF m 2 #[.val (.int p1), .val (.int p2), .val (.int p3), .val (.long q4), .second, .val (.int p5), .unset, .unset, .unset, .unset, .unset, .unset, .unset, .unset, .unset, .unset, .unset] [(.int (3 : Int32)), (.int p1)])) _
  refine XS.iand X0.here hx rfl (hb hby at_2) rfl ?_
  show Steps p.tables e below (s₁.setTop (mkF m 3 #[.val (.int p1), .val (.int p2), .val (.int p3), .val (.long q4), .second, .val (.int p5), .unset, .unset, .unset, .unset, .unset, .unset, .unset, .unset, .unset, .unset, .unset] [(.int (own_a3 p1))])) _
  rw [hs]
  show Steps p.tables e below (s₁.setTop (mkF m 3 #[.val (.int p1), .val (.int p2), .val (.int p3), .val (.long q4), .second, .val (.int p5), .unset, .unset, .unset, .unset, .unset, .unset, .unset, .unset, .unset, .unset, .unset] [(.int (2 : Int32))])) _
  refine XS.istore X0.here hx rfl (hb hby at_3) rfl (l' := #[.val (.int p1), .val (.int p2), .val (.int p3), .val (.long q4), .second, .val (.int p5), .val (.int (2 : Int32)), .unset, .unset, .unset, .unset, .unset, .unset, .unset, .unset, .unset, .unset]) rfl ?_
  show Steps p.tables e below (s₁.setTop (mkF m 5 #[.val (.int p1), .val (.int p2), .val (.int p3), .val (.long q4), .second, .val (.int p5), .val (.int (2 : Int32)), .unset, .unset, .unset, .unset, .unset, .unset, .unset, .unset, .unset, .unset] [])) _
  refine XS.iloadN X0.here hx rfl (hb hby at_5) rfl ?_
  show Steps p.tables e below (s₁.setTop (mkF m 6 #[.val (.int p1), .val (.int p2), .val (.int p3), .val (.long q4), .second, .val (.int p5), .val (.int (2 : Int32)), .unset, .unset, .unset, .unset, .unset, .unset, .unset, .unset, .unset, .unset] [(.int p2)])) _
  refine XS.iconst X0.here hx rfl (hb hby at_6) ?_
  show Steps p.tables e below (s₁.setTop (mkF m 7 #[.val (.int p1), .val (.int p2), .val (.int p3), .val (.long q4), .second, .val (.int p5), .val (.int (2 : Int32)), .unset, .unset, .unset, .unset, .unset, .unset, .unset, .unset, .unset, .unset] [(.int (3 : Int32)), (.int p2)])) _
  refine XS.iand X0.here hx rfl (hb hby at_7) rfl ?_
  show Steps p.tables e below (s₁.setTop (mkF m 8 #[.val (.int p1), .val (.int p2), .val (.int p3), .val (.long q4), .second, .val (.int p5), .val (.int (2 : Int32)), .unset, .unset, .unset, .unset, .unset, .unset, .unset, .unset, .unset, .unset] [(.int (own_a3 p2))])) _
  refine XS.istore X0.here hx rfl (hb hby at_8) rfl (l' := #[.val (.int p1), .val (.int p2), .val (.int p3), .val (.long q4), .second, .val (.int p5), .val (.int (2 : Int32)), .val (.int (own_a3 p2)), .unset, .unset, .unset, .unset, .unset, .unset, .unset, .unset, .unset]) rfl ?_
  show Steps p.tables e below (s₁.setTop (mkF m 10 #[.val (.int p1), .val (.int p2), .val (.int p3), .val (.long q4), .second, .val (.int p5), .val (.int (2 : Int32)), .val (.int (own_a3 p2)), .unset, .unset, .unset, .unset, .unset, .unset, .unset, .unset, .unset] [])) _
  refine XS.iload X0.here hx rfl (hb hby at_10) rfl ?_
  show Steps p.tables e below (s₁.setTop (mkF m 12 #[.val (.int p1), .val (.int p2), .val (.int p3), .val (.long q4), .second, .val (.int p5), .val (.int (2 : Int32)), .val (.int (own_a3 p2)), .unset, .unset, .unset, .unset, .unset, .unset, .unset, .unset, .unset] [(.int (2 : Int32))])) _
  refine XS.iload X0.here hx rfl (hb hby at_12) rfl ?_
  show Steps p.tables e below (s₁.setTop (mkF m 14 #[.val (.int p1), .val (.int p2), .val (.int p3), .val (.long q4), .second, .val (.int p5), .val (.int (2 : Int32)), .val (.int (own_a3 p2)), .unset, .unset, .unset, .unset, .unset, .unset, .unset, .unset, .unset] [(.int (own_a3 p2)), (.int (2 : Int32))])) _
  refine XS.iadd X0.here hx rfl (hb hby at_14) rfl ?_
  show Steps p.tables e below (s₁.setTop (mkF m 15 #[.val (.int p1), .val (.int p2), .val (.int p3), .val (.long q4), .second, .val (.int p5), .val (.int (2 : Int32)), .val (.int (own_a3 p2)), .unset, .unset, .unset, .unset, .unset, .unset, .unset, .unset, .unset] [(.int ((2 : Int32) + (own_a3 p2)))])) _
  refine XS.istore X0.here hx rfl (hb hby at_15) rfl (l' := #[.val (.int p1), .val (.int p2), .val (.int p3), .val (.long q4), .second, .val (.int p5), .val (.int (2 : Int32)), .val (.int (own_a3 p2)), .val (.int ((2 : Int32) + (own_a3 p2))), .unset, .unset, .unset, .unset, .unset, .unset, .unset, .unset]) rfl ?_
  show Steps p.tables e below (s₁.setTop (mkF m 17 #[.val (.int p1), .val (.int p2), .val (.int p3), .val (.long q4), .second, .val (.int p5), .val (.int (2 : Int32)), .val (.int (own_a3 p2)), .val (.int ((2 : Int32) + (own_a3 p2))), .unset, .unset, .unset, .unset, .unset, .unset, .unset, .unset] [])) _
  refine XS.lloadN X0.here hx rfl (hb hby at_17) rfl ?_
  show Steps p.tables e below (s₁.setTop (mkF m 18 #[.val (.int p1), .val (.int p2), .val (.int p3), .val (.long q4), .second, .val (.int p5), .val (.int (2 : Int32)), .val (.int (own_a3 p2)), .val (.int ((2 : Int32) + (own_a3 p2))), .unset, .unset, .unset, .unset, .unset, .unset, .unset, .unset] [(.long q4)])) _
  refine st1 _ ?_
  show Steps p.tables e below (T1.setTop (mkF m 21 #[.val (.int p1), .val (.int p2), .val (.int p3), .val (.long q4), .second, .val (.int p5), .val (.int (2 : Int32)), .val (.int (own_a3 p2)), .val (.int ((2 : Int32) + (own_a3 p2))), .unset, .unset, .unset, .unset, .unset, .unset, .unset, .unset] [(.ref b37_1)])) _
  refine XS.astore X1.here hx rfl (hb hby at_21) rfl rfl (l' := #[.val (.int p1), .val (.int p2), .val (.int p3), .val (.long q4), .second, .val (.int p5), .val (.int (2 : Int32)), .val (.int (own_a3 p2)), .val (.int ((2 : Int32) + (own_a3 p2))), .val (.ref b37_1), .unset, .unset, .unset, .unset, .unset, .unset, .unset]) rfl ?_
  show Steps p.tables e below (T1.setTop (mkF m 23 #[.val (.int p1), .val (.int p2), .val (.int p3), .val (.long q4), .second, .val (.int p5), .val (.int (2 : Int32)), .val (.int (own_a3 p2)), .val (.int ((2 : Int32) + (own_a3 p2))), .val (.ref b37_1), .unset, .unset, .unset, .unset, .unset, .unset, .unset] [])) _
  refine st3 _ ?_
  show Steps p.tables e below (T3.setTop (mkF m 26 #[.val (.int p1), .val (.int p2), .val (.int p3), .val (.long q4), .second, .val (.int p5), .val (.int (2 : Int32)), .val (.int (own_a3 p2)), .val (.int ((2 : Int32) + (own_a3 p2))), .val (.ref b37_1), .unset, .unset, .unset, .unset, .unset, .unset, .unset] [(.ref b3)])) _
  refine XS.dup X3.here hx rfl (hb hby at_26) rfl rfl ?_
  show Steps p.tables e below (T3.setTop (mkF m 27 #[.val (.int p1), .val (.int p2), .val (.int p3), .val (.long q4), .second, .val (.int p5), .val (.int (2 : Int32)), .val (.int (own_a3 p2)), .val (.int ((2 : Int32) + (own_a3 p2))), .val (.ref b37_1), .unset, .unset, .unset, .unset, .unset, .unset, .unset] [(.ref b3), (.ref b3)])) _
  refine XS.iload X3.here hx rfl (hb hby at_27) rfl ?_
  show Steps p.tables e below (T3.setTop (mkF m 29 #[.val (.int p1), .val (.int p2), .val (.int p3), .val (.long q4), .second, .val (.int p5), .val (.int (2 : Int32)), .val (.int (own_a3 p2)), .val (.int ((2 : Int32) + (own_a3 p2))), .val (.ref b37_1), .unset, .unset, .unset, .unset, .unset, .unset, .unset] [(.int (2 : Int32)), (.ref b3), (.ref b3)])) _
  refine XS.iload X3.here hx rfl (hb hby at_29) rfl ?_
  show Steps p.tables e below (T3.setTop (mkF m 31 #[.val (.int p1), .val (.int p2), .val (.int p3), .val (.long q4), .second, .val (.int p5), .val (.int (2 : Int32)), .val (.int (own_a3 p2)), .val (.int ((2 : Int32) + (own_a3 p2))), .val (.ref b37_1), .unset, .unset, .unset, .unset, .unset, .unset, .unset] [(.int ((2 : Int32) + (own_a3 p2))), (.int (2 : Int32)), (.ref b3), (.ref b3)])) _
  refine st8.trans ?_
  show Steps p.tables e below (T8.setTop (mkF m 34 #[.val (.int p1), .val (.int p2), .val (.int p3), .val (.long q4), .second, .val (.int p5), .val (.int (2 : Int32)), .val (.int (own_a3 p2)), .val (.int ((2 : Int32) + (own_a3 p2))), .val (.ref b37_1), .unset, .unset, .unset, .unset, .unset, .unset, .unset] [(.ref b3)])) _
  refine XS.astore X8.here hx rfl (hb hby at_34) rfl rfl (l' := #[.val (.int p1), .val (.int p2), .val (.int p3), .val (.long q4), .second, .val (.int p5), .val (.int (2 : Int32)), .val (.int (own_a3 p2)), .val (.int ((2 : Int32) + (own_a3 p2))), .val (.ref b37_1), .val (.ref b3), .unset, .unset, .unset, .unset, .unset, .unset]) rfl ?_
  show Steps p.tables e below (T8.setTop (mkF m 36 #[.val (.int p1), .val (.int p2), .val (.int p3), .val (.long q4), .second, .val (.int p5), .val (.int (2 : Int32)), .val (.int (own_a3 p2)), .val (.int ((2 : Int32) + (own_a3 p2))), .val (.ref b37_1), .val (.ref b3), .unset, .unset, .unset, .unset, .unset, .unset] [])) _
  refine XS.aload X8.here hx rfl (hb hby at_36) rfl rfl ?_
  show Steps p.tables e below (T8.setTop (mkF m 38 #[.val (.int p1), .val (.int p2), .val (.int p3), .val (.long q4), .second, .val (.int p5), .val (.int (2 : Int32)), .val (.int (own_a3 p2)), .val (.int ((2 : Int32) + (own_a3 p2))), .val (.ref b37_1), .val (.ref b3), .unset, .unset, .unset, .unset, .unset, .unset] [(.ref b3)])) _
  refine st10.trans ?_
  show Steps p.tables e below (T10.setTop (mkF m 41 #[.val (.int p1), .val (.int p2), .val (.int p3), .val (.long q4), .second, .val (.int p5), .val (.int (2 : Int32)), .val (.int (own_a3 p2)), .val (.int ((2 : Int32) + (own_a3 p2))), .val (.ref b37_1), .val (.ref b3), .unset, .unset, .unset, .unset, .unset, .unset] [(.int (0 : Int32))])) _
  refine XS.istore X10.here hx rfl (hb hby at_41) rfl (l' := #[.val (.int p1), .val (.int p2), .val (.int p3), .val (.long q4), .second, .val (.int p5), .val (.int (2 : Int32)), .val (.int (own_a3 p2)), .val (.int ((2 : Int32) + (own_a3 p2))), .val (.ref b37_1), .val (.ref b3), .val (.int (0 : Int32)), .unset, .unset, .unset, .unset, .unset]) rfl ?_
  show Steps p.tables e below (T10.setTop (mkF m 43 #[.val (.int p1), .val (.int p2), .val (.int p3), .val (.long q4), .second, .val (.int p5), .val (.int (2 : Int32)), .val (.int (own_a3 p2)), .val (.int ((2 : Int32) + (own_a3 p2))), .val (.ref b37_1), .val (.ref b3), .val (.int (0 : Int32)), .unset, .unset, .unset, .unset, .unset] [])) _
  refine XS.iload X10.here hx rfl (hb hby at_43) rfl ?_
  show Steps p.tables e below (T10.setTop (mkF m 45 #[.val (.int p1), .val (.int p2), .val (.int p3), .val (.long q4), .second, .val (.int p5), .val (.int (2 : Int32)), .val (.int (own_a3 p2)), .val (.int ((2 : Int32) + (own_a3 p2))), .val (.ref b37_1), .val (.ref b3), .val (.int (0 : Int32)), .unset, .unset, .unset, .unset, .unset] [(.int (0 : Int32))])) _
  refine XS.ifYes X10.here hx rfl (pc0 := 45) (pc' := 71) rfl (hb hby at_45) rfl ((if0 _ _).trans (teq (rfl : (0 : Int32) = (0 : Int32))).1) (by decide) (by decide) ?_
  show Steps p.tables e below (T10.setTop (mkF m 71 #[.val (.int p1), .val (.int p2), .val (.int p3), .val (.long q4), .second, .val (.int p5), .val (.int (2 : Int32)), .val (.int (own_a3 p2)), .val (.int ((2 : Int32) + (own_a3 p2))), .val (.ref b37_1), .val (.ref b3), .val (.int (0 : Int32)), .unset, .unset, .unset, .unset, .unset] [])) _
  refine XS.aload X10.here hx rfl (hb hby at_71) rfl rfl ?_
  show Steps p.tables e below (T10.setTop (mkF m 73 #[.val (.int p1), .val (.int p2), .val (.int p3), .val (.long q4), .second, .val (.int p5), .val (.int (2 : Int32)), .val (.int (own_a3 p2)), .val (.int ((2 : Int32) + (own_a3 p2))), .val (.ref b37_1), .val (.ref b3), .val (.int (0 : Int32)), .unset, .unset, .unset, .unset, .unset] [(.ref b3)])) _
  refine XS.aload X10.here hx rfl (hb hby at_73) rfl rfl ?_
  show Steps p.tables e below (T10.setTop (mkF m 75 #[.val (.int p1), .val (.int p2), .val (.int p3), .val (.long q4), .second, .val (.int p5), .val (.int (2 : Int32)), .val (.int (own_a3 p2)), .val (.int ((2 : Int32) + (own_a3 p2))), .val (.ref b37_1), .val (.ref b3), .val (.int (0 : Int32)), .unset, .unset, .unset, .unset, .unset] [(.ref b37_1), (.ref b3)])) _
  refine XS.iload X10.here hx rfl (hb hby at_75) rfl ?_
  show Steps p.tables e below (T10.setTop (mkF m 77 #[.val (.int p1), .val (.int p2), .val (.int p3), .val (.long q4), .second, .val (.int p5), .val (.int (2 : Int32)), .val (.int (own_a3 p2)), .val (.int ((2 : Int32) + (own_a3 p2))), .val (.ref b37_1), .val (.ref b3), .val (.int (0 : Int32)), .unset, .unset, .unset, .unset, .unset] [(.int (2 : Int32)), (.ref b37_1), (.ref b3)])) _
  refine st19.trans ?_
  show Steps p.tables e below (T19.setTop (mkF m 80 #[.val (.int p1), .val (.int p2), .val (.int p3), .val (.long q4), .second, .val (.int p5), .val (.int (2 : Int32)), .val (.int (own_a3 p2)), .val (.int ((2 : Int32) + (own_a3 p2))), .val (.ref b37_1), .val (.ref b3), .val (.int (0 : Int32)), .unset, .unset, .unset, .unset, .unset] [(.int (own_t1 q4 (16 : Int32))), (.ref b3)])) _
  refine XS.aload X19.here hx rfl (hb hby at_80) rfl rfl ?_
  show Steps p.tables e below (T19.setTop (mkF m 82 #[.val (.int p1), .val (.int p2), .val (.int p3), .val (.long q4), .second, .val (.int p5), .val (.int (2 : Int32)), .val (.int (own_a3 p2)), .val (.int ((2 : Int32) + (own_a3 p2))), .val (.ref b37_1), .val (.ref b3), .val (.int (0 : Int32)), .unset, .unset, .unset, .unset, .unset] [(.ref b37_1), (.int (own_t1 q4 (16 : Int32))), (.ref b3)])) _
  refine st20.trans ?_
  show Steps p.tables e below (T20.setTop (mkF m 85 #[.val (.int p1), .val (.int p2), .val (.int p3), .val (.long q4), .second, .val (.int p5), .val (.int (2 : Int32)), .val (.int (own_a3 p2)), .val (.int ((2 : Int32) + (own_a3 p2))), .val (.ref b37_1), .val (.ref b3), .val (.int (0 : Int32)), .unset, .unset, .unset, .unset, .unset] [(.int (2 : Int32))])) _
  refine XS.iload X20.here hx rfl (hb hby at_85) rfl ?_
  show Steps p.tables e below (T20.setTop (mkF m 87 #[.val (.int p1), .val (.int p2), .val (.int p3), .val (.long q4), .second, .val (.int p5), .val (.int (2 : Int32)), .val (.int (own_a3 p2)), .val (.int ((2 : Int32) + (own_a3 p2))), .val (.ref b37_1), .val (.ref b3), .val (.int (0 : Int32)), .unset, .unset, .unset, .unset, .unset] [(.int (2 : Int32)), (.int (2 : Int32))])) _
  refine XS.icmpNo X20.here hx rfl (hb hby at_87) rfl (teq (rfl : (2 : Int32) = (2 : Int32))).2 ?_
  show Steps p.tables e below (T20.setTop (mkF m 90 #[.val (.int p1), .val (.int p2), .val (.int p3), .val (.long q4), .second, .val (.int p5), .val (.int (2 : Int32)), .val (.int (own_a3 p2)), .val (.int ((2 : Int32) + (own_a3 p2))), .val (.ref b37_1), .val (.ref b3), .val (.int (0 : Int32)), .unset, .unset, .unset, .unset, .unset] [])) _
  refine XS.iconst X20.here hx rfl (hb hby at_90) ?_
  show Steps p.tables e below (T20.setTop (mkF m 91 #[.val (.int p1), .val (.int p2), .val (.int p3), .val (.long q4), .second, .val (.int p5), .val (.int (2 : Int32)), .val (.int (own_a3 p2)), .val (.int ((2 : Int32) + (own_a3 p2))), .val (.ref b37_1), .val (.ref b3), .val (.int (0 : Int32)), .unset, .unset, .unset, .unset, .unset] [(.int (1 : Int32))])) _
  refine XS.goto X20.here hx rfl (pc0 := 91) (pc' := 95) rfl (hb hby at_91) (by decide) (by decide) ?_
  show Steps p.tables e below (T20.setTop (mkF m 95 #[.val (.int p1), .val (.int p2), .val (.int p3), .val (.long q4), .second, .val (.int p5), .val (.int (2 : Int32)), .val (.int (own_a3 p2)), .val (.int ((2 : Int32) + (own_a3 p2))), .val (.ref b37_1), .val (.ref b3), .val (.int (0 : Int32)), .unset, .unset, .unset, .unset, .unset] [(.int (1 : Int32))])) _
  refine XS.istore X20.here hx rfl (hb hby at_95) rfl (l' := #[.val (.int p1), .val (.int p2), .val (.int p3), .val (.long q4), .second, .val (.int p5), .val (.int (2 : Int32)), .val (.int (own_a3 p2)), .val (.int ((2 : Int32) + (own_a3 p2))), .val (.ref b37_1), .val (.ref b3), .val (.int (0 : Int32)), .val (.int (1 : Int32)), .unset, .unset, .unset, .unset]) rfl ?_
  show Steps p.tables e below (T20.setTop (mkF m 97 #[.val (.int p1), .val (.int p2), .val (.int p3), .val (.long q4), .second, .val (.int p5), .val (.int (2 : Int32)), .val (.int (own_a3 p2)), .val (.int ((2 : Int32) + (own_a3 p2))), .val (.ref b37_1), .val (.ref b3), .val (.int (0 : Int32)), .val (.int (1 : Int32)), .unset, .unset, .unset, .unset] [])) _
  exact hst₂
theorem own_eflaw3 (m : MethodId) (p1 : Int32) (p2 : Int32) (p3 : Int32) (q4 : Int64) (p5 : Int32) : entryFrame m #[(.int p1), (.int p2), (.int p3), (.long q4), (.int p5)] maxLocals = mkF m 0 #[.val (.int p1), .val (.int p2), .val (.int p3), .val (.long q4), .second, .val (.int p5), .unset, .unset, .unset, .unset, .unset, .unset, .unset, .unset, .unset, .unset, .unset] [] := by first | (simp [entryFrame, mkF, argsToLocals, Value.category, maxLocals]; done) | rfl
set_option maxRecDepth 65536 in
set_option maxHeartbeats 40000000 in
theorem own_law3 (l : Launch) (Z : State) (a0 : Array Value) (hw : ∀ d ∈ tables_1, d.before a0 Z = true) (ws : List Jvm.Cond) (G1 : Int32) (G3 : Value) (gl : own_Glob Z G1 G3) (p1 : Int32) (p2 : Int32) (p3 : Int32) (q4 : Int64) (p5 : Int32) (h0 : Heap) (n0 : Nat) (Z0 : n0 ≤ h0.size) (X00 : Old Z n0 h0) (hs : own_a3 p1 = 3) (hl : ¬ (own_a3 p2 = (0 : Int32))) :
    MetFree l x (head1 (Jvm.Cond.code x code maxLocals ret :: ws) room_1) (fun a U => a = #[(.int p1), (.int p2), (.int p3), (.long q4), (.int p5)] ∧ Z.Warmed39 U.vm ∧ U.heap = h0) (fun _ _ _ _ _ => True) (fun _ U o U' => ∃ v L, o = .returned v ∧ own_Qlaw h0 n0 v U'.heap L ∧ FrameEnd U o U' L room_1.cells room_1.slots) := by
  refine MetFree.of_bodySF (plainFor_of_name own_pn1) hisR ?_
  intro p e s m args below meth c s₁ Bd hml0 hP hK
  obtain ⟨rfl, hZ, hh⟩ := hP
  obtain ⟨O_CS, P_CS, O_SI, P_SI⟩ := id gl
  have hx := Bd.exec
  have hby := Bd.bytes
  have hml : c.maxLocals = 17 := hml0
  have hown : s.vm.findClass "com/example/incorpus/incorpus/SpanIsEmptyPinLaw" = some m.cls := findClass_of_methodNamed Bd.named
  have hnm := (name_of_methodNamed Bd.named Bd.method).1
  have X0 : Stand p l e room_1 s m #[(.int p1), (.int p2), (.int p3), (.long q4), (.int p5)] below meth c s₁ [] 0 0 := Stand.of_body Bd
  have e0 : s₁.heap = h0 := by rw [← hh, Bd.state]; rfl
  have N0 := Fr.nil n0
  have pre0 : ∀ t, Steps p.tables e below (s₁.setTop (mkF m 0 #[.val (.int p1), .val (.int p2), .val (.int p3), .val (.long q4), .second, .val (.int p5), .unset, .unset, .unset, .unset, .unset, .unset, .unset, .unset, .unset, .unset, .unset] [])) t → Steps p.tables e below (s₁.setTop (entryFrame m #[(.int p1), (.int p2), (.int p3), (.long q4), (.int p5)] maxLocals)) t := fun t k => castTop (own_eflaw3 m p1 p2 p3 q4 p5) k
  obtain ⟨_, _, ⟨T1, L1, k1, n1⟩, -, X1, ⟨Lc1, hQ1, l1, y1, z1⟩, st1⟩ := Jvm.LawKit.callS X0 hx (y := (⟨"com/example/incorpus/incorpus/SpanIsEmptyPinLaw", "text", "(J)Ljava/lang/String;"⟩ : MethodName)) hown (mvT hZ (hw _ (List.mem_of_getElem? (i := 0) rfl))) (mvT hZ (hw _ (List.mem_of_getElem? (i := 1) rfl))) (mvT hZ (hw _ (List.mem_of_getElem? (i := 2) rfl))) (mvT hZ (hw _ (List.mem_of_getElem? (i := 3) rfl))) (by decide) (backOf (W := 0) (own_rm_text l Z a0 hw [] G1 G3 gl q4 h0 n0 Z0 X00 ) hZ (hw _ (List.mem_of_getElem? (i := 3) rfl)) (hw _ (List.mem_of_getElem? (i := 2) rfl)) (by decide) (by decide)) (g := (mkF m 18 #[.val (.int p1), .val (.int p2), .val (.int p3), .val (.long q4), .second, .val (.int p5), .val (.int (3 : Int32)), .val (.int (own_a3 p2)), .val (.int ((3 : Int32) + (own_a3 p2))), .unset, .unset, .unset, .unset, .unset, .unset, .unset, .unset] [(.long q4)])) rfl (by rw [hml]; rfl) (argsL := [(.long q4)]) (rest := []) (lenOf own_pd8 rfl) rfl (by show 2 * 0 + _ ≤ _; exact Nat.le_of_eq rfl) (hb hby at_18) (fun _ _ => ⟨rfl, e0, (by decide : 0 + 3 ≤ _), (by decide : 0 + 20 ≤ _)⟩)
  dsimp only [Pt.U, Pt.locs, Pt.cells, Pt.slots] at X1 l1 y1 z1 st1 hQ1
  subst y1 z1
  obtain ⟨b37_1, t55_1, kb55_1, rfl, Nq1, Kq1, f1_0, f1_1, f1_2, f1_3, f1_4, f1_5, f1_6⟩ := hQ1
  have N1 : Fr n0 L1 := by rw [l1]; exact Fr.app N0 Nq1
  have Kp2 : Keep h0 T1.heap [] := (Keep.refl h0 []).trans Kq1 all0
  obtain ⟨T3, h3, X3, e3, E3, A3, D3, U3, st3⟩ := newO X1 hx hZ hown (hw _ (List.mem_of_getElem? (i := 35) rfl)) (hw _ (List.mem_of_getElem? (i := 36) rfl)) (hw _ (List.mem_of_getElem? (i := 37) rfl)) rfl (g := (mkF m 23 #[.val (.int p1), .val (.int p2), .val (.int p3), .val (.long q4), .second, .val (.int p5), .val (.int (3 : Int32)), .val (.int (own_a3 p2)), .val (.int ((3 : Int32) + (own_a3 p2))), .val (.ref b37_1), .unset, .unset, .unset, .unset, .unset, .unset, .unset] [])) rfl (hb hby at_23) (by decide) (by decide)
  obtain ⟨b3, g3⟩ : ∃ z, z = T1.heap.size := ⟨_, rfl⟩
  rw [← g3] at A3 D3 U3 st3
  have Kp4 : Keep h0 h3 [] := Kp2.ext E3
  have Fh5 : Fld Z h3 b3 "com/example/incorpus/incorpus/Span" "start" "I" (.int (0 : Int32)) := (D3 (Or.inr (hw _ (List.mem_of_getElem? (i := 48) rfl))) (ty := .int) (by decide))
  have gh6 : n0 ≤ b3 := Nat.le_trans (Nat.le_trans Z0 Kp2.1) (Nat.le_of_eq g3.symm)
  have Fh7 : Fld Z h3 b3 "com/example/incorpus/incorpus/Span" "end" "I" (.int (0 : Int32)) := (D3 (Or.inr (hw _ (List.mem_of_getElem? (i := 50) rfl))) (ty := .int) (by decide))
  obtain ⟨_, _, ⟨T8, L8, k8, n8⟩, -, X8, ⟨Lc8, hQ8, l8, y8, z8⟩, st8⟩ := X3.specialBack hx (y := (⟨"com/example/incorpus/incorpus/Span", "<init>", "(II)V"⟩ : MethodName)) rfl hown (mvT hZ (hw _ (List.mem_of_getElem? (i := 38) rfl))) (mvT hZ (hw _ (List.mem_of_getElem? (i := 39) rfl))) (mvT hZ (hw _ (List.mem_of_getElem? (i := 40) rfl))) (by decide) (backOf (W := 1) (own_rm_span l Z a0 hw [] G1 G3 gl b3 (3 : Int32) ((3 : Int32) + (own_a3 p2)) ((.int (0 : Int32))) ((.int (0 : Int32))) h3 n0 (Nat.le_trans Z0 Kp4.1) A3 Fh5 gh6 Fh7 (by decide : ¬ ((3 : Int32) < (0 : Int32))) ((own_e3 p2 hl).2.1 : ¬ (((3 : Int32) + (own_a3 p2)) < (3 : Int32)))) hZ (hw _ (List.mem_of_getElem? (i := 40) rfl)) (hw _ (List.mem_of_getElem? (i := 37) rfl)) (by decide) (by decide)) (g := (mkF m 31 #[.val (.int p1), .val (.int p2), .val (.int p3), .val (.long q4), .second, .val (.int p5), .val (.int (3 : Int32)), .val (.int (own_a3 p2)), .val (.int ((3 : Int32) + (own_a3 p2))), .val (.ref b37_1), .unset, .unset, .unset, .unset, .unset, .unset, .unset] [(.int ((3 : Int32) + (own_a3 p2))), (.int (3 : Int32)), (.ref b3), (.ref b3)])) rfl (by rw [hml]; rfl) (Steps.refl _) (a := b3) (argsL := [(.int (3 : Int32)), (.int ((3 : Int32) + (own_a3 p2)))]) (rest := [(.ref b3)]) (lenOf own_pd6 rfl) rfl (by show 2 * 0 + _ ≤ _; exact Nat.le_of_eq rfl) (hb hby at_31) (fun _ _ => ⟨rfl, e3, (by decide : 4 + 0 ≤ _), (by decide : 22 + 0 ≤ _)⟩)
  dsimp only [Pt.U, Pt.locs, Pt.cells, Pt.slots] at X8 l8 y8 z8 st8 hQ8
  subst y8 z8
  obtain ⟨rfl, Nq8, Kq8, f8_0, f8_1, f8_2⟩ := hQ8
  have N8 : Fr n0 L8 := by rw [l8]; exact Fr.app N1 Nq8
  have Kp9 : Keep h0 T8.heap [] := Kp4.trans Kq8 (allS (Or.inr (Nat.le_trans Kp2.1 (Nat.le_of_eq g3.symm))) all0)
  obtain ⟨cq10, kq10, q10a, q10b, q10c⟩ := isOf hZ rfl f8_0
  obtain ⟨_, _, ⟨T10, L10, k10, n10⟩, -, X10, ⟨Lc10, hQ10, l10, y10, z10⟩, st10⟩ := X8.virtualBack hx (y := (⟨"com/example/incorpus/incorpus/Span", "isEmpty", "()Z"⟩ : MethodName)) (z := (⟨"com/example/incorpus/incorpus/Span", "isEmpty", "()Z"⟩ : MethodName)) hown (mvT hZ (hw _ (List.mem_of_getElem? (i := 51) rfl))) (mvT hZ (hw _ (List.mem_of_getElem? (i := 52) rfl))) (notFace_of_selects (args := #[]) (mvT hZ (hw _ (List.mem_of_getElem? (i := 54) rfl)))) (mvT hZ (hw _ (List.mem_of_getElem? (i := 54) rfl))) (mvT hZ (hw _ (List.mem_of_getElem? (i := 53) rfl))) (by decide) (backOf (W := 0) (own_rm_emp0 l Z a0 hw [] G1 G3 gl b3 (3 : Int32) ((3 : Int32) + (own_a3 p2)) T8.heap n0 (Nat.le_trans Z0 Kp9.1) f8_1 f8_2 ((own_e3 p2 hl).2.2 : ¬ ((3 : Int32) = ((3 : Int32) + (own_a3 p2))))) hZ (hw _ (List.mem_of_getElem? (i := 55) rfl)) (hw _ (List.mem_of_getElem? (i := 37) rfl)) (by decide) (by decide)) q10a q10c (g := (mkF m 38 #[.val (.int p1), .val (.int p2), .val (.int p3), .val (.long q4), .second, .val (.int p5), .val (.int (3 : Int32)), .val (.int (own_a3 p2)), .val (.int ((3 : Int32) + (own_a3 p2))), .val (.ref b37_1), .val (.ref b3), .unset, .unset, .unset, .unset, .unset, .unset] [(.ref b3)])) rfl (by rw [hml]; rfl) (Steps.refl _) (argsL := []) (rest := []) (lenOf own_pd7 rfl) rfl (by show 2 * 0 + _ ≤ _; exact Nat.le_of_eq rfl) (hb hby at_38) (fun _ _ => ⟨rfl, rfl, (by decide : 4 + 0 ≤ _), (by decide : 22 + 0 ≤ _)⟩)
  dsimp only [Pt.U, Pt.locs, Pt.cells, Pt.slots] at X10 l10 y10 z10 st10 hQ10
  subst y10 z10
  obtain ⟨rfl, Nq10, e10⟩ := hQ10
  have N10 : Fr n0 L10 := by rw [l10]; exact Fr.app N8 Nq10
  have Eh11 : Exa Z T8.heap b37_1 "java/lang/String" := ((f1_1.ext E3).keep Kq8)
  have Fh12 : Fld Z T8.heap b37_1 "java/lang/String" "value" "[B" (.ref t55_1) := ((f1_2.ext E3).keep Kq8 (ninS (Nat.ne_of_lt (Nat.lt_of_lt_of_le f1_1.lt (Nat.le_of_eq g3.symm))) nin0))
  have Fh13 : Fld Z T8.heap b37_1 "java/lang/String" "coder" "B" (.int (0 : Int32)) := ((f1_3.ext E3).keep Kq8 (ninS (Nat.ne_of_lt (Nat.lt_of_lt_of_le f1_1.lt (Nat.le_of_eq g3.symm))) nin0))
  have Vh14 : Arv Z T8.heap t55_1 kb55_1 .byte (8 : Int32) ((([(own_t0 q4), (own_t1 q4 (8 : Int32)), (own_t1 q4 (16 : Int32)), (own_t1 q4 (24 : Int32)), (own_t1 q4 (32 : Int32)), (own_t1 q4 (40 : Int32)), (own_t1 q4 (48 : Int32)), (own_t1 q4 (56 : Int32))] : List Int32).map (fun c => c.toInt8.toInt32)).map Value.int) (.int (0 : Int32)) := ((f1_5.ext E3).keep Kq8 (ninS (Nat.ne_of_lt (Nat.lt_of_lt_of_le f1_5.lt (Nat.le_of_eq g3.symm))) nin0))
  have cdh15 : StrChars.Road.CodA ([(own_t0 q4), (own_t1 q4 (8 : Int32)), (own_t1 q4 (16 : Int32)), (own_t1 q4 (24 : Int32)), (own_t1 q4 (32 : Int32)), (own_t1 q4 (40 : Int32)), (own_t1 q4 (48 : Int32)), (own_t1 q4 (56 : Int32))] : List Int32) 0 (8 : Int32) ((([(own_t0 q4), (own_t1 q4 (8 : Int32)), (own_t1 q4 (16 : Int32)), (own_t1 q4 (24 : Int32)), (own_t1 q4 (32 : Int32)), (own_t1 q4 (40 : Int32)), (own_t1 q4 (48 : Int32)), (own_t1 q4 (56 : Int32))] : List Int32).map (fun c => c.toInt8.toInt32)).map Value.int) := (StrChars.Road.codOf (cs := ([(own_t0 q4), (own_t1 q4 (8 : Int32)), (own_t1 q4 (16 : Int32)), (own_t1 q4 (24 : Int32)), (own_t1 q4 (32 : Int32)), (own_t1 q4 (40 : Int32)), (own_t1 q4 (48 : Int32)), (own_t1 q4 (56 : Int32))] : List Int32)) (n := 8) rfl (fun c hc => (f1_6 c hc).2))
  have hws_wordsChN : ∀ d ∈ StrChars.Road.wordsChN, d.before a0 Z = true := fun d hd => hw d (own_hws_wordsChN d hd)
  have Old16 : Old Z n0 T1.heap := X00.keep Kq1 all0
  have Old17 : Old Z n0 h3 := Old16.ext E3
  have Old18 : Old Z n0 T8.heap := Old17.keep Kq8 (allS gh6 all0)
  obtain ⟨cq19, kq19, q19a, q19b, q19c⟩ := isOf hZ e10 Eh11
  obtain ⟨_, _, ⟨T19, L19, k19, n19⟩, -, X19, ⟨Lc19, hQ19, l19, y19, z19⟩, st19⟩ := X10.virtualBack hx (y := (⟨"java/lang/String", "charAt", "(I)C"⟩ : MethodName)) (z := (⟨"java/lang/String", "charAt", "(I)C"⟩ : MethodName)) hown (mvT hZ (hw _ (List.mem_of_getElem? (i := 56) rfl))) (mvT hZ (hw _ (List.mem_of_getElem? (i := 57) rfl))) (notFace_of_selects (args := #[]) (mvT hZ (hw _ (List.mem_of_getElem? (i := 59) rfl)))) (mvT hZ (hw _ (List.mem_of_getElem? (i := 59) rfl))) (mvT hZ (hw _ (List.mem_of_getElem? (i := 58) rfl))) (by decide) (StrChars.Road.chN (W := 1) hZ hws_wordsChN (kI := 4) (hw _ (List.mem_of_getElem? (i := 7) rfl)) Eh11 Fh12 Fh13 Vh14 cdh15 (own_up _ f1_6) (O_CS.ext Old18.2) P_CS (O_SI.ext Old18.2) P_SI (Nat.le_of_ble_eq_true rfl) (i := 3) (Nat.le_of_ble_eq_true rfl) (j := (3 : Int32)) rfl (by decide) (by decide)) q19a q19c (g := (mkF m 77 #[.val (.int p1), .val (.int p2), .val (.int p3), .val (.long q4), .second, .val (.int p5), .val (.int (3 : Int32)), .val (.int (own_a3 p2)), .val (.int ((3 : Int32) + (own_a3 p2))), .val (.ref b37_1), .val (.ref b3), .val (.int (0 : Int32)), .unset, .unset, .unset, .unset, .unset] [(.int (3 : Int32)), (.ref b37_1), (.ref b3)])) rfl (by rw [hml]; rfl) (Steps.refl _) (argsL := [(.int (3 : Int32))]) (rest := [(.ref b3)]) (lenOf own_pd5 rfl) rfl (by show 2 * 0 + _ ≤ _; exact Nat.le_of_eq rfl) (hb hby at_77) (fun _ _ => ⟨rfl, e10, (by decide : 4 + 0 ≤ _), (by decide : 22 + 0 ≤ _)⟩)
  dsimp only [Pt.U, Pt.locs, Pt.cells, Pt.slots] at X19 l19 y19 z19 st19 hQ19
  subst y19 z19
  obtain ⟨rfl, rfl, e19⟩ := hQ19
  have N19 : Fr n0 L19 := by rw [l19]; exact Fr.app N10 (Fr.nil n0)
  obtain ⟨cq20, kq20, q20a, q20b, q20c⟩ := isOf hZ e19 f8_0
  obtain ⟨_, _, ⟨T20, L20, k20, n20⟩, -, X20, ⟨Lc20, hQ20, l20, y20, z20⟩, st20⟩ := X19.virtualBack hx (y := (⟨"com/example/incorpus/incorpus/Span", "indexOf", "(CLjava/lang/String;)I"⟩ : MethodName)) (z := (⟨"com/example/incorpus/incorpus/Span", "indexOf", "(CLjava/lang/String;)I"⟩ : MethodName)) hown (mvT hZ (hw _ (List.mem_of_getElem? (i := 78) rfl))) (mvT hZ (hw _ (List.mem_of_getElem? (i := 79) rfl))) (notFace_of_selects (args := #[]) (mvT hZ (hw _ (List.mem_of_getElem? (i := 81) rfl)))) (mvT hZ (hw _ (List.mem_of_getElem? (i := 81) rfl))) (mvT hZ (hw _ (List.mem_of_getElem? (i := 80) rfl))) (by decide) (backOf (W := 0) (own_rm_ix3 l Z a0 hw [] G1 G3 gl b3 (own_t1 q4 (24 : Int32)) b37_1 (own_t0 q4) (own_t1 q4 (8 : Int32)) (own_t1 q4 (16 : Int32)) (own_t1 q4 (24 : Int32)) (own_t1 q4 (32 : Int32)) (own_t1 q4 (40 : Int32)) (own_t1 q4 (48 : Int32)) (own_t1 q4 (56 : Int32)) t55_1 (kb55_1) ((3 : Int32) + (own_a3 p2)) T8.heap n0 (Nat.le_trans Z0 Kp9.1) Old18 Eh11 Fh12 Fh13 Vh14 f1_6 f8_1 f8_2 ((own_e3 p2 hl).1 : (3 : Int32) < ((3 : Int32) + (own_a3 p2))) (rfl : (own_t1 q4 (24 : Int32)) = (own_t1 q4 (24 : Int32)))) hZ (hw _ (List.mem_of_getElem? (i := 82) rfl)) (hw _ (List.mem_of_getElem? (i := 37) rfl)) (by decide) (by decide)) q20a q20c (g := (mkF m 82 #[.val (.int p1), .val (.int p2), .val (.int p3), .val (.long q4), .second, .val (.int p5), .val (.int (3 : Int32)), .val (.int (own_a3 p2)), .val (.int ((3 : Int32) + (own_a3 p2))), .val (.ref b37_1), .val (.ref b3), .val (.int (0 : Int32)), .unset, .unset, .unset, .unset, .unset] [(.ref b37_1), (.int (own_t1 q4 (24 : Int32))), (.ref b3)])) rfl (by rw [hml]; rfl) (Steps.refl _) (argsL := [(.int (own_t1 q4 (24 : Int32))), (.ref b37_1)]) (rest := []) (lenOf own_pd9 rfl) rfl (by show 2 * 0 + _ ≤ _; exact Nat.le_of_eq rfl) (hb hby at_82) (fun _ _ => ⟨rfl, e19, (by decide : 4 + 0 ≤ _), (by decide : 22 + 0 ≤ _)⟩)
  dsimp only [Pt.U, Pt.locs, Pt.cells, Pt.slots] at X20 l20 y20 z20 st20 hQ20
  subst y20 z20
  obtain ⟨rfl, Nq20, e20⟩ := hQ20
  have N20 : Fr n0 L20 := by rw [l20]; exact Fr.app N19 Nq20
  obtain ⟨s₂, o₂, hst₂, hrest₂⟩ := own_k0 hw G1 G3 gl p1 p2 p3 q4 p5 (3 : Int32) (own_a3 p2) ((3 : Int32) + (own_a3 p2)) b37_1 b3 (Nat.le_trans Z0 Kp9.1) Old18 hl X20 N20 hx hZ hby hml hown e20 Bd.returns Bd.notSynchronized
  refine ⟨s₂, o₂, pre0 _ ?_, hrest₂⟩
  show Steps p.tables e below (s₁.setTop (mkF m 0 #[.val (.int p1), .val (.int p2), .val (.int p3), .val (.long q4), .second, .val (.int p5), .unset, .unset, .unset, .unset, .unset, .unset, .unset, .unset, .unset, .unset, .unset] [])) _
  refine XS.iloadN X0.here hx rfl (hb hby at_0) rfl ?_
  show Steps p.tables e below (s₁.setTop (mkF m 1 #[.val (.int p1), .val (.int p2), .val (.int p3), .val (.long q4), .second, .val (.int p5), .unset, .unset, .unset, .unset, .unset, .unset, .unset, .unset, .unset, .unset, .unset] [(.int p1)])) _
  refine XS.iconst X0.here hx rfl (hb hby at_1) ?_
  show Steps p.tables e below (s₁.setTop (mkF m 2 #[.val (.int p1), .val (.int p2), .val (.int p3), .val (.long q4), .second, .val (.int p5), .unset, .unset, .unset, .unset, .unset, .unset, .unset, .unset, .unset, .unset, .unset] [(.int (3 : Int32)), (.int p1)])) _
  refine XS.iand X0.here hx rfl (hb hby at_2) rfl ?_
  show Steps p.tables e below (s₁.setTop (mkF m 3 #[.val (.int p1), .val (.int p2), .val (.int p3), .val (.long q4), .second, .val (.int p5), .unset, .unset, .unset, .unset, .unset, .unset, .unset, .unset, .unset, .unset, .unset] [(.int (own_a3 p1))])) _
  rw [hs]
  show Steps p.tables e below (s₁.setTop (mkF m 3 #[.val (.int p1), .val (.int p2), .val (.int p3), .val (.long q4), .second, .val (.int p5), .unset, .unset, .unset, .unset, .unset, .unset, .unset, .unset, .unset, .unset, .unset] [(.int (3 : Int32))])) _
  refine XS.istore X0.here hx rfl (hb hby at_3) rfl (l' := #[.val (.int p1), .val (.int p2), .val (.int p3), .val (.long q4), .second, .val (.int p5), .val (.int (3 : Int32)), .unset, .unset, .unset, .unset, .unset, .unset, .unset, .unset, .unset, .unset]) rfl ?_
  show Steps p.tables e below (s₁.setTop (mkF m 5 #[.val (.int p1), .val (.int p2), .val (.int p3), .val (.long q4), .second, .val (.int p5), .val (.int (3 : Int32)), .unset, .unset, .unset, .unset, .unset, .unset, .unset, .unset, .unset, .unset] [])) _
  refine XS.iloadN X0.here hx rfl (hb hby at_5) rfl ?_
  show Steps p.tables e below (s₁.setTop (mkF m 6 #[.val (.int p1), .val (.int p2), .val (.int p3), .val (.long q4), .second, .val (.int p5), .val (.int (3 : Int32)), .unset, .unset, .unset, .unset, .unset, .unset, .unset, .unset, .unset, .unset] [(.int p2)])) _
  refine XS.iconst X0.here hx rfl (hb hby at_6) ?_
  show Steps p.tables e below (s₁.setTop (mkF m 7 #[.val (.int p1), .val (.int p2), .val (.int p3), .val (.long q4), .second, .val (.int p5), .val (.int (3 : Int32)), .unset, .unset, .unset, .unset, .unset, .unset, .unset, .unset, .unset, .unset] [(.int (3 : Int32)), (.int p2)])) _
  refine XS.iand X0.here hx rfl (hb hby at_7) rfl ?_
  show Steps p.tables e below (s₁.setTop (mkF m 8 #[.val (.int p1), .val (.int p2), .val (.int p3), .val (.long q4), .second, .val (.int p5), .val (.int (3 : Int32)), .unset, .unset, .unset, .unset, .unset, .unset, .unset, .unset, .unset, .unset] [(.int (own_a3 p2))])) _
  refine XS.istore X0.here hx rfl (hb hby at_8) rfl (l' := #[.val (.int p1), .val (.int p2), .val (.int p3), .val (.long q4), .second, .val (.int p5), .val (.int (3 : Int32)), .val (.int (own_a3 p2)), .unset, .unset, .unset, .unset, .unset, .unset, .unset, .unset, .unset]) rfl ?_
  show Steps p.tables e below (s₁.setTop (mkF m 10 #[.val (.int p1), .val (.int p2), .val (.int p3), .val (.long q4), .second, .val (.int p5), .val (.int (3 : Int32)), .val (.int (own_a3 p2)), .unset, .unset, .unset, .unset, .unset, .unset, .unset, .unset, .unset] [])) _
  refine XS.iload X0.here hx rfl (hb hby at_10) rfl ?_
  show Steps p.tables e below (s₁.setTop (mkF m 12 #[.val (.int p1), .val (.int p2), .val (.int p3), .val (.long q4), .second, .val (.int p5), .val (.int (3 : Int32)), .val (.int (own_a3 p2)), .unset, .unset, .unset, .unset, .unset, .unset, .unset, .unset, .unset] [(.int (3 : Int32))])) _
  refine XS.iload X0.here hx rfl (hb hby at_12) rfl ?_
  show Steps p.tables e below (s₁.setTop (mkF m 14 #[.val (.int p1), .val (.int p2), .val (.int p3), .val (.long q4), .second, .val (.int p5), .val (.int (3 : Int32)), .val (.int (own_a3 p2)), .unset, .unset, .unset, .unset, .unset, .unset, .unset, .unset, .unset] [(.int (own_a3 p2)), (.int (3 : Int32))])) _
  refine XS.iadd X0.here hx rfl (hb hby at_14) rfl ?_
  show Steps p.tables e below (s₁.setTop (mkF m 15 #[.val (.int p1), .val (.int p2), .val (.int p3), .val (.long q4), .second, .val (.int p5), .val (.int (3 : Int32)), .val (.int (own_a3 p2)), .unset, .unset, .unset, .unset, .unset, .unset, .unset, .unset, .unset] [(.int ((3 : Int32) + (own_a3 p2)))])) _
  refine XS.istore X0.here hx rfl (hb hby at_15) rfl (l' := #[.val (.int p1), .val (.int p2), .val (.int p3), .val (.long q4), .second, .val (.int p5), .val (.int (3 : Int32)), .val (.int (own_a3 p2)), .val (.int ((3 : Int32) + (own_a3 p2))), .unset, .unset, .unset, .unset, .unset, .unset, .unset, .unset]) rfl ?_
  show Steps p.tables e below (s₁.setTop (mkF m 17 #[.val (.int p1), .val (.int p2), .val (.int p3), .val (.long q4), .second, .val (.int p5), .val (.int (3 : Int32)), .val (.int (own_a3 p2)), .val (.int ((3 : Int32) + (own_a3 p2))), .unset, .unset, .unset, .unset, .unset, .unset, .unset, .unset] [])) _
  refine XS.lloadN X0.here hx rfl (hb hby at_17) rfl ?_
  show Steps p.tables e below (s₁.setTop (mkF m 18 #[.val (.int p1), .val (.int p2), .val (.int p3), .val (.long q4), .second, .val (.int p5), .val (.int (3 : Int32)), .val (.int (own_a3 p2)), .val (.int ((3 : Int32) + (own_a3 p2))), .unset, .unset, .unset, .unset, .unset, .unset, .unset, .unset] [(.long q4)])) _
  refine st1 _ ?_
  show Steps p.tables e below (T1.setTop (mkF m 21 #[.val (.int p1), .val (.int p2), .val (.int p3), .val (.long q4), .second, .val (.int p5), .val (.int (3 : Int32)), .val (.int (own_a3 p2)), .val (.int ((3 : Int32) + (own_a3 p2))), .unset, .unset, .unset, .unset, .unset, .unset, .unset, .unset] [(.ref b37_1)])) _
  refine XS.astore X1.here hx rfl (hb hby at_21) rfl rfl (l' := #[.val (.int p1), .val (.int p2), .val (.int p3), .val (.long q4), .second, .val (.int p5), .val (.int (3 : Int32)), .val (.int (own_a3 p2)), .val (.int ((3 : Int32) + (own_a3 p2))), .val (.ref b37_1), .unset, .unset, .unset, .unset, .unset, .unset, .unset]) rfl ?_
  show Steps p.tables e below (T1.setTop (mkF m 23 #[.val (.int p1), .val (.int p2), .val (.int p3), .val (.long q4), .second, .val (.int p5), .val (.int (3 : Int32)), .val (.int (own_a3 p2)), .val (.int ((3 : Int32) + (own_a3 p2))), .val (.ref b37_1), .unset, .unset, .unset, .unset, .unset, .unset, .unset] [])) _
  refine st3 _ ?_
  show Steps p.tables e below (T3.setTop (mkF m 26 #[.val (.int p1), .val (.int p2), .val (.int p3), .val (.long q4), .second, .val (.int p5), .val (.int (3 : Int32)), .val (.int (own_a3 p2)), .val (.int ((3 : Int32) + (own_a3 p2))), .val (.ref b37_1), .unset, .unset, .unset, .unset, .unset, .unset, .unset] [(.ref b3)])) _
  refine XS.dup X3.here hx rfl (hb hby at_26) rfl rfl ?_
  show Steps p.tables e below (T3.setTop (mkF m 27 #[.val (.int p1), .val (.int p2), .val (.int p3), .val (.long q4), .second, .val (.int p5), .val (.int (3 : Int32)), .val (.int (own_a3 p2)), .val (.int ((3 : Int32) + (own_a3 p2))), .val (.ref b37_1), .unset, .unset, .unset, .unset, .unset, .unset, .unset] [(.ref b3), (.ref b3)])) _
  refine XS.iload X3.here hx rfl (hb hby at_27) rfl ?_
  show Steps p.tables e below (T3.setTop (mkF m 29 #[.val (.int p1), .val (.int p2), .val (.int p3), .val (.long q4), .second, .val (.int p5), .val (.int (3 : Int32)), .val (.int (own_a3 p2)), .val (.int ((3 : Int32) + (own_a3 p2))), .val (.ref b37_1), .unset, .unset, .unset, .unset, .unset, .unset, .unset] [(.int (3 : Int32)), (.ref b3), (.ref b3)])) _
  refine XS.iload X3.here hx rfl (hb hby at_29) rfl ?_
  show Steps p.tables e below (T3.setTop (mkF m 31 #[.val (.int p1), .val (.int p2), .val (.int p3), .val (.long q4), .second, .val (.int p5), .val (.int (3 : Int32)), .val (.int (own_a3 p2)), .val (.int ((3 : Int32) + (own_a3 p2))), .val (.ref b37_1), .unset, .unset, .unset, .unset, .unset, .unset, .unset] [(.int ((3 : Int32) + (own_a3 p2))), (.int (3 : Int32)), (.ref b3), (.ref b3)])) _
  refine st8.trans ?_
  show Steps p.tables e below (T8.setTop (mkF m 34 #[.val (.int p1), .val (.int p2), .val (.int p3), .val (.long q4), .second, .val (.int p5), .val (.int (3 : Int32)), .val (.int (own_a3 p2)), .val (.int ((3 : Int32) + (own_a3 p2))), .val (.ref b37_1), .unset, .unset, .unset, .unset, .unset, .unset, .unset] [(.ref b3)])) _
  refine XS.astore X8.here hx rfl (hb hby at_34) rfl rfl (l' := #[.val (.int p1), .val (.int p2), .val (.int p3), .val (.long q4), .second, .val (.int p5), .val (.int (3 : Int32)), .val (.int (own_a3 p2)), .val (.int ((3 : Int32) + (own_a3 p2))), .val (.ref b37_1), .val (.ref b3), .unset, .unset, .unset, .unset, .unset, .unset]) rfl ?_
  show Steps p.tables e below (T8.setTop (mkF m 36 #[.val (.int p1), .val (.int p2), .val (.int p3), .val (.long q4), .second, .val (.int p5), .val (.int (3 : Int32)), .val (.int (own_a3 p2)), .val (.int ((3 : Int32) + (own_a3 p2))), .val (.ref b37_1), .val (.ref b3), .unset, .unset, .unset, .unset, .unset, .unset] [])) _
  refine XS.aload X8.here hx rfl (hb hby at_36) rfl rfl ?_
  show Steps p.tables e below (T8.setTop (mkF m 38 #[.val (.int p1), .val (.int p2), .val (.int p3), .val (.long q4), .second, .val (.int p5), .val (.int (3 : Int32)), .val (.int (own_a3 p2)), .val (.int ((3 : Int32) + (own_a3 p2))), .val (.ref b37_1), .val (.ref b3), .unset, .unset, .unset, .unset, .unset, .unset] [(.ref b3)])) _
  refine st10.trans ?_
  show Steps p.tables e below (T10.setTop (mkF m 41 #[.val (.int p1), .val (.int p2), .val (.int p3), .val (.long q4), .second, .val (.int p5), .val (.int (3 : Int32)), .val (.int (own_a3 p2)), .val (.int ((3 : Int32) + (own_a3 p2))), .val (.ref b37_1), .val (.ref b3), .unset, .unset, .unset, .unset, .unset, .unset] [(.int (0 : Int32))])) _
  refine XS.istore X10.here hx rfl (hb hby at_41) rfl (l' := #[.val (.int p1), .val (.int p2), .val (.int p3), .val (.long q4), .second, .val (.int p5), .val (.int (3 : Int32)), .val (.int (own_a3 p2)), .val (.int ((3 : Int32) + (own_a3 p2))), .val (.ref b37_1), .val (.ref b3), .val (.int (0 : Int32)), .unset, .unset, .unset, .unset, .unset]) rfl ?_
  show Steps p.tables e below (T10.setTop (mkF m 43 #[.val (.int p1), .val (.int p2), .val (.int p3), .val (.long q4), .second, .val (.int p5), .val (.int (3 : Int32)), .val (.int (own_a3 p2)), .val (.int ((3 : Int32) + (own_a3 p2))), .val (.ref b37_1), .val (.ref b3), .val (.int (0 : Int32)), .unset, .unset, .unset, .unset, .unset] [])) _
  refine XS.iload X10.here hx rfl (hb hby at_43) rfl ?_
  show Steps p.tables e below (T10.setTop (mkF m 45 #[.val (.int p1), .val (.int p2), .val (.int p3), .val (.long q4), .second, .val (.int p5), .val (.int (3 : Int32)), .val (.int (own_a3 p2)), .val (.int ((3 : Int32) + (own_a3 p2))), .val (.ref b37_1), .val (.ref b3), .val (.int (0 : Int32)), .unset, .unset, .unset, .unset, .unset] [(.int (0 : Int32))])) _
  refine XS.ifYes X10.here hx rfl (pc0 := 45) (pc' := 71) rfl (hb hby at_45) rfl ((if0 _ _).trans (teq (rfl : (0 : Int32) = (0 : Int32))).1) (by decide) (by decide) ?_
  show Steps p.tables e below (T10.setTop (mkF m 71 #[.val (.int p1), .val (.int p2), .val (.int p3), .val (.long q4), .second, .val (.int p5), .val (.int (3 : Int32)), .val (.int (own_a3 p2)), .val (.int ((3 : Int32) + (own_a3 p2))), .val (.ref b37_1), .val (.ref b3), .val (.int (0 : Int32)), .unset, .unset, .unset, .unset, .unset] [])) _
  refine XS.aload X10.here hx rfl (hb hby at_71) rfl rfl ?_
  show Steps p.tables e below (T10.setTop (mkF m 73 #[.val (.int p1), .val (.int p2), .val (.int p3), .val (.long q4), .second, .val (.int p5), .val (.int (3 : Int32)), .val (.int (own_a3 p2)), .val (.int ((3 : Int32) + (own_a3 p2))), .val (.ref b37_1), .val (.ref b3), .val (.int (0 : Int32)), .unset, .unset, .unset, .unset, .unset] [(.ref b3)])) _
  refine XS.aload X10.here hx rfl (hb hby at_73) rfl rfl ?_
  show Steps p.tables e below (T10.setTop (mkF m 75 #[.val (.int p1), .val (.int p2), .val (.int p3), .val (.long q4), .second, .val (.int p5), .val (.int (3 : Int32)), .val (.int (own_a3 p2)), .val (.int ((3 : Int32) + (own_a3 p2))), .val (.ref b37_1), .val (.ref b3), .val (.int (0 : Int32)), .unset, .unset, .unset, .unset, .unset] [(.ref b37_1), (.ref b3)])) _
  refine XS.iload X10.here hx rfl (hb hby at_75) rfl ?_
  show Steps p.tables e below (T10.setTop (mkF m 77 #[.val (.int p1), .val (.int p2), .val (.int p3), .val (.long q4), .second, .val (.int p5), .val (.int (3 : Int32)), .val (.int (own_a3 p2)), .val (.int ((3 : Int32) + (own_a3 p2))), .val (.ref b37_1), .val (.ref b3), .val (.int (0 : Int32)), .unset, .unset, .unset, .unset, .unset] [(.int (3 : Int32)), (.ref b37_1), (.ref b3)])) _
  refine st19.trans ?_
  show Steps p.tables e below (T19.setTop (mkF m 80 #[.val (.int p1), .val (.int p2), .val (.int p3), .val (.long q4), .second, .val (.int p5), .val (.int (3 : Int32)), .val (.int (own_a3 p2)), .val (.int ((3 : Int32) + (own_a3 p2))), .val (.ref b37_1), .val (.ref b3), .val (.int (0 : Int32)), .unset, .unset, .unset, .unset, .unset] [(.int (own_t1 q4 (24 : Int32))), (.ref b3)])) _
  refine XS.aload X19.here hx rfl (hb hby at_80) rfl rfl ?_
  show Steps p.tables e below (T19.setTop (mkF m 82 #[.val (.int p1), .val (.int p2), .val (.int p3), .val (.long q4), .second, .val (.int p5), .val (.int (3 : Int32)), .val (.int (own_a3 p2)), .val (.int ((3 : Int32) + (own_a3 p2))), .val (.ref b37_1), .val (.ref b3), .val (.int (0 : Int32)), .unset, .unset, .unset, .unset, .unset] [(.ref b37_1), (.int (own_t1 q4 (24 : Int32))), (.ref b3)])) _
  refine st20.trans ?_
  show Steps p.tables e below (T20.setTop (mkF m 85 #[.val (.int p1), .val (.int p2), .val (.int p3), .val (.long q4), .second, .val (.int p5), .val (.int (3 : Int32)), .val (.int (own_a3 p2)), .val (.int ((3 : Int32) + (own_a3 p2))), .val (.ref b37_1), .val (.ref b3), .val (.int (0 : Int32)), .unset, .unset, .unset, .unset, .unset] [(.int (3 : Int32))])) _
  refine XS.iload X20.here hx rfl (hb hby at_85) rfl ?_
  show Steps p.tables e below (T20.setTop (mkF m 87 #[.val (.int p1), .val (.int p2), .val (.int p3), .val (.long q4), .second, .val (.int p5), .val (.int (3 : Int32)), .val (.int (own_a3 p2)), .val (.int ((3 : Int32) + (own_a3 p2))), .val (.ref b37_1), .val (.ref b3), .val (.int (0 : Int32)), .unset, .unset, .unset, .unset, .unset] [(.int (3 : Int32)), (.int (3 : Int32))])) _
  refine XS.icmpNo X20.here hx rfl (hb hby at_87) rfl (teq (rfl : (3 : Int32) = (3 : Int32))).2 ?_
  show Steps p.tables e below (T20.setTop (mkF m 90 #[.val (.int p1), .val (.int p2), .val (.int p3), .val (.long q4), .second, .val (.int p5), .val (.int (3 : Int32)), .val (.int (own_a3 p2)), .val (.int ((3 : Int32) + (own_a3 p2))), .val (.ref b37_1), .val (.ref b3), .val (.int (0 : Int32)), .unset, .unset, .unset, .unset, .unset] [])) _
  refine XS.iconst X20.here hx rfl (hb hby at_90) ?_
  show Steps p.tables e below (T20.setTop (mkF m 91 #[.val (.int p1), .val (.int p2), .val (.int p3), .val (.long q4), .second, .val (.int p5), .val (.int (3 : Int32)), .val (.int (own_a3 p2)), .val (.int ((3 : Int32) + (own_a3 p2))), .val (.ref b37_1), .val (.ref b3), .val (.int (0 : Int32)), .unset, .unset, .unset, .unset, .unset] [(.int (1 : Int32))])) _
  refine XS.goto X20.here hx rfl (pc0 := 91) (pc' := 95) rfl (hb hby at_91) (by decide) (by decide) ?_
  show Steps p.tables e below (T20.setTop (mkF m 95 #[.val (.int p1), .val (.int p2), .val (.int p3), .val (.long q4), .second, .val (.int p5), .val (.int (3 : Int32)), .val (.int (own_a3 p2)), .val (.int ((3 : Int32) + (own_a3 p2))), .val (.ref b37_1), .val (.ref b3), .val (.int (0 : Int32)), .unset, .unset, .unset, .unset, .unset] [(.int (1 : Int32))])) _
  refine XS.istore X20.here hx rfl (hb hby at_95) rfl (l' := #[.val (.int p1), .val (.int p2), .val (.int p3), .val (.long q4), .second, .val (.int p5), .val (.int (3 : Int32)), .val (.int (own_a3 p2)), .val (.int ((3 : Int32) + (own_a3 p2))), .val (.ref b37_1), .val (.ref b3), .val (.int (0 : Int32)), .val (.int (1 : Int32)), .unset, .unset, .unset, .unset]) rfl ?_
  show Steps p.tables e below (T20.setTop (mkF m 97 #[.val (.int p1), .val (.int p2), .val (.int p3), .val (.long q4), .second, .val (.int p5), .val (.int (3 : Int32)), .val (.int (own_a3 p2)), .val (.int ((3 : Int32) + (own_a3 p2))), .val (.ref b37_1), .val (.ref b3), .val (.int (0 : Int32)), .val (.int (1 : Int32)), .unset, .unset, .unset, .unset] [])) _
  exact hst₂
set_option maxRecDepth 65536 in
theorem own_law (l : Launch) (Z : State) (a0 : Array Value) (hw : ∀ d ∈ tables_1, d.before a0 Z = true) (ws : List Jvm.Cond) (G1 : Int32) (G3 : Value) (gl : own_Glob Z G1 G3) (p1 p2 p3 : Int32) (q4 : Int64) (p5 : Int32) (h0 : Heap) (n0 : Nat) (Z0 : n0 ≤ h0.size) (X00 : Old Z n0 h0) :
    MetFree l x (head1 (Jvm.Cond.code x code maxLocals ret :: ws) room_1) (fun a U => a = #[(.int p1), (.int p2), (.int p3), (.long q4), (.int p5)] ∧ Z.Warmed39 U.vm ∧ U.heap = h0) (fun _ _ _ _ _ => True) (fun _ U o U' => ∃ v L, o = .returned v ∧ own_Qlaw h0 n0 v U'.heap L ∧ FrameEnd U o U' L room_1.cells room_1.slots) := by
  by_cases hl : own_a3 p2 = 0
  · exact own_lawE l Z a0 hw ws G1 G3 gl p1 p2 p3 q4 p5 h0 n0 Z0 X00 hl
  · rcases own_a3c p1 with hs | hs | hs | hs
    · exact own_law0 l Z a0 hw ws G1 G3 gl p1 p2 p3 q4 p5 h0 n0 Z0 X00 hs hl
    · exact own_law1 l Z a0 hw ws G1 G3 gl p1 p2 p3 q4 p5 h0 n0 Z0 X00 hs hl
    · exact own_law2 l Z a0 hw ws G1 G3 gl p1 p2 p3 q4 p5 h0 n0 Z0 X00 hs hl
    · exact own_law3 l Z a0 hw ws G1 G3 gl p1 p2 p3 q4 p5 h0 n0 Z0 X00 hs hl
set_option maxRecDepth 65536 in
set_option maxHeartbeats 40000000 in
theorem comes_1 {Post : Tables → Env → Array Value → State → Outcome → State → Prop} (hpost : ∀ tb e args s v u, (limb_1_1.after args s (.returned v) u = true ∧ limb_1_2.after args s (.returned v) u = true ∧ True) → FrameEnd s (.returned v) u (Jvm.fieldLocs frame_1_writes args s ++ Jvm.arrayLocs frame_1_arrays args s ++ Jvm.staticLocs frame_1_statics s) 24 128 → Post tb e args s (.returned v) u) :
    ArmFor flags0 classFile x code maxLocals ret World_1 tables_1 room_1 Calls_1 rest_1 Pre_1 Post := by
  intro l hfl _ _ p e ha hc hk s m args below hf hA hF happ hP
  obtain ⟨hcalls, hrest, hpre⟩ := hP
  obtain ⟨-, -, -, hnamed, -, -, -, hat⟩ := (Spec.applies_iff hf).mp happ
  obtain ⟨hg, hn⟩ := and_e (Cond.before_iff.mp (show (Jvm.Cond.and given_1 narrow_1).before args s = true from hpre))
  obtain ⟨cj1, cj2⟩ := and_e hg
  obtain ⟨cj3, cj4⟩ := and_e cj2
  obtain ⟨cj5, cj6⟩ := and_e cj4
  obtain ⟨cj7, cj8⟩ := and_e cj6
  obtain ⟨cj9, cj10⟩ := and_e cj8
  obtain ⟨w0, w1, w2, w3, w4, rfl⟩ : ∃ w0 w1 w2 w3 w4 : Value, args = #[w0, w1, w2, w3, w4] := by
    have hs : args.size = 5 := by simpa [Cond.value, given_1] using cj1
    obtain ⟨L⟩ := args
    match L, hs with
    | [w0, w1, w2, w3, w4], _ => exact ⟨w0, w1, w2, w3, w4, rfl⟩
  have hw := fun d (hd : d ∈ tables_1) => atoms_spec (ws := Jvm.Cond.code x code maxLocals ret :: tables_1) hat d (List.mem_cons_of_mem _ hd)
  have hfit : Fit s := fun {y c} hc i hi => by
    obtain ⟨ha, rfl⟩ := Array.getElem?_eq_some_iff.mp hc
    have q := List.all_eq_true.mp ((Array.all_eq_true_iff_forall_mem.mp hF) _ (Array.getElem_mem ha)) i (List.mem_range.mpr hi)
    simpa [Array.getElem?_eq_getElem hi] using q
  obtain ⟨hsets, hown0⟩ := atoms_of _ (rest_1_c_eq ▸ (show rest_1_c.before _ s = true from hrest))
  have hr0 := Cond.before_iff.mp hown0
  obtain ⟨i0, ei0⟩ := is_v cj3
  obtain rfl : w0 = (.int i0) := Option.some.inj ei0
  obtain ⟨i1, ei1⟩ := is_v cj5
  obtain rfl : w1 = (.int i1) := Option.some.inj ei1
  obtain ⟨i2, ei2⟩ := is_v cj7
  obtain rfl : w2 = (.int i2) := Option.some.inj ei2
  obtain ⟨i3, ei3⟩ := isL_v cj9
  obtain rfl : w3 = (.long i3) := Option.some.inj ei3
  obtain ⟨i4, ei4⟩ := is_v cj10
  obtain rfl : w4 = (.int i4) := Option.some.inj ei4
  obtain ⟨G1, eG1⟩ := is_v (Cond.before_iff.mp (hsets _ (List.mem_of_getElem? (i := 1) rfl)))
  have O_CS : Sta s s.heap "java/lang/String" "COMPACT_STRINGS" "Z" (.int G1) := Sta.start eG1 (Or.inl (hsets _ (List.mem_of_getElem? (i := 0) rfl)))
  have P_CS : ¬ (G1 = (0 : Int32)) := gotF (Cond.eq_ints eG1 (Term.int_eval (0))) (not_v (Cond.before_iff.mp (hsets _ (List.mem_of_getElem? (i := 2) rfl))))
  obtain ⟨G3, eG3, P_SI⟩ := isR_v (Cond.before_iff.mp (hsets _ (List.mem_of_getElem? (i := 8) rfl)))
  have O_SI : Sta s s.heap "jdk/internal/util/Preconditions" "SIOOBE_FORMATTER" "Ljava/util/function/BiFunction;" G3 := Sta.start eG3 (Or.inl (hsets _ (List.mem_of_getElem? (i := 7) rfl)))
  obtain ⟨n, o, h1, h2, h3, _, L, rfl, ⟨rfl, N⟩, hq⟩ := own_law l s _ hw tables_1 G1 G3 ⟨O_CS, P_CS, O_SI, P_SI⟩ i0 i1 i2 i3 i4 s.heap s.heap.size (Nat.le_refl _) (Old.start s) p e ha hc hk s m _ below hf ((Spec.applies_iff_loose hf).mp happ).1 ⟨rfl, State.Warmed39.refl s, rfl⟩ trivial
  refine ⟨n, _, h1, h2, h3, hpost _ _ _ _ _ _ ⟨Cond.after_iff.mpr rfl, Cond.after_iff.mpr (eq_i res_at (Term.int_eval (1)) rfl), trivial⟩ ⟨hq.1, hq.2.1, (hq.2.2.sift fun y hy => Or.inr (N y hy)).mono (by decide) (by decide)⟩⟩
theorem main_1_1 : Claimed_1_1 := comes_1 fun _ _ _ _ _ _ h hF => ⟨h.1, hF⟩
theorem main_1_2 : Claimed_1_2 := comes_1 fun _ _ _ _ _ _ h hF => ⟨h.2.1, hF⟩
end Jvm.Pilot.@@N@@
namespace Jvm.Pilot.@@N@@
open Jvm Jvm.ClassFile Sem Op Lib Jvm.Free Jvm.Stand Jvm.Pilot.@@N@@.Jvm.D
/-! MADE BY PROGRAM (witnessworld.py) out of the Statement's table words and the real class files: 21 classes; the members and pool entries that the words name. The judged class is class 1, her method 2. -/
namespace start1
open Jvm.ClassFile
def u (s : String) : CpInfo := .utf8 (stringToUtf16 s)
/-- a pool by its gaps: so many unusable entries, then the entry; so many at the end -/
def gap : Nat → List CpInfo → List CpInfo
  | 0, r => r
  | n + 1, r => .unusable :: gap n r
def poolList (es : List (Nat × CpInfo)) (last : Nat) : List CpInfo := es.foldr (fun e r => gap e.1 (e.2 :: r)) (gap last [])
def pool (es : List (Nat × CpInfo)) (last : Nat) : Array CpInfo := ⟨poolList es last⟩
def fileOf (pool : Array CpInfo) (this : Nat) (attrs : Array Attribute := #[]) (ms : Array MethodInfo := #[]) (fl : Nat := 33) (sup : Nat := 0) (ifs : Array Nat := #[]) (fds : Array FieldInfo := #[]) : ClassFile where
  minorVersion := 0
  majorVersion := 65
  constantPool := pool
  accessFlags := fl
  thisClass := this
  superClass := sup
  interfaces := ifs
  fields := fds
  methods := ms
  attributes := attrs
def plain (name : String) (sup : Option ClassId) : Class where
  name := name
  kind := .ordinary
  loader := none
  accessFlags := 33
  super := sup
  interfaces := #[]
  cf := none
  fields := #[]
  methods := #[]
  instanceTypes := #[]
  staticTypes := #[]
  resolved := #[]
  callSites := []
  init := .initialized
  statics := none
  mirror := none

def pool0 : Array CpInfo := pool [(5, u "<init>"), (0, u "()V"), (1, .class_ 10), (1, u "java/lang/Object")] 113

def k0c0 : Code := { maxStack := 0, maxLocals := 1, code := object_method_1_code, exceptionTable := #[], attributes := #[] }
def k0m0 : Method := { name := "<init>", desc := "()V", sig := { parameters := [], returnType := none }, accessFlags := 1, code := some k0c0 }
/-- java/lang/Object -/
def k0 : Class := { plain "java/lang/Object" none with
  accessFlags := 33
  interfaces := #[]
  cf := some (fileOf pool0 8 #[] #[{ accessFlags := 1, nameIndex := 5, descriptorIndex := 6, attributes := #[] }] 33 0 #[] #[])
  fields := #[]
  methods := #[k0m0]
  instanceTypes := #[]
  staticTypes := #[]
  resolved := Array.replicate 124 none
  statics := none }

def pool1 : Array CpInfo := pool [(2, .class_ 4), (1, u "java/lang/Object"), (0, u "<init>"), (0, u "()V"), (0, .long 255), (1, .class_ 10), (0, u "java/lang/String"), (0, .methodref 9 12), (0, .nameAndType 5 13), (0, u "([C)V"), (0, .methodref 15 16), (0, .class_ 17), (0, .nameAndType 18 19), (0, u "com/example/incorpus/incorpus/SpanIsEmptyPinLaw"), (0, u "text"), (0, u "(J)Ljava/lang/String;"), (0, .class_ 21), (0, u "com/example/incorpus/incorpus/Span"), (0, .methodref 20 23), (0, .nameAndType 5 24), (0, u "(II)V"), (0, .methodref 20 26), (0, .nameAndType 27 28), (0, u "isEmpty"), (0, u "()Z"), (0, .methodref 20 30), (0, .nameAndType 31 32), (0, u "indexOf"), (0, u "(CLjava/lang/String;)I"), (0, .methodref 9 34), (0, .nameAndType 35 36), (0, u "charAt"), (0, u "(I)C"), (0, .integer 2147483647), (0, .integer 2147483644), (2, u "law"), (0, u "(IIIJI)Z")] 3

def k1m0 : Method := { name := "<init>", desc := "()V", sig := { parameters := [], returnType := none }, accessFlags := 1, code := none }
def k1c1 : Code := { maxStack := 6, maxLocals := 3, code := method_2_code, exceptionTable := #[], attributes := #[] }
def k1m1 : Method := { name := "text", desc := "(J)Ljava/lang/String;", sig := { parameters := [.long], returnType := some (.object "java/lang/String") }, accessFlags := 10, code := some k1c1 }
def k1c2 : Code := { maxStack := 5, maxLocals := 17, code := code, exceptionTable := #[], attributes := #[] }
def k1m2 : Method := { name := "law", desc := "(IIIJI)Z", sig := { parameters := [.int, .int, .int, .long, .int], returnType := some .boolean }, accessFlags := 9, code := some k1c2 }
/-- com/example/incorpus/incorpus/SpanIsEmptyPinLaw -/
def k1 : Class := { plain "com/example/incorpus/incorpus/SpanIsEmptyPinLaw" (some 0) with
  accessFlags := 49
  interfaces := #[]
  cf := some (fileOf pool1 15 #[] #[{ accessFlags := 1, nameIndex := 5, descriptorIndex := 6, attributes := #[] }, { accessFlags := 10, nameIndex := 18, descriptorIndex := 19, attributes := #[] }, { accessFlags := 9, nameIndex := 41, descriptorIndex := 42, attributes := #[] }] 49 2 #[] #[])
  fields := #[]
  methods := #[k1m0, k1m1, k1m2]
  instanceTypes := #[]
  staticTypes := #[]
  resolved := Array.replicate 46 none
  statics := none }

def pool2 : Array CpInfo := pool [(1, .class_ 2), (0, u "java/io/Serializable"), (0, .class_ 4), (0, u "java/lang/Object")] 2

/-- java/io/Serializable -/
def k2 : Class := { plain "java/io/Serializable" (some 0) with
  accessFlags := 1537
  interfaces := #[]
  cf := some (fileOf pool2 1 #[] #[] 1537 3 #[] #[])
  fields := #[]
  methods := #[]
  instanceTypes := #[]
  staticTypes := #[]
  resolved := Array.replicate 7 none
  statics := none }

def pool3 : Array CpInfo := pool [(1, .class_ 2), (0, u "java/lang/Comparable"), (0, .class_ 4), (0, u "java/lang/Object")] 7

/-- java/lang/Comparable -/
def k3 : Class := { plain "java/lang/Comparable" (some 0) with
  accessFlags := 1537
  interfaces := #[]
  cf := some (fileOf pool3 1 #[] #[] 1537 3 #[] #[])
  fields := #[]
  methods := #[]
  instanceTypes := #[]
  staticTypes := #[]
  resolved := Array.replicate 12 none
  statics := none }

def pool4 : Array CpInfo := pool [(2, .class_ 4), (1, u "java/lang/CharSequence"), (42, .class_ 48), (0, u "java/lang/CharSequence$1CodePointIterator"), (10, .class_ 60), (0, u "java/lang/CharSequence$1CharIterator"), (5, .class_ 67), (0, u "java/lang/Object")] 63

/-- java/lang/CharSequence -/
def k4 : Class := { plain "java/lang/CharSequence" (some 0) with
  accessFlags := 1537
  interfaces := #[]
  cf := some (fileOf pool4 2 #[.nestMembers #[47, 59]] #[] 1537 66 #[] #[])
  fields := #[]
  methods := #[]
  instanceTypes := #[]
  staticTypes := #[]
  resolved := Array.replicate 131 none
  statics := none }

def pool5 : Array CpInfo := pool [(1, .class_ 2), (0, u "java/lang/constant/Constable"), (0, .class_ 4), (0, u "java/lang/Object")] 6

/-- java/lang/constant/Constable -/
def k5 : Class := { plain "java/lang/constant/Constable" (some 0) with
  accessFlags := 1537
  interfaces := #[]
  cf := some (fileOf pool5 1 #[] #[] 1537 3 #[] #[])
  fields := #[]
  methods := #[]
  instanceTypes := #[]
  staticTypes := #[]
  resolved := Array.replicate 11 none
  statics := none }

def pool6 : Array CpInfo := pool [(1, .class_ 2), (0, u "java/lang/constant/ConstantDesc"), (0, .class_ 4), (0, u "java/lang/Object")] 32

/-- java/lang/constant/ConstantDesc -/
def k6 : Class := { plain "java/lang/constant/ConstantDesc" (some 0) with
  accessFlags := 1537
  interfaces := #[]
  cf := some (fileOf pool6 1 #[] #[] 1537 3 #[] #[])
  fields := #[]
  methods := #[]
  instanceTypes := #[]
  staticTypes := #[]
  resolved := Array.replicate 37 none
  statics := none }

def pool7 : Array CpInfo := pool [(1, .methodref 2 3), (0, .class_ 4), (0, .nameAndType 5 6), (0, u "java/lang/Object"), (0, u "<init>"), (0, u "()V"), (2, .fieldref 10 11), (0, .class_ 12), (0, .nameAndType 13 14), (0, u "java/lang/String"), (0, u "value"), (0, u "[B"), (0, .fieldref 10 16), (0, .nameAndType 17 18), (0, u "coder"), (0, u "B"), (2, u "hash"), (0, u "I"), (2, u "hashIsZero"), (0, u "Z"), (0, .methodref 10 28), (0, .nameAndType 5 29), (0, u "([CIILjava/lang/Void;)V"), (8, .fieldref 10 39), (0, .nameAndType 40 26), (0, u "COMPACT_STRINGS"), (1, .class_ 44), (1, u "java/lang/StringUTF16"), (0, u "compress"), (1, .methodref 42 48), (0, .nameAndType 49 50), (0, u "coderFromArrayLen"), (0, u "([BI)B"), (56, .class_ 109), (1, u "java/lang/StringLatin1"), (32, u "()Z"), (34, .methodref 42 178), (0, .nameAndType 45 179), (0, u "([CII)[B"), (183, u "([BI)C"), (27, u "(II)V"), (35, u "(I)C"), (64, .methodref 10 493), (0, .nameAndType 494 142), (0, u "isLatin1"), (0, .methodref 107 496), (0, .nameAndType 497 363), (0, u "charAt"), (3, u "checkIndex"), (73, .class_ 576), (0, u "java/lang/CharSequence"), (22, u "CASE_INSENSITIVE_ORDER"), (0, u "Ljava/util/Comparator;"), (409, u "([C)V"), (42, .fieldref 1054 1055), (0, .class_ 1056), (0, .nameAndType 1057 1058), (0, u "jdk/internal/util/Preconditions"), (0, u "SIOOBE_FORMATTER"), (0, u "Ljava/util/function/BiFunction;"), (0, .methodref 1054 1060), (0, .nameAndType 501 1061), (0, u "(IILjava/util/function/BiFunction;)I"), (39, u "serialPersistentFields"), (0, u "[Ljava/io/ObjectStreamField;"), (0, .class_ 1104), (0, u "java/lang/String$CaseInsensitiveComparator"), (1, .class_ 1107), (0, u "java/io/Serializable"), (0, .class_ 1109), (0, u "java/lang/Comparable"), (0, .class_ 1111), (0, u "java/lang/constant/Constable"), (0, .class_ 1113), (0, u "java/lang/constant/ConstantDesc"), (2, u "serialVersionUID"), (0, u "J"), (3, u "REPL"), (0, u "C"), (2, u "LATIN1"), (1, u "UTF16")] 323

def k7m0 : Method := { name := "<init>", desc := "()V", sig := { parameters := [], returnType := none }, accessFlags := 1, code := none }
def k7c1 : Code := { maxStack := 5, maxLocals := 2, code := jdk_42_method_3_code, exceptionTable := #[], attributes := #[] }
def k7m1 : Method := { name := "<init>", desc := "([C)V", sig := { parameters := [(.array .char)], returnType := none }, accessFlags := 1, code := some k7c1 }
def k7c2 : Code := { maxStack := 2, maxLocals := 2, code := jdk_42_method_56_code, exceptionTable := #[], attributes := #[] }
def k7m2 : Method := { name := "charAt", desc := "(I)C", sig := { parameters := [.int], returnType := some .char }, accessFlags := 1, code := some k7c2 }
def k7c3 : Code := { maxStack := 4, maxLocals := 6, code := jdk_42_method_149_code, exceptionTable := #[], attributes := #[] }
def k7m3 : Method := { name := "<init>", desc := "([CIILjava/lang/Void;)V", sig := { parameters := [(.array .char), .int, .int, (.object "java/lang/Void")], returnType := none }, accessFlags := 2, code := some k7c3 }
def k7c4 : Code := { maxStack := 1, maxLocals := 1, code := jdk_42_method_154_code, exceptionTable := #[], attributes := #[] }
def k7m4 : Method := { name := "isLatin1", desc := "()Z", sig := { parameters := [], returnType := some .boolean }, accessFlags := 0, code := some k7c4 }
def k7c5 : Code := { maxStack := 3, maxLocals := 2, code := jdk_42_method_155_code, exceptionTable := #[], attributes := #[] }
def k7m5 : Method := { name := "checkIndex", desc := "(II)V", sig := { parameters := [.int, .int], returnType := none }, accessFlags := 8, code := some k7c5 }
/-- java/lang/String -/
def k7 : Class := { plain "java/lang/String" (some 0) with
  accessFlags := 49
  interfaces := #[2, 3, 4, 5, 6]
  cf := some (fileOf pool7 10 #[.nestMembers #[1103]] #[{ accessFlags := 1, nameIndex := 5, descriptorIndex := 6, attributes := #[] }, { accessFlags := 1, nameIndex := 5, descriptorIndex := 1010, attributes := #[] }, { accessFlags := 1, nameIndex := 497, descriptorIndex := 427, attributes := #[] }, { accessFlags := 2, nameIndex := 5, descriptorIndex := 29, attributes := #[] }, { accessFlags := 0, nameIndex := 494, descriptorIndex := 142, attributes := #[] }, { accessFlags := 8, nameIndex := 501, descriptorIndex := 391, attributes := #[] }] 49 2 #[1106, 1108, 575, 1110, 1112] #[{ accessFlags := 18, nameIndex := 13, descriptorIndex := 14, attributes := #[] }, { accessFlags := 18, nameIndex := 17, descriptorIndex := 18, attributes := #[] }, { accessFlags := 2, nameIndex := 21, descriptorIndex := 22, attributes := #[] }, { accessFlags := 2, nameIndex := 25, descriptorIndex := 26, attributes := #[] }, { accessFlags := 26, nameIndex := 1116, descriptorIndex := 1117, attributes := #[] }, { accessFlags := 24, nameIndex := 40, descriptorIndex := 26, attributes := #[] }, { accessFlags := 26, nameIndex := 1101, descriptorIndex := 1102, attributes := #[] }, { accessFlags := 26, nameIndex := 1121, descriptorIndex := 1122, attributes := #[] }, { accessFlags := 25, nameIndex := 599, descriptorIndex := 600, attributes := #[] }, { accessFlags := 24, nameIndex := 1125, descriptorIndex := 18, attributes := #[] }, { accessFlags := 24, nameIndex := 1127, descriptorIndex := 18, attributes := #[] }])
  fields := #[{ name := "value", type := (.array .byte), accessFlags := 18, slot := 0, constantValue := 0 }, { name := "coder", type := .byte, accessFlags := 18, slot := 1, constantValue := 0 }, { name := "hash", type := .int, accessFlags := 2, slot := 2, constantValue := 0 }, { name := "hashIsZero", type := .boolean, accessFlags := 2, slot := 3, constantValue := 0 }, { name := "serialVersionUID", type := .long, accessFlags := 26, slot := 0, constantValue := 0 }, { name := "COMPACT_STRINGS", type := .boolean, accessFlags := 24, slot := 1, constantValue := 0 }, { name := "serialPersistentFields", type := (.array (.object "java/io/ObjectStreamField")), accessFlags := 26, slot := 2, constantValue := 0 }, { name := "REPL", type := .char, accessFlags := 26, slot := 3, constantValue := 0 }, { name := "CASE_INSENSITIVE_ORDER", type := (.object "java/util/Comparator"), accessFlags := 25, slot := 4, constantValue := 0 }, { name := "LATIN1", type := .byte, accessFlags := 24, slot := 5, constantValue := 0 }, { name := "UTF16", type := .byte, accessFlags := 24, slot := 6, constantValue := 0 }]
  methods := #[k7m0, k7m1, k7m2, k7m3, k7m4, k7m5]
  instanceTypes := #[(.array .byte), .byte, .int, .boolean]
  staticTypes := #[.long, .boolean, (.array (.object "java/io/ObjectStreamField")), .char, (.object "java/util/Comparator"), .byte, .byte]
  resolved := Array.replicate 1451 none
  statics := some 0 }

def pool8 : Array CpInfo := pool [(6, .class_ 8), (1, u "java/lang/Object"), (0, u "<init>"), (0, u "()V"), (1, .class_ 14), (1, u "java/lang/StringUTF16"), (31, u "$assertionsDisabled"), (0, u "Z"), (13, u "HI_BYTE_SHIFT"), (0, u "I"), (2, u "LO_BYTE_SHIFT"), (49, .methodref 12 116), (0, .nameAndType 117 118), (0, u "compress"), (0, u "([CI[BII)I"), (3, u "([CII)[B"), (138, u "coderFromArrayLen"), (0, u "([BI)B"), (106, .class_ 371), (1, u "java/lang/StringUTF16$LinesSpliterator"), (58, u "MAX_LENGTH"), (196, .class_ 628), (0, u "java/lang/StringUTF16$CodePointsSpliterator"), (0, .class_ 630), (0, u "java/lang/StringUTF16$CharsSpliterator")] 4

def k8m0 : Method := { name := "<init>", desc := "()V", sig := { parameters := [], returnType := none }, accessFlags := 0, code := none }
def k8c1 : Code := { maxStack := 2, maxLocals := 2, code := jdk_52_method_15_code, exceptionTable := #[], attributes := #[] }
def k8m1 : Method := { name := "coderFromArrayLen", desc := "([BI)B", sig := { parameters := [(.array .byte), .int], returnType := some .byte }, accessFlags := 8, code := some k8c1 }
def k8c2 : Code := { maxStack := 5, maxLocals := 6, code := jdk_52_method_16_code, exceptionTable := #[], attributes := #[] }
def k8m2 : Method := { name := "compress", desc := "([CII)[B", sig := { parameters := [(.array .char), .int, .int], returnType := some (.array .byte) }, accessFlags := 9, code := some k8c2 }
def k8c3 : Code := { maxStack := 3, maxLocals := 7, code := jdk_52_method_21_code, exceptionTable := #[], attributes := #[] }
def k8m3 : Method := { name := "compress", desc := "([CI[BII)I", sig := { parameters := [(.array .char), .int, (.array .byte), .int, .int], returnType := some .int }, accessFlags := 9, code := some k8c3 }
/-- java/lang/StringUTF16 -/
def k8 : Class := { plain "java/lang/StringUTF16" (some 0) with
  accessFlags := 48
  interfaces := #[]
  cf := some (fileOf pool8 12 #[.nestMembers #[627, 629, 369]] #[{ accessFlags := 0, nameIndex := 9, descriptorIndex := 10, attributes := #[] }, { accessFlags := 8, nameIndex := 261, descriptorIndex := 262, attributes := #[] }, { accessFlags := 9, nameIndex := 117, descriptorIndex := 122, attributes := #[] }, { accessFlags := 9, nameIndex := 117, descriptorIndex := 118, attributes := #[] }] 48 6 #[] #[{ accessFlags := 26, nameIndex := 61, descriptorIndex := 62, attributes := #[] }, { accessFlags := 26, nameIndex := 65, descriptorIndex := 62, attributes := #[] }, { accessFlags := 24, nameIndex := 430, descriptorIndex := 62, attributes := #[] }, { accessFlags := 4120, nameIndex := 46, descriptorIndex := 47, attributes := #[] }])
  fields := #[{ name := "HI_BYTE_SHIFT", type := .int, accessFlags := 26, slot := 0, constantValue := 0 }, { name := "LO_BYTE_SHIFT", type := .int, accessFlags := 26, slot := 1, constantValue := 0 }, { name := "MAX_LENGTH", type := .int, accessFlags := 24, slot := 2, constantValue := 0 }, { name := "$assertionsDisabled", type := .boolean, accessFlags := 4120, slot := 3, constantValue := 0 }]
  methods := #[k8m0, k8m1, k8m2, k8m3]
  instanceTypes := #[]
  staticTypes := #[.int, .int, .int, .boolean]
  resolved := Array.replicate 635 none
  statics := none }

def pool9 : Array CpInfo := pool [(1, .methodref 2 3), (0, .class_ 4), (0, .nameAndType 5 6), (0, u "java/lang/Object"), (0, u "<init>"), (0, u "()V"), (0, .class_ 8), (0, u "java/lang/Record")] 13

def k9c0 : Code := { maxStack := 1, maxLocals := 1, code := jdk_30_method_1_code, exceptionTable := #[], attributes := #[] }
def k9m0 : Method := { name := "<init>", desc := "()V", sig := { parameters := [], returnType := none }, accessFlags := 4, code := some k9c0 }
/-- java/lang/Record -/
def k9 : Class := { plain "java/lang/Record" (some 0) with
  accessFlags := 1057
  interfaces := #[]
  cf := some (fileOf pool9 7 #[] #[{ accessFlags := 4, nameIndex := 5, descriptorIndex := 6, attributes := #[] }] 1057 2 #[] #[])
  fields := #[]
  methods := #[k9m0]
  instanceTypes := #[]
  staticTypes := #[]
  resolved := Array.replicate 22 none
  statics := none }

def pool10 : Array CpInfo := pool [(1, .methodref 2 3), (0, .class_ 4), (0, .nameAndType 5 6), (0, u "java/lang/Record"), (0, u "<init>"), (0, u "()V"), (9, .fieldref 17 18), (0, .class_ 19), (0, .nameAndType 20 21), (0, u "com/example/incorpus/incorpus/Span"), (0, u "start"), (0, u "I"), (0, .fieldref 17 23), (0, .nameAndType 24 21), (0, u "end"), (15, u "()Z"), (0, .methodref 42 43), (0, .class_ 44), (0, .nameAndType 45 46), (0, u "java/lang/String"), (0, u "charAt"), (0, u "(I)C"), (12, u "(II)V"), (4, u "isEmpty"), (2, u "indexOf"), (0, u "(CLjava/lang/String;)I")] 33

def k10c0 : Code := { maxStack := 4, maxLocals := 3, code := prog_42_method_1_code, exceptionTable := #[], attributes := #[] }
def k10m0 : Method := { name := "<init>", desc := "(II)V", sig := { parameters := [.int, .int], returnType := none }, accessFlags := 0, code := some k10c0 }
def k10c1 : Code := { maxStack := 2, maxLocals := 1, code := prog_42_method_2_code, exceptionTable := #[], attributes := #[] }
def k10m1 : Method := { name := "isEmpty", desc := "()Z", sig := { parameters := [], returnType := some .boolean }, accessFlags := 0, code := some k10c1 }
def k10c2 : Code := { maxStack := 2, maxLocals := 4, code := prog_42_method_4_code, exceptionTable := #[], attributes := #[] }
def k10m2 : Method := { name := "indexOf", desc := "(CLjava/lang/String;)I", sig := { parameters := [.char, (.object "java/lang/String")], returnType := some .int }, accessFlags := 0, code := some k10c2 }
/-- com/example/incorpus/incorpus/Span -/
def k10 : Class := { plain "com/example/incorpus/incorpus/Span" (some 9) with
  accessFlags := 48
  interfaces := #[]
  cf := some (fileOf pool10 17 #[] #[{ accessFlags := 0, nameIndex := 5, descriptorIndex := 59, attributes := #[] }, { accessFlags := 0, nameIndex := 64, descriptorIndex := 40, attributes := #[] }, { accessFlags := 0, nameIndex := 67, descriptorIndex := 68, attributes := #[] }] 48 2 #[] #[{ accessFlags := 18, nameIndex := 20, descriptorIndex := 21, attributes := #[] }, { accessFlags := 18, nameIndex := 24, descriptorIndex := 21, attributes := #[] }])
  fields := #[{ name := "start", type := .int, accessFlags := 18, slot := 0, constantValue := 0 }, { name := "end", type := .int, accessFlags := 18, slot := 1, constantValue := 0 }]
  methods := #[k10m0, k10m1, k10m2]
  instanceTypes := #[.int, .int]
  staticTypes := #[]
  resolved := Array.replicate 102 none
  statics := none }

def pool11 : Array CpInfo := pool [(1, .class_ 2), (0, u "java/lang/String"), (1, .class_ 6), (1, u "java/lang/Object"), (0, u "<init>"), (0, u "()V"), (0, .methodref 1 10), (0, .nameAndType 11 12), (0, u "checkIndex"), (0, u "(II)V"), (1, .class_ 16), (1, u "java/lang/StringLatin1"), (36, u "([BI)C"), (67, u "$assertionsDisabled"), (0, u "Z"), (98, .class_ 223), (1, u "java/lang/StringLatin1$LinesSpliterator"), (28, u "charAt"), (137, .class_ 391), (0, u "java/lang/StringLatin1$CharsSpliterator")] 3

def k11m0 : Method := { name := "<init>", desc := "()V", sig := { parameters := [], returnType := none }, accessFlags := 0, code := none }
def k11c1 : Code := { maxStack := 2, maxLocals := 2, code := jdk_43_method_2_code, exceptionTable := #[], attributes := #[] }
def k11m1 : Method := { name := "charAt", desc := "([BI)C", sig := { parameters := [(.array .byte), .int], returnType := some .char }, accessFlags := 9, code := some k11c1 }
/-- java/lang/StringLatin1 -/
def k11 : Class := { plain "java/lang/StringLatin1" (some 0) with
  accessFlags := 48
  interfaces := #[]
  cf := some (fileOf pool11 14 #[.nestMembers #[390, 221]] #[{ accessFlags := 0, nameIndex := 7, descriptorIndex := 8, attributes := #[] }, { accessFlags := 9, nameIndex := 252, descriptorIndex := 53, attributes := #[] }] 48 4 #[] #[{ accessFlags := 4120, nameIndex := 121, descriptorIndex := 122, attributes := #[] }])
  fields := #[{ name := "$assertionsDisabled", type := .boolean, accessFlags := 4120, slot := 0, constantValue := 0 }]
  methods := #[k11m0, k11m1]
  instanceTypes := #[]
  staticTypes := #[.boolean]
  resolved := Array.replicate 395 none
  statics := none }

def pool12 : Array CpInfo := pool [(2, .class_ 4), (1, u "java/lang/Object"), (0, u "<init>"), (0, u "()V"), (17, .class_ 26), (1, u "jdk/internal/util/Preconditions"), (6, u "checkIndex"), (21, .class_ 56), (0, u "jdk/internal/util/Preconditions$4"), (57, .class_ 115), (0, u "jdk/internal/util/Preconditions$1"), (7, u "SIOOBE_FORMATTER"), (0, u "Ljava/util/function/BiFunction;"), (0, .class_ 126), (0, u "jdk/internal/util/Preconditions$2"), (3, u "AIOOBE_FORMATTER"), (0, .class_ 132), (0, u "jdk/internal/util/Preconditions$3"), (3, u "IOOBE_FORMATTER"), (41, u "(IILjava/util/function/BiFunction;)I")] 15

def k12m0 : Method := { name := "<init>", desc := "()V", sig := { parameters := [], returnType := none }, accessFlags := 1, code := none }
def k12c1 : Code := { maxStack := 3, maxLocals := 3, code := jdk_41_method_11_code, exceptionTable := #[], attributes := #[] }
def k12m1 : Method := { name := "checkIndex", desc := "(IILjava/util/function/BiFunction;)I", sig := { parameters := [.int, .int, (.object "java/util/function/BiFunction")], returnType := some .int }, accessFlags := 9, code := some k12c1 }
/-- jdk/internal/util/Preconditions -/
def k12 : Class := { plain "jdk/internal/util/Preconditions" (some 0) with
  accessFlags := 33
  interfaces := #[]
  cf := some (fileOf pool12 24 #[.nestMembers #[55, 131, 125, 114]] #[{ accessFlags := 1, nameIndex := 5, descriptorIndex := 6, attributes := #[] }, { accessFlags := 9, nameIndex := 33, descriptorIndex := 178, attributes := #[] }] 33 2 #[] #[{ accessFlags := 25, nameIndex := 123, descriptorIndex := 124, attributes := #[] }, { accessFlags := 25, nameIndex := 130, descriptorIndex := 124, attributes := #[] }, { accessFlags := 25, nameIndex := 136, descriptorIndex := 124, attributes := #[] }])
  fields := #[{ name := "SIOOBE_FORMATTER", type := (.object "java/util/function/BiFunction"), accessFlags := 25, slot := 0, constantValue := 0 }, { name := "AIOOBE_FORMATTER", type := (.object "java/util/function/BiFunction"), accessFlags := 25, slot := 1, constantValue := 0 }, { name := "IOOBE_FORMATTER", type := (.object "java/util/function/BiFunction"), accessFlags := 25, slot := 2, constantValue := 0 }]
  methods := #[k12m0, k12m1]
  instanceTypes := #[]
  staticTypes := #[(.object "java/util/function/BiFunction"), (.object "java/util/function/BiFunction"), (.object "java/util/function/BiFunction")]
  resolved := Array.replicate 194 none
  statics := some 1 }

def pool13 : Array CpInfo := pool [(9, u "<init>"), (6, .class_ 18), (1, u "java/lang/Object"), (0, u "()V"), (1, .class_ 23), (1, u "jdk/internal/util/ArraysSupport"), (0, u "LOG2_ARRAY_LONG_INDEX_SCALE"), (0, u "I"), (2, u "U"), (0, u "Ljdk/internal/misc/Unsafe;"), (8, u "BIG_ENDIAN"), (0, u "Z"), (8, u "LOG2_BYTE_BIT_SIZE"), (4, u "LOG2_ARRAY_INT_INDEX_SCALE"), (54, u "JLA"), (0, u "Ljdk/internal/access/JavaLangAccess;"), (11, u "LOG2_ARRAY_BOOLEAN_INDEX_SCALE"), (9, u "LOG2_ARRAY_BYTE_INDEX_SCALE"), (5, u "LOG2_ARRAY_CHAR_INDEX_SCALE"), (5, u "LOG2_ARRAY_SHORT_INDEX_SCALE"), (18, u "LOG2_ARRAY_FLOAT_INDEX_SCALE"), (24, u "LOG2_ARRAY_DOUBLE_INDEX_SCALE"), (89, u "T_BOOLEAN"), (2, u "T_CHAR"), (1, u "T_FLOAT"), (1, u "T_DOUBLE"), (1, u "T_BYTE"), (1, u "T_SHORT"), (1, u "T_INT"), (1, u "T_LONG"), (1, u "SOFT_MAX_ARRAY_LENGTH")] 83

def k13m0 : Method := { name := "<init>", desc := "()V", sig := { parameters := [], returnType := none }, accessFlags := 2, code := none }
/-- jdk/internal/util/ArraysSupport -/
def k13 : Class := { plain "jdk/internal/util/ArraysSupport" (some 0) with
  accessFlags := 33
  interfaces := #[]
  cf := some (fileOf pool13 21 #[] #[{ accessFlags := 2, nameIndex := 9, descriptorIndex := 19, attributes := #[] }] 33 16 #[] #[{ accessFlags := 24, nameIndex := 28, descriptorIndex := 29, attributes := #[] }, { accessFlags := 26, nameIndex := 38, descriptorIndex := 39, attributes := #[] }, { accessFlags := 25, nameIndex := 121, descriptorIndex := 25, attributes := #[] }, { accessFlags := 25, nameIndex := 131, descriptorIndex := 25, attributes := #[] }, { accessFlags := 25, nameIndex := 137, descriptorIndex := 25, attributes := #[] }, { accessFlags := 25, nameIndex := 143, descriptorIndex := 25, attributes := #[] }, { accessFlags := 25, nameIndex := 53, descriptorIndex := 25, attributes := #[] }, { accessFlags := 25, nameIndex := 24, descriptorIndex := 25, attributes := #[] }, { accessFlags := 25, nameIndex := 162, descriptorIndex := 25, attributes := #[] }, { accessFlags := 25, nameIndex := 187, descriptorIndex := 25, attributes := #[] }, { accessFlags := 26, nameIndex := 48, descriptorIndex := 25, attributes := #[] }, { accessFlags := 25, nameIndex := 277, descriptorIndex := 25, attributes := #[] }, { accessFlags := 25, nameIndex := 280, descriptorIndex := 25, attributes := #[] }, { accessFlags := 25, nameIndex := 282, descriptorIndex := 25, attributes := #[] }, { accessFlags := 25, nameIndex := 284, descriptorIndex := 25, attributes := #[] }, { accessFlags := 25, nameIndex := 286, descriptorIndex := 25, attributes := #[] }, { accessFlags := 25, nameIndex := 288, descriptorIndex := 25, attributes := #[] }, { accessFlags := 25, nameIndex := 290, descriptorIndex := 25, attributes := #[] }, { accessFlags := 25, nameIndex := 292, descriptorIndex := 25, attributes := #[] }, { accessFlags := 26, nameIndex := 108, descriptorIndex := 109, attributes := #[] }, { accessFlags := 25, nameIndex := 294, descriptorIndex := 25, attributes := #[] }])
  fields := #[{ name := "U", type := (.object "jdk/internal/misc/Unsafe"), accessFlags := 24, slot := 0, constantValue := 0 }, { name := "BIG_ENDIAN", type := .boolean, accessFlags := 26, slot := 1, constantValue := 0 }, { name := "LOG2_ARRAY_BOOLEAN_INDEX_SCALE", type := .int, accessFlags := 25, slot := 2, constantValue := 0 }, { name := "LOG2_ARRAY_BYTE_INDEX_SCALE", type := .int, accessFlags := 25, slot := 3, constantValue := 0 }, { name := "LOG2_ARRAY_CHAR_INDEX_SCALE", type := .int, accessFlags := 25, slot := 4, constantValue := 0 }, { name := "LOG2_ARRAY_SHORT_INDEX_SCALE", type := .int, accessFlags := 25, slot := 5, constantValue := 0 }, { name := "LOG2_ARRAY_INT_INDEX_SCALE", type := .int, accessFlags := 25, slot := 6, constantValue := 0 }, { name := "LOG2_ARRAY_LONG_INDEX_SCALE", type := .int, accessFlags := 25, slot := 7, constantValue := 0 }, { name := "LOG2_ARRAY_FLOAT_INDEX_SCALE", type := .int, accessFlags := 25, slot := 8, constantValue := 0 }, { name := "LOG2_ARRAY_DOUBLE_INDEX_SCALE", type := .int, accessFlags := 25, slot := 9, constantValue := 0 }, { name := "LOG2_BYTE_BIT_SIZE", type := .int, accessFlags := 26, slot := 10, constantValue := 0 }, { name := "T_BOOLEAN", type := .int, accessFlags := 25, slot := 11, constantValue := 0 }, { name := "T_CHAR", type := .int, accessFlags := 25, slot := 12, constantValue := 0 }, { name := "T_FLOAT", type := .int, accessFlags := 25, slot := 13, constantValue := 0 }, { name := "T_DOUBLE", type := .int, accessFlags := 25, slot := 14, constantValue := 0 }, { name := "T_BYTE", type := .int, accessFlags := 25, slot := 15, constantValue := 0 }, { name := "T_SHORT", type := .int, accessFlags := 25, slot := 16, constantValue := 0 }, { name := "T_INT", type := .int, accessFlags := 25, slot := 17, constantValue := 0 }, { name := "T_LONG", type := .int, accessFlags := 25, slot := 18, constantValue := 0 }, { name := "JLA", type := (.object "jdk/internal/access/JavaLangAccess"), accessFlags := 26, slot := 19, constantValue := 0 }, { name := "SOFT_MAX_ARRAY_LENGTH", type := .int, accessFlags := 25, slot := 20, constantValue := 0 }]
  methods := #[k13m0]
  instanceTypes := #[]
  staticTypes := #[(.object "jdk/internal/misc/Unsafe"), .boolean, .int, .int, .int, .int, .int, .int, .int, .int, .int, .int, .int, .int, .int, .int, .int, .int, .int, (.object "jdk/internal/access/JavaLangAccess"), .int]
  resolved := Array.replicate 378 none
  statics := none }

def pool14 : Array CpInfo := pool [(1, u "java/lang/Cloneable"), (0, .class_ 1), (0, u "java/lang/Object"), (0, .class_ 3)] 3

/-- java/lang/Cloneable -/
def k14 : Class := { plain "java/lang/Cloneable" (some 0) with
  accessFlags := 1537
  interfaces := #[]
  cf := some (fileOf pool14 2 #[] #[] 1537 4 #[] #[])
  fields := #[]
  methods := #[]
  instanceTypes := #[]
  staticTypes := #[]
  resolved := Array.replicate 8 none
  statics := none }

/-- the primitive byte -/
def k15 : Class := { plain "byte" none with kind := .primitive 'B', accessFlags := 0x411 }
/-- [B -/
def k16 : Class := { plain "[B" (some 0) with kind := .array 15 .byte, interfaces := #[14, 2], accessFlags := 1041 }

/-- the primitive char -/
def k17 : Class := { plain "char" none with kind := .primitive 'C', accessFlags := 0x411 }
/-- [C -/
def k18 : Class := { plain "[C" (some 0) with kind := .array 17 .char, interfaces := #[14, 2], accessFlags := 1041 }

/-- the primitive int -/
def k19 : Class := { plain "int" none with kind := .primitive 'I', accessFlags := 0x411 }
/-- [I -/
def k20 : Class := { plain "[I" (some 0) with kind := .array 19 .int, interfaces := #[14, 2], accessFlags := 1041 }

def heap : Heap := #[{ cls := 7, slots := #[.long 0, .int 1, .null, .int 0, .null, .int 0, .int 0], vm := .statics 7 },
  { cls := 12, slots := #[.null, .null, .null], vm := .statics 12 }]
def classes : Array Class := #[k0, k1, k2, k3, k4, k5, k6, k7, k8, k9, k10, k11, k12, k13, k14, k15, k16, k17, k18, k19, k20]
def interned : List (Array UInt16 × Addr) := []
def slotsUsed : Nat := 10
def theMethod : MethodId := ⟨1, 2⟩
def args0 : Array Value := #[.int 5, .int 6, .int 7, .long 9, .int 10]
def aboutOver (below : List Frame) : State where
  vm := { classes := classes, interned := interned.toArray }
  heap := heap
  slotsUsed := slotsUsed
  threads := #[{ frames := .invoking theMethod args0 :: below }]
def below0 : List Frame := [.native { method := ⟨0, 0⟩, args := #[] }]
def about1 : State := aboutOver below0
def p0 : Program := .bare "" "" ""
def e0 : Env := launch0.env 0 0 0
theorem w_frames : about1.frames = Frame.invoking theMethod args0 :: below0 := rfl
set_option maxRecDepth 65536 in
theorem w_args : argsFit about1.vm theMethod args0 = true := by decide +kernel
set_option maxRecDepth 65536 in
theorem w_heap : heapFits about1 = true := by decide +kernel
set_option maxRecDepth 65536 in
theorem w_runnable : about1.curStatus? = some .runnable := by decide +kernel
set_option maxRecDepth 65536 in
theorem w_alone : about1.alone = true := by decide +kernel
set_option maxRecDepth 65536 in
theorem w_named : about1.methodNamed? x = some theMethod := by decide +kernel
set_option maxRecDepth 65536 in
theorem w_hears : about1.hears theMethod below0 = true := by decide +kernel
set_option maxRecDepth 65536 in
theorem w_ripe : about1.ripe theMethod args0 below0 = true := by decide +kernel
theorem w_running : about1.status = .running := rfl
set_option maxRecDepth 65536 in
theorem w_room : about1.hasRoom e0.platform room_1 = true :=
  launch0.hasRoom_least _ room_1 (by decide +kernel) (by decide +kernel) (by decide +kernel) (by decide +kernel) (by decide +kernel) (by decide +kernel)
theorem allAtoms_all (ts : List Jvm.Cond) (a : Array Jvm.Value) (st : Jvm.State) : (allAtoms ts).before a st = ts.all (fun c => c.before a st) := by
  induction ts with
  | nil => rfl
  | cons c t ih =>
    show (Jvm.Cond.and c (allAtoms t)).before a st = _
    rw [Jvm.Cond.before_and, ih, List.all_cons]
def words1 : List Jvm.Cond := Jvm.Cond.code x code maxLocals ret :: tables_1
/-- a 'code' word, met by the world's own term for the bytes: nothing is compared byte by byte -/
theorem code_word {y : MethodName} {bytes : ByteArray} {mx : Nat} {rt : Option FieldType} {a : Array Value} {s : State} {m : MethodId} {meth : Method} {c : Code} (h1 : s.methodNamed? y = some m) (h2 : s.vm.method? m = some meth) (h3 : meth.code = some c) (h4 : c.code = bytes)
    (h5 : (c.maxLocals == mx && c.exceptionTable.isEmpty && decide (c.maxStack ≤ mostOperands) && decide (meth.sig.returnType = rt) && !meth.locks && decide (parseMethodDescriptor y.desc = some meth.sig)) = true) : (Jvm.Cond.code y bytes mx rt).before a s = true := by
  simp only [Bool.and_eq_true, beq_iff_eq, Bool.not_eq_true', decide_eq_true_eq] at h5
  obtain ⟨⟨⟨⟨⟨g1, g2⟩, g3⟩, g4⟩, g5⟩, g6⟩ := h5
  simp [Cond.before, Cond.holds, Cond.value, h1, h2, h3, h4, g1, g2, g3, g4, g5, g6]
def isCode : Jvm.Cond → Bool
  | .code _ _ _ _ => true
  | _ => false
theorem all_split {L : List Jvm.Cond} {P : Jvm.Cond → Bool} (h1 : L.all (fun c => isCode c || P c) = true) (h2 : ∀ c ∈ L.filter isCode, P c = true) : L.all P = true := by
  refine List.all_eq_true.mpr fun c hc => ?_
  have h := List.all_eq_true.mp h1 c hc
  rcases Bool.eq_false_or_eq_true (isCode c) with hi | hi
  · exact h2 c (List.mem_filter.mpr ⟨hc, hi⟩)
  · simpa [hi] using h
set_option maxRecDepth 65536 in
theorem w_c0 : (Jvm.Cond.code x code maxLocals ret).before args0 about1 = true := code_word (m := ⟨1, 2⟩) (meth := k1m2) (c := k1c2) (by decide +kernel) rfl rfl rfl (by decide +kernel)
set_option maxRecDepth 65536 in
theorem w_c1 : (Jvm.Cond.code ({ cls := "com/example/incorpus/incorpus/SpanIsEmptyPinLaw", name := "text", desc := "(J)Ljava/lang/String;" } : Jvm.MethodName) method_2_code (3 : Nat) (Option.some (Jvm.ClassFile.FieldType.object "java/lang/String"))).before args0 about1 = true := code_word (m := ⟨1, 1⟩) (meth := k1m1) (c := k1c1) (by decide +kernel) rfl rfl rfl (by decide +kernel)
set_option maxRecDepth 65536 in
theorem w_c2 : (Jvm.Cond.code ({ cls := "java/lang/String", name := "<init>", desc := "([C)V" } : Jvm.MethodName) jdk_42_method_3_code (2 : Nat) (Option.none : Option Jvm.ClassFile.FieldType)).before args0 about1 = true := code_word (m := ⟨7, 1⟩) (meth := k7m1) (c := k7c1) (by decide +kernel) rfl rfl rfl (by decide +kernel)
set_option maxRecDepth 65536 in
theorem w_c3 : (Jvm.Cond.code ({ cls := "java/lang/String", name := "<init>", desc := "([CIILjava/lang/Void;)V" } : Jvm.MethodName) jdk_42_method_149_code (6 : Nat) (Option.none : Option Jvm.ClassFile.FieldType)).before args0 about1 = true := code_word (m := ⟨7, 3⟩) (meth := k7m3) (c := k7c3) (by decide +kernel) rfl rfl rfl (by decide +kernel)
set_option maxRecDepth 65536 in
theorem w_c4 : (Jvm.Cond.code ({ cls := "java/lang/Object", name := "<init>", desc := "()V" } : Jvm.MethodName) object_method_1_code (1 : Nat) (Option.none : Option Jvm.ClassFile.FieldType)).before args0 about1 = true := code_word (m := ⟨0, 0⟩) (meth := k0m0) (c := k0c0) (by decide +kernel) rfl rfl rfl (by decide +kernel)
set_option maxRecDepth 65536 in
theorem w_c5 : (Jvm.Cond.code ({ cls := "java/lang/StringUTF16", name := "compress", desc := "([CII)[B" } : Jvm.MethodName) jdk_52_method_16_code (6 : Nat) (Option.some (Jvm.ClassFile.FieldType.array Jvm.ClassFile.FieldType.byte))).before args0 about1 = true := code_word (m := ⟨8, 2⟩) (meth := k8m2) (c := k8c2) (by decide +kernel) rfl rfl rfl (by decide +kernel)
set_option maxRecDepth 65536 in
theorem w_c6 : (Jvm.Cond.code ({ cls := "java/lang/StringUTF16", name := "compress", desc := "([CI[BII)I" } : Jvm.MethodName) jdk_52_method_21_code (7 : Nat) (Option.some Jvm.ClassFile.FieldType.int)).before args0 about1 = true := code_word (m := ⟨8, 3⟩) (meth := k8m3) (c := k8c3) (by decide +kernel) rfl rfl rfl (by decide +kernel)
set_option maxRecDepth 65536 in
theorem w_c7 : (Jvm.Cond.code ({ cls := "java/lang/StringUTF16", name := "coderFromArrayLen", desc := "([BI)B" } : Jvm.MethodName) jdk_52_method_15_code (2 : Nat) (Option.some Jvm.ClassFile.FieldType.byte)).before args0 about1 = true := code_word (m := ⟨8, 1⟩) (meth := k8m1) (c := k8c1) (by decide +kernel) rfl rfl rfl (by decide +kernel)
set_option maxRecDepth 65536 in
theorem w_c8 : (Jvm.Cond.code ({ cls := "com/example/incorpus/incorpus/Span", name := "<init>", desc := "(II)V" } : Jvm.MethodName) prog_42_method_1_code (3 : Nat) (Option.none : Option Jvm.ClassFile.FieldType)).before args0 about1 = true := code_word (m := ⟨10, 0⟩) (meth := k10m0) (c := k10c0) (by decide +kernel) rfl rfl rfl (by decide +kernel)
set_option maxRecDepth 65536 in
theorem w_c9 : (Jvm.Cond.code ({ cls := "java/lang/Record", name := "<init>", desc := "()V" } : Jvm.MethodName) jdk_30_method_1_code (1 : Nat) (Option.none : Option Jvm.ClassFile.FieldType)).before args0 about1 = true := code_word (m := ⟨9, 0⟩) (meth := k9m0) (c := k9c0) (by decide +kernel) rfl rfl rfl (by decide +kernel)
set_option maxRecDepth 65536 in
theorem w_c10 : (Jvm.Cond.code ({ cls := "com/example/incorpus/incorpus/Span", name := "isEmpty", desc := "()Z" } : Jvm.MethodName) prog_42_method_2_code (1 : Nat) (Option.some Jvm.ClassFile.FieldType.boolean)).before args0 about1 = true := code_word (m := ⟨10, 1⟩) (meth := k10m1) (c := k10c1) (by decide +kernel) rfl rfl rfl (by decide +kernel)
set_option maxRecDepth 65536 in
theorem w_c11 : (Jvm.Cond.code ({ cls := "java/lang/String", name := "charAt", desc := "(I)C" } : Jvm.MethodName) jdk_42_method_56_code (2 : Nat) (Option.some Jvm.ClassFile.FieldType.char)).before args0 about1 = true := code_word (m := ⟨7, 2⟩) (meth := k7m2) (c := k7c2) (by decide +kernel) rfl rfl rfl (by decide +kernel)
set_option maxRecDepth 65536 in
theorem w_c12 : (Jvm.Cond.code ({ cls := "java/lang/String", name := "isLatin1", desc := "()Z" } : Jvm.MethodName) jdk_42_method_154_code (1 : Nat) (Option.some Jvm.ClassFile.FieldType.boolean)).before args0 about1 = true := code_word (m := ⟨7, 4⟩) (meth := k7m4) (c := k7c4) (by decide +kernel) rfl rfl rfl (by decide +kernel)
set_option maxRecDepth 65536 in
theorem w_c13 : (Jvm.Cond.code ({ cls := "java/lang/StringLatin1", name := "charAt", desc := "([BI)C" } : Jvm.MethodName) jdk_43_method_2_code (2 : Nat) (Option.some Jvm.ClassFile.FieldType.char)).before args0 about1 = true := code_word (m := ⟨11, 1⟩) (meth := k11m1) (c := k11c1) (by decide +kernel) rfl rfl rfl (by decide +kernel)
set_option maxRecDepth 65536 in
theorem w_c14 : (Jvm.Cond.code ({ cls := "java/lang/String", name := "checkIndex", desc := "(II)V" } : Jvm.MethodName) jdk_42_method_155_code (2 : Nat) (Option.none : Option Jvm.ClassFile.FieldType)).before args0 about1 = true := code_word (m := ⟨7, 5⟩) (meth := k7m5) (c := k7c5) (by decide +kernel) rfl rfl rfl (by decide +kernel)
set_option maxRecDepth 65536 in
theorem w_c15 : (Jvm.Cond.code ({ cls := "jdk/internal/util/Preconditions", name := "checkIndex", desc := "(IILjava/util/function/BiFunction;)I" } : Jvm.MethodName) jdk_41_method_11_code (3 : Nat) (Option.some Jvm.ClassFile.FieldType.int)).before args0 about1 = true := code_word (m := ⟨12, 1⟩) (meth := k12m1) (c := k12c1) (by decide +kernel) rfl rfl rfl (by decide +kernel)
set_option maxRecDepth 65536 in
theorem w_c16 : (Jvm.Cond.code ({ cls := "com/example/incorpus/incorpus/Span", name := "indexOf", desc := "(CLjava/lang/String;)I" } : Jvm.MethodName) prog_42_method_4_code (4 : Nat) (Option.some Jvm.ClassFile.FieldType.int)).before args0 about1 = true := code_word (m := ⟨10, 2⟩) (meth := k10m2) (c := k10c2) (by decide +kernel) rfl rfl rfl (by decide +kernel)
def codes1 : List Jvm.Cond := [Jvm.Cond.code x code maxLocals ret, Jvm.Cond.code ({ cls := "com/example/incorpus/incorpus/SpanIsEmptyPinLaw", name := "text", desc := "(J)Ljava/lang/String;" } : Jvm.MethodName) method_2_code (3 : Nat) (Option.some (Jvm.ClassFile.FieldType.object "java/lang/String")), Jvm.Cond.code ({ cls := "java/lang/String", name := "<init>", desc := "([C)V" } : Jvm.MethodName) jdk_42_method_3_code (2 : Nat) (Option.none : Option Jvm.ClassFile.FieldType), Jvm.Cond.code ({ cls := "java/lang/String", name := "<init>", desc := "([CIILjava/lang/Void;)V" } : Jvm.MethodName) jdk_42_method_149_code (6 : Nat) (Option.none : Option Jvm.ClassFile.FieldType), Jvm.Cond.code ({ cls := "java/lang/Object", name := "<init>", desc := "()V" } : Jvm.MethodName) object_method_1_code (1 : Nat) (Option.none : Option Jvm.ClassFile.FieldType), Jvm.Cond.code ({ cls := "java/lang/StringUTF16", name := "compress", desc := "([CII)[B" } : Jvm.MethodName) jdk_52_method_16_code (6 : Nat) (Option.some (Jvm.ClassFile.FieldType.array Jvm.ClassFile.FieldType.byte)), Jvm.Cond.code ({ cls := "java/lang/StringUTF16", name := "compress", desc := "([CI[BII)I" } : Jvm.MethodName) jdk_52_method_21_code (7 : Nat) (Option.some Jvm.ClassFile.FieldType.int), Jvm.Cond.code ({ cls := "java/lang/StringUTF16", name := "coderFromArrayLen", desc := "([BI)B" } : Jvm.MethodName) jdk_52_method_15_code (2 : Nat) (Option.some Jvm.ClassFile.FieldType.byte), Jvm.Cond.code ({ cls := "com/example/incorpus/incorpus/Span", name := "<init>", desc := "(II)V" } : Jvm.MethodName) prog_42_method_1_code (3 : Nat) (Option.none : Option Jvm.ClassFile.FieldType), Jvm.Cond.code ({ cls := "java/lang/Record", name := "<init>", desc := "()V" } : Jvm.MethodName) jdk_30_method_1_code (1 : Nat) (Option.none : Option Jvm.ClassFile.FieldType), Jvm.Cond.code ({ cls := "com/example/incorpus/incorpus/Span", name := "isEmpty", desc := "()Z" } : Jvm.MethodName) prog_42_method_2_code (1 : Nat) (Option.some Jvm.ClassFile.FieldType.boolean), Jvm.Cond.code ({ cls := "java/lang/String", name := "charAt", desc := "(I)C" } : Jvm.MethodName) jdk_42_method_56_code (2 : Nat) (Option.some Jvm.ClassFile.FieldType.char), Jvm.Cond.code ({ cls := "java/lang/String", name := "isLatin1", desc := "()Z" } : Jvm.MethodName) jdk_42_method_154_code (1 : Nat) (Option.some Jvm.ClassFile.FieldType.boolean), Jvm.Cond.code ({ cls := "java/lang/StringLatin1", name := "charAt", desc := "([BI)C" } : Jvm.MethodName) jdk_43_method_2_code (2 : Nat) (Option.some Jvm.ClassFile.FieldType.char), Jvm.Cond.code ({ cls := "java/lang/String", name := "checkIndex", desc := "(II)V" } : Jvm.MethodName) jdk_42_method_155_code (2 : Nat) (Option.none : Option Jvm.ClassFile.FieldType), Jvm.Cond.code ({ cls := "jdk/internal/util/Preconditions", name := "checkIndex", desc := "(IILjava/util/function/BiFunction;)I" } : Jvm.MethodName) jdk_41_method_11_code (3 : Nat) (Option.some Jvm.ClassFile.FieldType.int), Jvm.Cond.code ({ cls := "com/example/incorpus/incorpus/Span", name := "indexOf", desc := "(CLjava/lang/String;)I" } : Jvm.MethodName) prog_42_method_4_code (4 : Nat) (Option.some Jvm.ClassFile.FieldType.int)]
set_option maxRecDepth 65536 in
theorem codes_eq : words1.filter isCode = codes1 := rfl
theorem w_codes : ∀ c ∈ words1.filter isCode, c.before args0 about1 = true := by
  rw [codes_eq]
  intro c hc
  simp only [codes1, List.mem_cons, List.not_mem_nil, or_false] at hc
  rcases hc with rfl | rfl | rfl | rfl | rfl | rfl | rfl | rfl | rfl | rfl | rfl | rfl | rfl | rfl | rfl | rfl | rfl
  · exact w_c0
  · exact w_c1
  · exact w_c2
  · exact w_c3
  · exact w_c4
  · exact w_c5
  · exact w_c6
  · exact w_c7
  · exact w_c8
  · exact w_c9
  · exact w_c10
  · exact w_c11
  · exact w_c12
  · exact w_c13
  · exact w_c14
  · exact w_c15
  · exact w_c16
set_option maxRecDepth 65536 in
theorem w_t1 : (words1.take 24).all (fun c => isCode c || c.before args0 about1) = true := by decide +kernel
set_option maxRecDepth 65536 in
theorem w_t2 : ((words1.drop 24).take 24).all (fun c => isCode c || c.before args0 about1) = true := by decide +kernel
set_option maxRecDepth 65536 in
theorem w_t3 : (((words1.drop 24).drop 24).take 24).all (fun c => isCode c || c.before args0 about1) = true := by decide +kernel
set_option maxRecDepth 65536 in
theorem w_t4 : (((words1.drop 24).drop 24).drop 24).all (fun c => isCode c || c.before args0 about1) = true := by decide +kernel
theorem w_tables : (allAtoms (Jvm.Cond.code x code maxLocals ret :: tables_1)).before args0 about1 = true := by
  rw [allAtoms_all]
  show words1.all (fun c => c.before args0 about1) = true
  refine all_split ?_ w_codes
  rw [← List.take_append_drop 24 words1, List.all_append, w_t1, ← List.take_append_drop 24 (words1.drop 24), List.all_append, w_t2, ← List.take_append_drop 24 ((words1.drop 24).drop 24), List.all_append, w_t3, w_t4]
  rfl
set_option maxRecDepth 65536 in
theorem w_rest : rest_1_c.before args0 about1 = true := by decide +kernel
set_option maxRecDepth 65536 in
theorem w_case : (Jvm.Cond.and given_1 narrow_1).before args0 about1 = true := by decide +kernel
theorem w_applies : (headSpec (Jvm.Cond.code x code maxLocals ret :: tables_1) room_1).applies x e0.platform about1 = true :=
  (Spec.applies_iff w_frames).mpr ⟨w_running, w_runnable, w_alone, w_named, w_hears, w_ripe, w_room, w_tables⟩
theorem atStart : AtStart classFile x code maxLocals ret World_1 tables_1 room_1 Calls_1 rest_1 Pre_1 launch0 p0 e0 about1 theMethod args0 below0 :=
  ⟨lists_1, trivial, launch0.admits_env _ _ _, launch0.least_env, fairChoices_fair.cas, fairChoices_fair.clock, w_frames, w_args, w_heap, w_applies, trivial, w_rest, w_case⟩
end start1
theorem witness_1 : WitnessClaimed_1 := ⟨start1.p0, start1.e0, start1.about1, start1.theMethod, start1.args0, start1.below0, start1.atStart⟩
end Jvm.Pilot.@@N@@
