import JvmDerived
import JvmDerived.Pilot.@@N@@Statement
import JvmDerived.Pilot.@@N@@Code
set_option linter.unusedVariables false
set_option linter.unusedSimpArgs false
namespace Jvm.RoadKit
open Sem ClassFile Op Lib Jvm.Stand Jvm.Free Jvm.LawKit
section New
variable {p : Program} {l : Launch} {e : Env} {R : Room} {s : State} {m : MethodId} {args : Array Value} {below : List Frame} {meth : Method} {c : Code} {T : State} {locs : List Loc} {cells slots : Nat}
theorem retI (X : Stand p l e R s m args below meth c T locs cells slots) (hx : p.tables.exec = Jvm.exec) {pc : Nat} {Ls : Array Slot} {z : Int32} {rest : List Value} (hret : meth.sig.returnType = some .int) (hd : decode c.code pc = .ok (.ireturn, 1)) {fs : List Frame}
    (hl : ∀ (f : JFrame) (acts : List Action), f.method = m → f.locked = none → f.entered = [] → (doReturn e (T.setTop f) acts (some (.int z))).1 = T.setFrames fs) : Steps p.tables e below (T.setTop (mkF m pc Ls (.int z :: rest))) (T.setFrames fs) := by
  have hm' : T.vm.method? m = some meth := X.method'
  have hn : narrow .int (.int z) = .int z := rfl
  show Steps p.tables e below (T.setTop { method := m, pc := pc, locals := Ls, stack := _ :: rest, locked := none }) _
  jvm_step X.here [X.here.top, hx, hd, hm', hret, hn]
  first | (intro acts; rw [hl _ acts rfl rfl rfl]) | rw [hl _ _ rfl rfl rfl]
  exact Steps.refl _
end New
end Jvm.RoadKit
/- laws to paste: Road.backV, Road.eqW, Road.codOf (cut by pick.py; bodies as the Statement names them) -/
namespace Jvm.Pilot.@@N@@
namespace StrChars
open Jvm Sem ClassFile Op Lib Jvm.Stand Jvm.Free.XT Jvm.Free.ALB Jvm.Free.JM Jvm.Free
open Jvm.Lib.Cold (StaticIs)
/-- a char array whose places are chars -/
def Ch (a : Addr) (A : Cell) (U : State) : Prop := Arr .char a A U ∧ Typed .char A
theorem Ch.mv {a : Addr} {A : Cell} {U U' : State} (h : Ch a A U) (hal : U.vm.Alike U'.vm) (hh : U'.heap = U.heap) : Ch a A U' := ⟨h.1.mv hal hh, h.2⟩
theorem Ch.keep {a : Addr} {A : Cell} {U U' : State} (h : Ch a A U) (hal : U.vm.Alike U'.vm) (hk : U'.heap[a]? = some A) : Ch a A U' := ⟨h.1.keep hal hk, h.2⟩
/-- what place i of a char[]'s cell holds -/
def cv (A : Cell) (i : Nat) : Int32 := match A.slots[i]? with | some (.int x) => x | _ => 0
theorem Ch.get {a : Addr} {A : Cell} {U : State} (h : Ch a A U) {i : Nat} (hi : i < A.slots.size) : A.slots[i]? = some (.int (cv A i)) := by
  have e := Array.getElem?_eq_getElem hi
  have f := h.2 i _ e
  unfold cv; rw [e]
  generalize A.slots[i] = v at f
  cases v <;> simp [fits] at f ⊢
/-- the byte that i2b leaves of a char -/
def lo8 (x : Int32) : Int32 := x.toInt8.toInt32
theorem fits_lo8 (y : Int32) : fits .byte (.int (lo8 y)) = true := by
  have h1 := y.toInt8.le_toInt
  have h2 := y.toInt8.toInt_lt
  simp only [lo8, fits, Bool.and_eq_true, decide_eq_true_eq, Int32.le_iff_toInt_le, Int8.toInt_toInt32, show (-128 : Int32).toInt = -128 from by decide, show (127 : Int32).toInt = 127 from by decide]
  omega
/-- A' is A but that each place j of lo .. hi - 1 holds f j -/
def Laid (A A' : Cell) (lo hi : Nat) (f : Nat → Value) : Prop := A'.cls = A.cls ∧ A'.vm = A.vm ∧ A'.slots.size = A.slots.size ∧ ∀ i, A'.slots[i]? = if lo ≤ i ∧ i < hi then some (f i) else A.slots[i]?
theorem Laid.zero (A : Cell) (lo : Nat) (f : Nat → Value) : Laid A A lo (lo + 0) f := ⟨rfl, rfl, rfl, fun i => by rw [if_neg (by omega)]⟩
theorem Laid.step {A Ak : Cell} {lo k : Nat} {f : Nat → Value} {v : Value} (h : Laid A Ak lo k f) (hlo : lo ≤ k) (hk : k < Ak.slots.size) (hv : v = f k) : Laid A (Ak.setSlot k v) lo (k + 1) f := by
  refine ⟨h.1, h.2.1, by simpa [Cell.setSlot] using h.2.2.1, fun i => ?_⟩
  by_cases e : k = i
  · subst e; rw [Cell.slots_setSlot_self v hk, if_pos (by omega), hv]
  · rw [Cell.slots_setSlot_ne v e, h.2.2.2 i]
    by_cases q : lo ≤ i ∧ i < k
    · rw [if_pos q, if_pos (by omega)]
    · rw [if_neg q, if_neg (by omega)]
def U16 : String := "java/lang/StringUTF16"
namespace Cmp5
def yN : MethodName := ⟨"java/lang/StringUTF16", "compress", "([CI[BII)I"⟩
abbrev yB : ByteArray := jdk_52_method_21_code
theorem d0 : decode yB 0 = .ok (.iconst 0, 1) := by decide +kernel
theorem d1 : decode yB 1 = .ok (.istore 5, 2) := by decide +kernel
theorem d3 : decode yB 3 = .ok (.iload 5, 2) := by decide +kernel
theorem d5 : decode yB 5 = .ok (.iload 4, 2) := by decide +kernel
theorem d7 : decode yB 7 = .ok (.if_icmp (.ge) 37, 3) := by decide +kernel
theorem d10 : decode yB 10 = .ok (.aload_n 0, 1) := by decide +kernel
theorem d11 : decode yB 11 = .ok (.iload_n 1, 1) := by decide +kernel
theorem d12 : decode yB 12 = .ok (.caload, 1) := by decide +kernel
theorem d13 : decode yB 13 = .ok (.istore 6, 2) := by decide +kernel
theorem d15 : decode yB 15 = .ok (.iload 6, 2) := by decide +kernel
theorem d17 : decode yB 17 = .ok (.sipush 255, 3) := by decide +kernel
theorem d20 : decode yB 20 = .ok (.if_icmp (.le) 6, 3) := by decide +kernel
theorem d26 : decode yB 26 = .ok (.aload_n 2, 1) := by decide +kernel
theorem d27 : decode yB 27 = .ok (.iload_n 3, 1) := by decide +kernel
theorem d28 : decode yB 28 = .ok (.iload 6, 2) := by decide +kernel
theorem d30 : decode yB 30 = .ok (.i2b, 1) := by decide +kernel
theorem d31 : decode yB 31 = .ok (.bastore, 1) := by decide +kernel
theorem d32 : decode yB 32 = .ok (.iinc 1 1, 3) := by decide +kernel
theorem d35 : decode yB 35 = .ok (.iinc 3 1, 3) := by decide +kernel
theorem d38 : decode yB 38 = .ok (.iinc 5 1, 3) := by decide +kernel
theorem d41 : decode yB 41 = .ok (.goto (-38), 3) := by decide +kernel
theorem d44 : decode yB 44 = .ok (.iload 4, 2) := by decide +kernel
theorem d46 : decode yB 46 = .ok (.ireturn, 1) := by decide +kernel
def site : List Cond := []
def tab : Cond := tabOf yN yB 7 (some .int) site
def P (b : Addr) (A : Cell) (d : Addr) (B : Cell) (o q len : Nat) (args : Array Value) (s : State) : Prop := args = #[.ref b, .int (Int32.ofNat o), .ref d, .int (Int32.ofNat q), .int (Int32.ofNat len)] ∧ Ch b A s ∧ Arr .byte d B s ∧ b ≠ d ∧ o + len ≤ A.slots.size ∧ q + len ≤ B.slots.size ∧ ∀ i, i < len → ¬ 255 < cv A (o + i)
def E (b : Addr) (A : Cell) (d : Addr) (B : Cell) (o q len : Nat) (r : Option Value) (s u : State) : Prop := r = some (.int (Int32.ofNat len)) ∧ ∃ B', Put d B' s u ∧ Laid B B' q (q + len) (fun j => Value.int (lo8 (cv A (o + (j - q)))))
/-- no char of the range above 255: len; the places written hold each char's low byte -/
theorem law (l : Launch) (b : Addr) (A : Cell) (d : Addr) (B : Cell) (o q len : Nat) : Law l yN 5 5 0 0 yB 7 (some .int) site (P b A d B o q len) (E b A d B o q len) (copyLocs d q len) 0 0 := by
  refine Law.of_walk (plainFor_of_name (by decide +kernel)) (by decide +kernel) (by decide +kernel) (by decide) (fun _ _ h => by rw [h.1]; rfl) (fun _ U U' hal hh h => ⟨h.1, h.2.1.mv hal hh, h.2.2.1.mv hal hh, h.2.2.2⟩) (fun r U U' V V' h1 hal h2 h => ⟨h.1, h.2.elim fun B' q => ⟨B', q.1.mv h1 h2, q.2⟩⟩) ?_
  intro p e s m args below meth c s₁ X0 hexec hbytes hml hret hlk hnm hown hh0 W hP
  obtain ⟨rfl, hA, hB, hne, l1, l2, hp⟩ := hP
  have c1 : Steps p.tables e below (s₁.setTop (entryFrame m #[.ref b, .int (Int32.ofNat o), .ref d, .int (Int32.ofNat q), .int (Int32.ofNat len)] 7)) (s₁.setTop (mkF m 0 #[.val (.ref b), .val (.int (Int32.ofNat o)), .val (.ref d), .val (.int (Int32.ofNat q)), .val (.int (Int32.ofNat len)), .unset, .unset] [])) := entry rfl
  have hA0 := hA.1.mv X0.warmed.alike hh0
  have hB0 := hB.mv X0.warmed.alike hh0
  have a31 := hA.1.2.2.2
  have c2 : Steps p.tables e below (s₁.setTop (entryFrame m #[.ref b, .int (Int32.ofNat o), .ref d, .int (Int32.ofNat q), .int (Int32.ofNat len)] 7)) (s₁.setTop (mkF m 3 #[.val (.ref b), .val (.int (Int32.ofNat o)), .val (.ref d), .val (.int (Int32.ofNat q)), .val (.int (Int32.ofNat len)), .val (.int 0), .unset] [])) := c1.trans (by
    refine iconstV X0.here hexec rfl 0 (hb hbytes d0) (by decide) ?_
    refine XS.istore X0.here hexec rfl (hb hbytes d1) rfl rfl ?_
    exact Steps.refl _)
  have loop : ∀ (r i : Nat), i + r = len → ∀ (z : Slot), (z = .unset ∨ ∃ w, z = .val w ∧ w.category = 1) → ∀ (Tl : State) (Bk : Cell), Stand p l e { frames := 0, locals := 0, cells := 0, slots := 0 } s m #[.ref b, .int (Int32.ofNat o), .ref d, .int (Int32.ofNat q), .int (Int32.ofNat len)] below meth c Tl ([] ++ copyLocs d q i) 0 0 → Put d Bk s₁ Tl → Laid B Bk q (q + i) (fun j => Value.int (lo8 (cv A (o + (j - q))))) →
      Steps p.tables e below (s₁.setTop (entryFrame m #[.ref b, .int (Int32.ofNat o), .ref d, .int (Int32.ofNat q), .int (Int32.ofNat len)] 7)) (Tl.setTop (mkF m 3 #[.val (.ref b), .val (.int (Int32.ofNat (o + i))), .val (.ref d), .val (.int (Int32.ofNat (q + i))), .val (.int (Int32.ofNat len)), .val (.int (Int32.ofNat i)), z] [])) → ∃ (T' : State) (B' : Cell) (z' : Slot), Stand p l e { frames := 0, locals := 0, cells := 0, slots := 0 } s m #[.ref b, .int (Int32.ofNat o), .ref d, .int (Int32.ofNat q), .int (Int32.ofNat len)] below meth c T' ([] ++ copyLocs d q len) 0 0 ∧ Put d B' s₁ T' ∧ Laid B B' q (q + len) (fun j => Value.int (lo8 (cv A (o + (j - q))))) ∧
      Steps p.tables e below (s₁.setTop (entryFrame m #[.ref b, .int (Int32.ofNat o), .ref d, .int (Int32.ofNat q), .int (Int32.ofNat len)] 7)) (T'.setTop (mkF m 3 #[.val (.ref b), .val (.int (Int32.ofNat (o + len))), .val (.ref d), .val (.int (Int32.ofNat (q + len))), .val (.int (Int32.ofNat len)), .val (.int (Int32.ofNat len)), z'] [])) := by
    intro r
    induction r with
    | zero =>
      intro i hi z hz Tl Bk Xl pl fl cl
      have hil : i = len := by omega
      rw [hil] at Xl fl cl
      exact ⟨Tl, Bk, z, Xl, pl, fl, cl⟩
    | succ r ih =>
      intro i hi z hz Tl Bk Xl pl fl cl
      have all := X0.warmed.alike.symm.trans Xl.warmed.alike
      have hAl := hA0.keep all (pl.other hne hA0.1)
      have hBk := hB0.like all pl.1 fl.1 fl.2.1 fl.2.2.1
      have hlt : q + i < Bk.slots.size := by rw [fl.2.2.1]; omega
      have c3 : Steps p.tables e below (s₁.setTop (entryFrame m #[.ref b, .int (Int32.ofNat o), .ref d, .int (Int32.ofNat q), .int (Int32.ofNat len)] 7)) (Tl.setTop (mkF m 12 #[.val (.ref b), .val (.int (Int32.ofNat (o + i))), .val (.ref d), .val (.int (Int32.ofNat (q + i))), .val (.int (Int32.ofNat len)), .val (.int (Int32.ofNat i)), z] [.int (Int32.ofNat (o + i)), .ref b])) := cl.trans (by
        refine XS.iload Xl.here hexec rfl (hb hbytes d3) rfl ?_
        refine XS.iload Xl.here hexec rfl (hb hbytes d5) rfl ?_
        refine XS.icmpNo Xl.here hexec rfl (hb hbytes d7) rfl (ii_ge_f (lt32 (by omega) (by omega))) ?_
        refine XS.aloadN Xl.here hexec rfl (hb hbytes d10) rfl rfl ?_
        refine XS.iloadN Xl.here hexec rfl (hb hbytes d11) rfl ?_
        exact Steps.refl _)
      have c4 : Steps p.tables e below (s₁.setTop (entryFrame m #[.ref b, .int (Int32.ofNat o), .ref d, .int (Int32.ofNat q), .int (Int32.ofNat len)] 7)) (Tl.setTop (mkF m 13 #[.val (.ref b), .val (.int (Int32.ofNat (o + i))), .val (.ref d), .val (.int (Int32.ofNat (q + i))), .val (.int (Int32.ofNat len)), .val (.int (Int32.ofNat i)), z] [.int (cv A (o + i))])) := c3.trans (by
        refine Xl.aget hexec hAl rfl (hA.get (i := o + i) (by omega)) rfl rfl (hb hbytes d12) ?_
        exact Steps.refl _)
      have c5 : Steps p.tables e below (s₁.setTop (entryFrame m #[.ref b, .int (Int32.ofNat o), .ref d, .int (Int32.ofNat q), .int (Int32.ofNat len)] 7)) (Tl.setTop (mkF m 15 #[.val (.ref b), .val (.int (Int32.ofNat (o + i))), .val (.ref d), .val (.int (Int32.ofNat (q + i))), .val (.int (Int32.ofNat len)), .val (.int (Int32.ofNat i)), .val (.int (cv A (o + i)))] [])) := c4.trans (by
        refine XS.istoreS Xl.here hexec rfl (hb hbytes d13) rfl rfl hz ?_
        exact Steps.refl _)
      have c6 : Steps p.tables e below (s₁.setTop (entryFrame m #[.ref b, .int (Int32.ofNat o), .ref d, .int (Int32.ofNat q), .int (Int32.ofNat len)] 7)) (Tl.setTop (mkF m 31 #[.val (.ref b), .val (.int (Int32.ofNat (o + i))), .val (.ref d), .val (.int (Int32.ofNat (q + i))), .val (.int (Int32.ofNat len)), .val (.int (Int32.ofNat i)), .val (.int (cv A (o + i)))] [.int (lo8 (cv A (o + i))), .int (Int32.ofNat (q + i)), .ref d])) := c5.trans (by
        refine XS.iload Xl.here hexec rfl (hb hbytes d15) rfl ?_
        refine sipushV Xl.here hexec rfl 255 (hb hbytes d17) (by decide) ?_
        refine XS.icmpYes Xl.here hexec rfl (pc0 := 20) rfl (hb hbytes d20) rfl (ii_le_t (hp i (by omega))) (by decide) rfl ?_
        refine XS.aloadN Xl.here hexec rfl (hb hbytes d26) rfl rfl ?_
        refine XS.iloadN Xl.here hexec rfl (hb hbytes d27) rfl ?_
        refine XS.iload Xl.here hexec rfl (hb hbytes d28) rfl ?_
        refine i2b Xl.here hexec rfl (hb hbytes d30) rfl ?_
        exact Steps.refl _)
      obtain ⟨T7, X7, p7, st7⟩ := Xl.aput hexec hBk rfl hlt rfl (fits_lo8 (cv A (o + i))) (g := (mkF m 31 #[.val (.ref b), .val (.int (Int32.ofNat (o + i))), .val (.ref d), .val (.int (Int32.ofNat (q + i))), .val (.int (Int32.ofNat len)), .val (.int (Int32.ofNat i)), .val (.int (cv A (o + i)))] [.int (lo8 (cv A (o + i))), .int (Int32.ofNat (q + i)), .ref d])) rfl (rest := []) rfl (hb hbytes d31)
      have c8 : Steps p.tables e below (s₁.setTop (entryFrame m #[.ref b, .int (Int32.ofNat o), .ref d, .int (Int32.ofNat q), .int (Int32.ofNat len)] 7)) (T7.setTop (mkF m 32 #[.val (.ref b), .val (.int (Int32.ofNat (o + i))), .val (.ref d), .val (.int (Int32.ofNat (q + i))), .val (.int (Int32.ofNat len)), .val (.int (Int32.ofNat i)), .val (.int (cv A (o + i)))] [])) := c6.trans (st7 _ (Steps.refl _))
      have c9 : Steps p.tables e below (s₁.setTop (entryFrame m #[.ref b, .int (Int32.ofNat o), .ref d, .int (Int32.ofNat q), .int (Int32.ofNat len)] 7)) (T7.setTop (mkF m 3 #[.val (.ref b), .val (.int (Int32.ofNat (o + i) + 1)), .val (.ref d), .val (.int (Int32.ofNat (q + i) + 1)), .val (.int (Int32.ofNat len)), .val (.int (Int32.ofNat i + 1)), .val (.int (cv A (o + i)))] [])) := c8.trans (by
        refine iincV X7.here hexec rfl 1 (hb hbytes d32) (by decide) rfl rfl ?_
        refine iincV X7.here hexec rfl 1 (hb hbytes d35) (by decide) rfl rfl ?_
        refine iincV X7.here hexec rfl 1 (hb hbytes d38) (by decide) rfl rfl ?_
        refine XS.goto X7.here hexec rfl (pc0 := 41) rfl (hb hbytes d41) (by decide) rfl ?_
        exact Steps.refl _)
      have c10 : Steps p.tables e below (s₁.setTop (entryFrame m #[.ref b, .int (Int32.ofNat o), .ref d, .int (Int32.ofNat q), .int (Int32.ofNat len)] 7)) (T7.setTop (mkF m 3 #[.val (.ref b), .val (.int (Int32.ofNat (o + (i + 1)))), .val (.ref d), .val (.int (Int32.ofNat (q + (i + 1)))), .val (.int (Int32.ofNat len)), .val (.int (Int32.ofNat (i + 1))), .val (.int (cv A (o + i)))] [])) := by
        have := c9
        rw [succ32, succ32, succ32] at this
        exact this
      exact ih (i + 1) (by omega) _ (Or.inr ⟨_, rfl, rfl⟩) T7 _ (by rw [copyLocs_step, ← List.append_assoc]; exact X7) (pl.trans p7) (fl.step (by omega) hlt (by simp)) c10
  obtain ⟨T9, B9, z9, X9, p9, f9, g9⟩ := loop len 0 (by omega) .unset (Or.inl rfl) s₁ B (by simpa [copyLocs] using X0) ⟨hB0.1, fun _ _ => rfl, rfl⟩ (Laid.zero _ _ _) c2
  have c11 : Steps p.tables e below (s₁.setTop (entryFrame m #[.ref b, .int (Int32.ofNat o), .ref d, .int (Int32.ofNat q), .int (Int32.ofNat len)] 7)) (T9.setTop (mkF m 46 #[.val (.ref b), .val (.int (Int32.ofNat (o + len))), .val (.ref d), .val (.int (Int32.ofNat (q + len))), .val (.int (Int32.ofNat len)), .val (.int (Int32.ofNat len)), z9] [.int (Int32.ofNat len)])) := g9.trans (by
    refine XS.iload X9.here hexec rfl (hb hbytes d3) rfl ?_
    refine XS.iload X9.here hexec rfl (hb hbytes d5) rfl ?_
    refine XS.icmpYes X9.here hexec rfl (pc0 := 7) rfl (hb hbytes d7) rfl (ii_ge_t (nlt32 (by omega) (Nat.le_refl _))) (by decide) rfl ?_
    refine XS.iload X9.here hexec rfl (hb hbytes d44) rfl ?_
    exact Steps.refl _)
  exact ⟨T9, some (.int (Int32.ofNat len)), _, _, _, X9, by simp, rfl, rfl, (fun h => by cases h), ⟨rfl, B9, p9.from hh0, f9⟩, fun fs hl => c11.trans (X9.ireturnOut hexec hret rfl (Or.inl rfl) (hb hbytes d46) hl)⟩
end Cmp5
namespace Cmp3
def yN : MethodName := ⟨"java/lang/StringUTF16", "compress", "([CII)[B"⟩
abbrev yB : ByteArray := jdk_52_method_16_code
theorem d0 : decode yB 0 = .ok (.iload_n 2, 1) := by decide +kernel
theorem d1 : decode yB 1 = .ok (.newarray .byte, 2) := by decide +kernel
theorem d3 : decode yB 3 = .ok (.astore_n 3, 1) := by decide +kernel
theorem d4 : decode yB 4 = .ok (.aload_n 0, 1) := by decide +kernel
theorem d5 : decode yB 5 = .ok (.iload_n 1, 1) := by decide +kernel
theorem d6 : decode yB 6 = .ok (.aload_n 3, 1) := by decide +kernel
theorem d7 : decode yB 7 = .ok (.iconst 0, 1) := by decide +kernel
theorem d8 : decode yB 8 = .ok (.iload_n 2, 1) := by decide +kernel
theorem d9 : decode yB 9 = .ok (.invokestatic 115, 3) := by decide +kernel
theorem d12 : decode yB 12 = .ok (.istore 4, 2) := by decide +kernel
theorem d14 : decode yB 14 = .ok (.iload 4, 2) := by decide +kernel
theorem d16 : decode yB 16 = .ok (.iload_n 2, 1) := by decide +kernel
theorem d17 : decode yB 17 = .ok (.if_icmp (.eq) 40, 3) := by decide +kernel
theorem d57 : decode yB 57 = .ok (.aload_n 3, 1) := by decide +kernel
theorem d58 : decode yB 58 = .ok (.areturn, 1) := by decide +kernel
def site : List Cond := [.arrayClass .byte, Cmp5.tab] ++ staticW U16 115 Cmp5.yN
def tab : Cond := tabOf yN yB 6 (some (.array .byte)) site
def P (b : Addr) (A : Cell) (o len : Nat) (args : Array Value) (s : State) : Prop := args = #[.ref b, .int (Int32.ofNat o), .int (Int32.ofNat len)] ∧ Ch b A s ∧ o + len ≤ A.slots.size ∧ len ≤ 536870912 ∧ ∀ i, i < len → ¬ 255 < cv A (o + i)
def E (b : Addr) (A : Cell) (o len : Nat) (r : Option Value) (s u : State) : Prop := NewArr .byte "[B" len (fun j => .int (lo8 (cv A (o + j)))) r s u ∧ u.heap.size = s.heap.size + 1
/-- no char of the range above 255: a new byte[] of their low bytes -/
theorem law (l : Launch) (b : Addr) (A : Cell) (o len : Nat) : Law l yN 3 3 1 18 yB 6 (some (.array .byte)) site (P b A o len) (E b A o len) [] 1 len := by
  refine Law.of_walk (plainFor_of_name (by decide +kernel)) (by decide +kernel) (by decide +kernel) (by decide) (fun _ _ h => by rw [h.1]; rfl) (fun _ U U' hal hh h => ⟨h.1, h.2.1.mv hal hh, h.2.2⟩) (fun r U U' V V' h1 hal h2 h => ⟨NewArr.mv r U U' V V' h1 hal h2 h.1, by rw [h1, h2]; exact h.2⟩) ?_
  intro p e s m args below meth c s₁ X0 hexec hbytes hml hret hlk hnm hown hh0 W hP
  obtain ⟨rfl, hA, l1, l2, hp⟩ := hP
  have a31 := hA.1.2.2.2
  have c1 : Steps p.tables e below (s₁.setTop (entryFrame m #[.ref b, .int (Int32.ofNat o), .int (Int32.ofNat len)] 6)) (s₁.setTop (mkF m 0 #[.val (.ref b), .val (.int (Int32.ofNat o)), .val (.int (Int32.ofNat len)), .unset, .unset, .unset] [])) := entry rfl
  have c2 : Steps p.tables e below (s₁.setTop (entryFrame m #[.ref b, .int (Int32.ofNat o), .int (Int32.ofNat len)] 6)) (s₁.setTop (mkF m 1 #[.val (.ref b), .val (.int (Int32.ofNat o)), .val (.int (Int32.ofNat len)), .unset, .unset, .unset] [.int (Int32.ofNat len)])) := c1.trans (by
    refine XS.iloadN X0.here hexec rfl (hb hbytes d0) rfl ?_
    exact Steps.refl _)
  obtain ⟨T3, B3, X3, ba3, bs3, bv3, bh3, bf3, st3⟩ := X0.anew hexec (atype := .byte) (wk W (.arrayClass .byte)) rfl (by show len * 1 ≤ _; omega) (by omega) (g := (mkF m 1 #[.val (.ref b), .val (.int (Int32.ofNat o)), .val (.int (Int32.ofNat len)), .unset, .unset, .unset] [.int (Int32.ofNat len)])) rfl (hb hbytes d1) (rest := []) rfl (Nat.le_refl _) (by show 0 + len ≤ len; omega)
  rw [hh0] at ba3 st3
  have kp3 : XT.Kept s T3 := (XT.Kept.of_eq hh0).push bh3
  have hA3 := hA.keep X3.warmed.alike (kp3 _ _ hA.1.1)
  have hne : b ≠ s.heap.size := hA.1.ne
  have c4 : Steps p.tables e below (s₁.setTop (entryFrame m #[.ref b, .int (Int32.ofNat o), .int (Int32.ofNat len)] 6)) (T3.setTop (mkF m 3 #[.val (.ref b), .val (.int (Int32.ofNat o)), .val (.int (Int32.ofNat len)), .unset, .unset, .unset] [.ref s.heap.size])) := c2.trans (st3 _ (Steps.refl _))
  have c5 : Steps p.tables e below (s₁.setTop (entryFrame m #[.ref b, .int (Int32.ofNat o), .int (Int32.ofNat len)] 6)) (T3.setTop (mkF m 9 #[.val (.ref b), .val (.int (Int32.ofNat o)), .val (.int (Int32.ofNat len)), .val (.ref s.heap.size), .unset, .unset] [.int (Int32.ofNat len), .int 0, .ref s.heap.size, .int (Int32.ofNat o), .ref b])) := c4.trans (by
    refine XS.astoreN X3.here hexec rfl (hb hbytes d3) rfl rfl rfl ?_
    refine XS.aloadN X3.here hexec rfl (hb hbytes d4) rfl rfl ?_
    refine XS.iloadN X3.here hexec rfl (hb hbytes d5) rfl ?_
    refine XS.aloadN X3.here hexec rfl (hb hbytes d6) rfl rfl ?_
    refine iconstV X3.here hexec rfl 0 (hb hbytes d7) (by decide) ?_
    refine XS.iloadN X3.here hexec rfl (hb hbytes d8) rfl ?_
    exact Steps.refl _)
  obtain ⟨v6, T6, X6, E6, g6⟩ := X3.callS hexec (Cmp5.law l b A s.heap.size B3 o 0 len) hown (wks W (staticW U16 115 Cmp5.yN)) (wk W Cmp5.tab) (W := 0) (Nat.le_of_ble_eq_true rfl) (Nat.le_of_ble_eq_true rfl) (Nat.le_refl _) (by show 0 + len + 0 ≤ len; omega) (g := (mkF m 9 #[.val (.ref b), .val (.int (Int32.ofNat o)), .val (.int (Int32.ofNat len)), .val (.ref s.heap.size), .unset, .unset] [.int (Int32.ofNat len), .int (Int32.ofNat 0), .ref s.heap.size, .int (Int32.ofNat o), .ref b])) rfl (by rw [hml]; rfl) c5 (argsL := [.ref b, .int (Int32.ofNat o), .ref s.heap.size, .int (Int32.ofNat 0), .int (Int32.ofNat len)]) (rest := []) rfl rfl (by show 2 * 0 + 0 ≤ _; decide) (hb hbytes d9) (⟨rfl, hA3, ba3, hne, l1, by rw [bs3]; simp, hp⟩)
  obtain ⟨rfl, B6, p6, f6⟩ := E6
  have c7 : Steps p.tables e below (s₁.setTop (entryFrame m #[.ref b, .int (Int32.ofNat o), .int (Int32.ofNat len)] 6)) (T6.setTop (mkF m 12 #[.val (.ref b), .val (.int (Int32.ofNat o)), .val (.int (Int32.ofNat len)), .val (.ref s.heap.size), .unset, .unset] [.int (Int32.ofNat len)])) := g6
  have c8 : Steps p.tables e below (s₁.setTop (entryFrame m #[.ref b, .int (Int32.ofNat o), .int (Int32.ofNat len)] 6)) (T6.setTop (mkF m 58 #[.val (.ref b), .val (.int (Int32.ofNat o)), .val (.int (Int32.ofNat len)), .val (.ref s.heap.size), .val (.int (Int32.ofNat len)), .unset] [.ref s.heap.size])) := c7.trans (by
    refine XS.istore X6.here hexec rfl (hb hbytes d12) rfl rfl ?_
    refine XS.iload X6.here hexec rfl (hb hbytes d14) rfl ?_
    refine XS.iloadN X6.here hexec rfl (hb hbytes d16) rfl ?_
    refine XS.icmpYes X6.here hexec rfl (pc0 := 17) rfl (hb hbytes d17) rfl (ii_eq_t rfl) (by decide) rfl ?_
    refine XS.aloadN X6.here hexec rfl (hb hbytes d57) rfl rfl ?_
    exact Steps.refl _)
  have X8 := X6.wide (L' := []) (cells' := 1) (slots' := len) (fun x hx hlt => by
    simp only [List.nil_append, copyLocs, List.mem_map, List.mem_range] at hx
    obtain ⟨i, -, rfl⟩ := hx
    exact absurd hlt (Nat.lt_irrefl _)) (Nat.le_refl _) (by omega)
  exact ⟨T6, some (.ref s.heap.size), _, _, _, X8, rfl, rfl, rfl, (fun h => by cases h), ⟨⟨rfl, B6, ba3.like (X3.warmed.alike.symm.trans X6.warmed.alike) p6.1 f6.1 f6.2.1 f6.2.2.1, f6.2.1.trans bv3, by rw [X6.warmed.alike.findClass, f6.1]; exact bf3, by rw [f6.2.2.1, bs3]; simp, fun j hj => by rw [f6.2.2.2 j, if_pos (by omega)]; rfl, kp3.put p6 (Nat.le_refl _)⟩, by rw [p6.2.2, bh3, hh0]; simp⟩, fun fs hl => c8.trans (X8.areturnOut hexec rfl hret rfl (hb hbytes d58) hl)⟩
end Cmp3
namespace CodL
def yN : MethodName := ⟨"java/lang/StringUTF16", "coderFromArrayLen", "([BI)B"⟩
abbrev yB : ByteArray := jdk_52_method_15_code
theorem d0 : decode yB 0 = .ok (.iload_n 1, 1) := by decide +kernel
theorem d1 : decode yB 1 = .ok (.aload_n 0, 1) := by decide +kernel
theorem d2 : decode yB 2 = .ok (.arraylength, 1) := by decide +kernel
theorem d3 : decode yB 3 = .ok (.isub, 1) := by decide +kernel
theorem d4 : decode yB 4 = .ok (.bipush 31, 2) := by decide +kernel
theorem d6 : decode yB 6 = .ok (.iushr, 1) := by decide +kernel
theorem d7 : decode yB 7 = .ok (.i2b, 1) := by decide +kernel
theorem d8 : decode yB 8 = .ok (.ireturn, 1) := by decide +kernel
def site : List Cond := []
def tab : Cond := tabOf yN yB 2 (some .byte) site
def P (d : Addr) (B : Cell) (args : Array Value) (s : State) : Prop := args = #[.ref d, .int (Int32.ofNat B.slots.size)] ∧ Arr .byte d B s
def E (r : Option Value) (s u : State) : Prop := XT.PureE (some (.int 0)) r s u
/-- an array as long as the number of chars: LATIN1 -/
theorem law (l : Launch) (d : Addr) (B : Cell) : Law l yN 2 2 0 0 yB 2 (some .byte) site (P d B) E [] 0 0 := by
  refine Law.of_walk (plainFor_of_name (by decide +kernel)) (by decide +kernel) (by decide +kernel) (by decide) (fun _ _ h => by rw [h.1]; rfl) (fun _ U U' hal hh h => ⟨h.1, h.2.mv hal hh⟩) (fun r U U' V V' h1 hal h2 h => XT.PureE.mv r U U' V V' h1 hal h2 h) ?_
  intro p e s m args below meth c s₁ X0 hexec hbytes hml hret hlk hnm hown hh0 W hP
  obtain ⟨rfl, hB⟩ := hP
  have hB0 := hB.mv X0.warmed.alike hh0
  have c1 : Steps p.tables e below (s₁.setTop (entryFrame m #[.ref d, .int (Int32.ofNat B.slots.size)] 2)) (s₁.setTop (mkF m 0 #[.val (.ref d), .val (.int (Int32.ofNat B.slots.size))] [])) := entry rfl
  have c2 : Steps p.tables e below (s₁.setTop (entryFrame m #[.ref d, .int (Int32.ofNat B.slots.size)] 2)) (s₁.setTop (mkF m 2 #[.val (.ref d), .val (.int (Int32.ofNat B.slots.size))] [.ref d, .int (Int32.ofNat B.slots.size)])) := c1.trans (by
    refine XS.iloadN X0.here hexec rfl (hb hbytes d0) rfl ?_
    refine XS.aloadN X0.here hexec rfl (hb hbytes d1) rfl rfl ?_
    exact Steps.refl _)
  have c3 : Steps p.tables e below (s₁.setTop (entryFrame m #[.ref d, .int (Int32.ofNat B.slots.size)] 2)) (s₁.setTop (mkF m 8 #[.val (.ref d), .val (.int (Int32.ofNat B.slots.size))] [.int (lo8 (ushr (Int32.ofNat B.slots.size - Int32.ofNat B.slots.size) 31))])) := c2.trans (by
    refine X0.alen hexec hB0 rfl rfl (hb hbytes d2) ?_
    refine XS.isub X0.here hexec rfl (hb hbytes d3) rfl ?_
    refine bipushV X0.here hexec rfl 31 (hb hbytes d4) (by decide) ?_
    refine iushr X0.here hexec rfl (hb hbytes d6) rfl ?_
    refine i2b X0.here hexec rfl (hb hbytes d7) rfl ?_
    exact Steps.refl _)
  have e0 : lo8 (ushr (Int32.ofNat B.slots.size - Int32.ofNat B.slots.size) 31) = 0 := by rw [Int32.sub_self]; decide
  rw [e0] at c3
  exact ⟨s₁, some (.int 0), _, _, _, X0, rfl, rfl, rfl, (fun h => by cases h), ⟨rfl, hh0⟩, fun fs hl => c3.trans (X0.ireturnOut hexec hret rfl (Or.inr (Or.inr (Or.inl rfl))) (hb hbytes d8) hl)⟩
end CodL
/-- the String at a is Latin-1 over a new byte[] (the heap's one new cell): the low bytes of the len chars of A from o on; every cell but a is kept -/
def Got (a : Addr) (D : Cell) (fV fC : Field) (A : Cell) (o len : Nat) (r : Option Value) (s u : State) : Prop := r = none ∧ ∃ D' V : Cell, Blank "java/lang/String" a D' u ∧ Same D D' [fV.slot, fC.slot] ∧ D'.slots[fV.slot]? = some (.ref s.heap.size) ∧ D'.slots[fC.slot]? = some (.int 0) ∧ Arr .byte s.heap.size V u ∧ V.vm = .none ∧ u.vm.findClass "[B" = some V.cls ∧ V.slots.size = len ∧ (∀ j, j < len → V.slots[j]? = some (.int (lo8 (cv A (o + j))))) ∧ (∀ (y : Addr) (c : Cell), y ≠ a → s.heap[y]? = some c → u.heap[y]? = some c) ∧ u.heap.size = s.heap.size + 1
theorem Got.mv {a : Addr} {D A : Cell} {fV fC : Field} {o len : Nat} : ∀ r (U U' V V' : State), U'.heap = U.heap → V.vm.Alike V'.vm → V'.heap = V.heap → Got a D fV fC A o len r U V → Got a D fV fC A o len r U' V' :=
  fun r U U' V V' h1 hal h2 ⟨e0, D', X, a1, a2, a3, a4, a5, a6, a7, a8, a9, a10, a11⟩ => ⟨e0, D', X, a1.mv hal h2, a2, by rw [h1]; exact a3, a4, by rw [h1]; exact a5.mv hal h2, a6, by rw [hal.findClass]; exact a7, a8, a9, by rw [h1, h2]; exact a10, by rw [h1, h2]; exact a11⟩
namespace New4
def yN : MethodName := ⟨"java/lang/String", "<init>", "([CIILjava/lang/Void;)V"⟩
abbrev yB : ByteArray := jdk_42_method_149_code
theorem d0 : decode yB 0 = .ok (.aload_n 0, 1) := by decide +kernel
theorem d1 : decode yB 1 = .ok (.invokespecial 1, 3) := by decide +kernel
theorem d4 : decode yB 4 = .ok (.iload_n 3, 1) := by decide +kernel
theorem d5 : decode yB 5 = .ok (.ifCond (.ne) 22, 3) := by decide +kernel
theorem d27 : decode yB 27 = .ok (.getstatic 38, 3) := by decide +kernel
theorem d30 : decode yB 30 = .ok (.ifCond (.eq) 28, 3) := by decide +kernel
theorem d33 : decode yB 33 = .ok (.aload_n 1, 1) := by decide +kernel
theorem d34 : decode yB 34 = .ok (.iload_n 2, 1) := by decide +kernel
theorem d35 : decode yB 35 = .ok (.iload_n 3, 1) := by decide +kernel
theorem d36 : decode yB 36 = .ok (.invokestatic 177, 3) := by decide +kernel
theorem d39 : decode yB 39 = .ok (.astore 5, 2) := by decide +kernel
theorem d41 : decode yB 41 = .ok (.aload_n 0, 1) := by decide +kernel
theorem d42 : decode yB 42 = .ok (.aload 5, 2) := by decide +kernel
theorem d44 : decode yB 44 = .ok (.iload_n 3, 1) := by decide +kernel
theorem d45 : decode yB 45 = .ok (.invokestatic 47, 3) := by decide +kernel
theorem d48 : decode yB 48 = .ok (.putfield 15, 3) := by decide +kernel
theorem d51 : decode yB 51 = .ok (.aload_n 0, 1) := by decide +kernel
theorem d52 : decode yB 52 = .ok (.aload 5, 2) := by decide +kernel
theorem d54 : decode yB 54 = .ok (.putfield 9, 3) := by decide +kernel
theorem d57 : decode yB 57 = .ok (.return_, 1) := by decide +kernel
def site : List Cond := [.fieldLink "java/lang/String" 38 "java/lang/String" "COMPACT_STRINGS" "Z", Cmp3.tab, CodL.tab, .laysFinal "java/lang/String" "java/lang/String" "value" "[B", .fieldLink "java/lang/String" 9 "java/lang/String" "value" "[B", .laysFinal "java/lang/String" "java/lang/String" "coder" "B", .fieldLink "java/lang/String" 15 "java/lang/String" "coder" "B"] ++ objW "java/lang/String" 1 ++ staticW "java/lang/String" 177 Cmp3.yN ++ staticW "java/lang/String" 47 CodL.yN
def tab : Cond := tabOf yN yB 6 none site
def P (a : Addr) (D : Cell) (fV fC : Field) (b : Addr) (A : Cell) (z : Int32) (o len : Nat) (args : Array Value) (s : State) : Prop := args = #[.ref a, .ref b, .int (Int32.ofNat o), .int (Int32.ofNat len), .null] ∧ Blank "java/lang/String" a D s ∧ Found "java/lang/String" "value" "[B" fV s ∧ Found "java/lang/String" "coder" "B" fC s ∧ Ch b A s ∧ StaticIs s "java/lang/String" "COMPACT_STRINGS" "Z" (.int z) ∧ ¬ z = 0 ∧ 0 < len ∧ o + len ≤ A.slots.size ∧ len ≤ 536870912 ∧ ∀ i, i < len → ¬ 255 < cv A (o + i)
def E (a : Addr) (D : Cell) (fV fC : Field) (A : Cell) (o len : Nat) (r : Option Value) (s u : State) : Prop := Got a D fV fC A o len r s u
/-- len > 0, no char of the range above 255: a Latin-1 String of their low bytes -/
theorem law (l : Launch) (a : Addr) (D : Cell) (fV fC : Field) (b : Addr) (A : Cell) (z : Int32) (o len : Nat) : Law l yN 5 4 2 35 yB 6 none site (P a D fV fC b A z o len) (E a D fV fC A o len) [⟨a, fC.slot⟩, ⟨a, fV.slot⟩] 1 len := by
  refine Law.of_walk (plainFor_of_name (by decide +kernel)) (by decide +kernel) (by decide +kernel) (by decide) (fun _ _ h => by rw [h.1]; rfl) (fun _ U U' hal hh h => ⟨h.1, h.2.1.mv hal hh, h.2.2.1.al hal, h.2.2.2.1.al hal, h.2.2.2.2.1.mv hal hh, h.2.2.2.2.2.1.there hal hh, h.2.2.2.2.2.2⟩) (fun r U U' V V' h1 hal h2 h => Got.mv r U U' V V' h1 hal h2 h) ?_
  intro p e s m args below meth c s₁ X0 hexec hbytes hml hret hlk hnm hown hh0 W hP
  obtain ⟨rfl, hB, f1, f2, hA, s1, hz, l0, l1, l2, hp⟩ := hP
  have a31 := hA.1.2.2.2
  have c1 : Steps p.tables e below (s₁.setTop (entryFrame m #[.ref a, .ref b, .int (Int32.ofNat o), .int (Int32.ofNat len), .null] 6)) (s₁.setTop (mkF m 0 #[.val (.ref a), .val (.ref b), .val (.int (Int32.ofNat o)), .val (.int (Int32.ofNat len)), .val .null, .unset] [])) := entry rfl
  have c2 : Steps p.tables e below (s₁.setTop (entryFrame m #[.ref a, .ref b, .int (Int32.ofNat o), .int (Int32.ofNat len), .null] 6)) (s₁.setTop (mkF m 1 #[.val (.ref a), .val (.ref b), .val (.int (Int32.ofNat o)), .val (.int (Int32.ofNat len)), .val .null, .unset] [.ref a])) := c1.trans (by
    refine XS.aloadN X0.here hexec rfl (hb hbytes d0) rfl rfl ?_
    exact Steps.refl _)
  obtain ⟨T3, X3, q3, st3⟩ := X0.oinit hexec hown (wks W (objW "java/lang/String" 1)) (g := (mkF m 1 #[.val (.ref a), .val (.ref b), .val (.int (Int32.ofNat o)), .val (.int (Int32.ofNat len)), .val .null, .unset] [.ref a])) rfl (by rw [hml]; rfl) (rest := []) rfl (hb hbytes d1) (W := 0) (by show 2 * 0 + 0 ≤ _; decide) (Nat.le_of_ble_eq_true rfl) (Nat.le_of_ble_eq_true rfl)
  have hh3 := q3.trans hh0
  have c4 : Steps p.tables e below (s₁.setTop (entryFrame m #[.ref a, .ref b, .int (Int32.ofNat o), .int (Int32.ofNat len), .null] 6)) (T3.setTop (mkF m 27 #[.val (.ref a), .val (.ref b), .val (.int (Int32.ofNat o)), .val (.int (Int32.ofNat len)), .val .null, .unset] [])) := (c2.trans (st3 _ (Steps.refl _))).trans (by
    refine XS.iloadN X3.here hexec rfl (hb hbytes d4) rfl ?_
    refine XS.ifYes X3.here hexec rfl (pc0 := 5) rfl (hb hbytes d5) rfl (i0_ne_t (nz32 (by omega) l0)) (by decide) rfl ?_
    exact Steps.refl _)
  obtain ⟨T5, X5, q5, st5⟩ := X3.sget hexec hown (wk W (.fieldLink "java/lang/String" 38 "java/lang/String" "COMPACT_STRINGS" "Z")) s1 (fun _ _ h => by rw [hh3]; exact h) (g := (mkF m 27 #[.val (.ref a), .val (.ref b), .val (.int (Int32.ofNat o)), .val (.int (Int32.ofNat len)), .val .null, .unset] [])) rfl (hb hbytes d27)
  have hh5 := q5.trans hh3
  have c6 : Steps p.tables e below (s₁.setTop (entryFrame m #[.ref a, .ref b, .int (Int32.ofNat o), .int (Int32.ofNat len), .null] 6)) (T5.setTop (mkF m 30 #[.val (.ref a), .val (.ref b), .val (.int (Int32.ofNat o)), .val (.int (Int32.ofNat len)), .val .null, .unset] [.int z])) := c4.trans (st5 _ (Steps.refl _))
  have c7 : Steps p.tables e below (s₁.setTop (entryFrame m #[.ref a, .ref b, .int (Int32.ofNat o), .int (Int32.ofNat len), .null] 6)) (T5.setTop (mkF m 36 #[.val (.ref a), .val (.ref b), .val (.int (Int32.ofNat o)), .val (.int (Int32.ofNat len)), .val .null, .unset] [.int (Int32.ofNat len), .int (Int32.ofNat o), .ref b])) := c6.trans (by
    refine XS.ifNo X5.here hexec rfl (hb hbytes d30) rfl (i0_eq_f hz) ?_
    refine XS.aloadN X5.here hexec rfl (hb hbytes d33) rfl rfl ?_
    refine XS.iloadN X5.here hexec rfl (hb hbytes d34) rfl ?_
    refine XS.iloadN X5.here hexec rfl (hb hbytes d35) rfl ?_
    exact Steps.refl _)
  obtain ⟨v8, T8, X8, E8, g8⟩ := X5.callS hexec (Cmp3.law l b A o len) hown (wks W (staticW "java/lang/String" 177 Cmp3.yN)) (wk W Cmp3.tab) (W := 0) (Nat.le_of_ble_eq_true rfl) (Nat.le_of_ble_eq_true rfl) (Nat.le_refl _) (by show 0 + len ≤ len; omega) (g := (mkF m 36 #[.val (.ref a), .val (.ref b), .val (.int (Int32.ofNat o)), .val (.int (Int32.ofNat len)), .val .null, .unset] [.int (Int32.ofNat len), .int (Int32.ofNat o), .ref b])) rfl (by rw [hml]; rfl) c7 (argsL := [.ref b, .int (Int32.ofNat o), .int (Int32.ofNat len)]) (rest := []) rfl rfl (by show 2 * 0 + 0 ≤ _; decide) (hb hbytes d36) (⟨rfl, hA.mv X5.warmed.alike hh5, l1, l2, hp⟩)
  obtain ⟨e8, z8⟩ := E8
  obtain ⟨rfl, N, n1, n2, n3, n4, n5, n6⟩ := NewArr.mv _ T5 s _ _ hh5.symm (Vm.Alike.refl _) rfl e8
  rw [hh5] at z8
  have hB1 := hB.keep X8.warmed.alike (n6 _ _ hB.1)
  have hne : s.heap.size ≠ a := (Nat.ne_of_lt (Array.getElem?_eq_some_iff.mp hB.1).1).symm
  have c9 : Steps p.tables e below (s₁.setTop (entryFrame m #[.ref a, .ref b, .int (Int32.ofNat o), .int (Int32.ofNat len), .null] 6)) (T8.setTop (mkF m 39 #[.val (.ref a), .val (.ref b), .val (.int (Int32.ofNat o)), .val (.int (Int32.ofNat len)), .val .null, .unset] [.ref s.heap.size])) := g8
  have c10 : Steps p.tables e below (s₁.setTop (entryFrame m #[.ref a, .ref b, .int (Int32.ofNat o), .int (Int32.ofNat len), .null] 6)) (T8.setTop (mkF m 45 #[.val (.ref a), .val (.ref b), .val (.int (Int32.ofNat o)), .val (.int (Int32.ofNat len)), .val .null, .val (.ref s.heap.size)] [.int (Int32.ofNat N.slots.size), .ref s.heap.size, .ref a])) := by
    have hc : Steps p.tables e below (s₁.setTop (entryFrame m #[.ref a, .ref b, .int (Int32.ofNat o), .int (Int32.ofNat len), .null] 6)) (T8.setTop (mkF m 45 #[.val (.ref a), .val (.ref b), .val (.int (Int32.ofNat o)), .val (.int (Int32.ofNat len)), .val .null, .val (.ref s.heap.size)] [.int (Int32.ofNat len), .ref s.heap.size, .ref a])) := c9.trans (by
      refine XS.astore X8.here hexec rfl (hb hbytes d39) rfl rfl rfl ?_
      refine XS.aloadN X8.here hexec rfl (hb hbytes d41) rfl rfl ?_
      refine XS.aload X8.here hexec rfl (hb hbytes d42) rfl rfl ?_
      refine XS.iloadN X8.here hexec rfl (hb hbytes d44) rfl ?_
      exact Steps.refl _)
    rw [n4]; exact hc
  obtain ⟨v11, T11, X11, E11, g11⟩ := X8.callS hexec (CodL.law l s.heap.size N) hown (wks W (staticW "java/lang/String" 47 CodL.yN)) (wk W CodL.tab) (W := 1) (Nat.le_of_ble_eq_true rfl) (Nat.le_of_ble_eq_true rfl) (Nat.le_refl _) (by show 0 + len + 0 ≤ len; omega) (g := (mkF m 45 #[.val (.ref a), .val (.ref b), .val (.int (Int32.ofNat o)), .val (.int (Int32.ofNat len)), .val .null, .val (.ref s.heap.size)] [.int (Int32.ofNat N.slots.size), .ref s.heap.size, .ref a])) rfl (by rw [hml]; rfl) c10 (argsL := [.ref s.heap.size, .int (Int32.ofNat N.slots.size)]) (rest := [.ref a]) rfl rfl (by show 2 * 0 + (1 + 0) ≤ _; decide) (hb hbytes d45) (⟨rfl, n1⟩)
  obtain ⟨rfl, q11⟩ := E11
  have hB11 := hB1.mv (X8.warmed.alike.symm.trans X11.warmed.alike) q11
  have c12 : Steps p.tables e below (s₁.setTop (entryFrame m #[.ref a, .ref b, .int (Int32.ofNat o), .int (Int32.ofNat len), .null] 6)) (T11.setTop (mkF m 48 #[.val (.ref a), .val (.ref b), .val (.int (Int32.ofNat o)), .val (.int (Int32.ofNat len)), .val .null, .val (.ref s.heap.size)] [.int 0, .ref a])) := g11
  obtain ⟨T13, X13, p13, bl13, sl13, st13⟩ := X11.finit hexec hown (wk W (.fieldLink "java/lang/String" 15 "java/lang/String" "coder" "B")) (Or.inr ⟨_, (wk W (.laysFinal "java/lang/String" "java/lang/String" "coder" "B"))⟩) (Or.inl ⟨rfl, hnm⟩) f2 (Or.inl rfl) hB11 (t := .byte) (by decide +kernel) rfl (g := (mkF m 48 #[.val (.ref a), .val (.ref b), .val (.int (Int32.ofNat o)), .val (.int (Int32.ofNat len)), .val .null, .val (.ref s.heap.size)] [.int 0, .ref a])) rfl (rest := []) rfl (hb hbytes d48)
  have c14 : Steps p.tables e below (s₁.setTop (entryFrame m #[.ref a, .ref b, .int (Int32.ofNat o), .int (Int32.ofNat len), .null] 6)) (T13.setTop (mkF m 54 #[.val (.ref a), .val (.ref b), .val (.int (Int32.ofNat o)), .val (.int (Int32.ofNat len)), .val .null, .val (.ref s.heap.size)] [.ref s.heap.size, .ref a])) := (c12.trans (st13 _ (Steps.refl _))).trans (by
    refine XS.aloadN X13.here hexec rfl (hb hbytes d51) rfl rfl ?_
    refine XS.aload X13.here hexec rfl (hb hbytes d52) rfl rfl ?_
    exact Steps.refl _)
  obtain ⟨T15, X15, p15, bl15, sl15, st15⟩ := X13.finit hexec hown (wk W (.fieldLink "java/lang/String" 9 "java/lang/String" "value" "[B")) (Or.inr ⟨_, (wk W (.laysFinal "java/lang/String" "java/lang/String" "value" "[B"))⟩) (Or.inl ⟨rfl, hnm⟩) f1 (Or.inl rfl) bl13 (t := (.array .byte)) (by decide +kernel) rfl (g := (mkF m 54 #[.val (.ref a), .val (.ref b), .val (.int (Int32.ofNat o)), .val (.int (Int32.ofNat len)), .val .null, .val (.ref s.heap.size)] [.ref s.heap.size, .ref a])) rfl (rest := []) rfl (hb hbytes d54)
  have c16 : Steps p.tables e below (s₁.setTop (entryFrame m #[.ref a, .ref b, .int (Int32.ofNat o), .int (Int32.ofNat len), .null] 6)) (T15.setTop (mkF m 57 #[.val (.ref a), .val (.ref b), .val (.int (Int32.ofNat o)), .val (.int (Int32.ofNat len)), .val .null, .val (.ref s.heap.size)] [])) := c14.trans (st15 _ (Steps.refl _))
  have ap := apart (Or.inr ⟨_, (wk W (.laysFinal "java/lang/String" "java/lang/String" "value" "[B"))⟩) (Or.inr ⟨_, (wk W (.laysFinal "java/lang/String" "java/lang/String" "coder" "B"))⟩) f1 f2 (t₁ := .array .byte) (t₂ := .byte) (by decide +kernel) (by decide +kernel) (by decide)
  have al := X8.warmed.alike.symm.trans X15.warmed.alike
  have n7 : T11.heap[s.heap.size]? = some N := by rw [q11]; exact n1.1
  exact ⟨T15, none, _, _, _, X15, by simp, rfl, by omega, (fun _ => rfl), ⟨rfl, _, N, bl15, ((Same.refl D _).set _ (by simp)).set _ (by simp), sl15, (Cell.slots_setSlot_ne _ ap).trans sl13, n1.keep al (p15.other hne (p13.other hne n7)), n2, by rw [al.findClass]; exact n3, n4, n5, fun y c h1 h2 => p15.other h1 (p13.other h1 (by rw [q11]; exact n6 y c h2)), by rw [p15.2.2, p13.2.2, q11]; exact z8⟩, fun fs hl => c16.trans (X15.returnOut hexec hret (hb hbytes d57) hl)⟩
end New4
namespace New1
def yN : MethodName := ⟨"java/lang/String", "<init>", "([C)V"⟩
abbrev yB : ByteArray := jdk_42_method_3_code
theorem d0 : decode yB 0 = .ok (.aload_n 0, 1) := by decide +kernel
theorem d1 : decode yB 1 = .ok (.aload_n 1, 1) := by decide +kernel
theorem d2 : decode yB 2 = .ok (.iconst 0, 1) := by decide +kernel
theorem d3 : decode yB 3 = .ok (.aload_n 1, 1) := by decide +kernel
theorem d4 : decode yB 4 = .ok (.arraylength, 1) := by decide +kernel
theorem d5 : decode yB 5 = .ok (.aconst_null, 1) := by decide +kernel
theorem d6 : decode yB 6 = .ok (.invokespecial 27, 3) := by decide +kernel
theorem d9 : decode yB 9 = .ok (.return_, 1) := by decide +kernel
def site : List Cond := [New4.tab] ++ initW "java/lang/String" 27 New4.yN
def tab : Cond := tabOf yN yB 2 none site
def P (a : Addr) (D : Cell) (fV fC : Field) (b : Addr) (A : Cell) (z : Int32) (args : Array Value) (s : State) : Prop := args = #[.ref a, .ref b] ∧ Blank "java/lang/String" a D s ∧ Found "java/lang/String" "value" "[B" fV s ∧ Found "java/lang/String" "coder" "B" fC s ∧ Ch b A s ∧ StaticIs s "java/lang/String" "COMPACT_STRINGS" "Z" (.int z) ∧ ¬ z = 0 ∧ 0 < A.slots.size ∧ A.slots.size ≤ 536870912 ∧ ∀ i, i < A.slots.size → ¬ 255 < cv A i
def E (a : Addr) (D : Cell) (fV fC : Field) (A : Cell) (r : Option Value) (s u : State) : Prop := Got a D fV fC A 0 A.slots.size r s u
/-- new String(chars), not empty, no char above 255: a Latin-1 String of their low bytes -/
theorem law (l : Launch) (a : Addr) (D : Cell) (fV fC : Field) (b : Addr) (A : Cell) (z : Int32) : Law l yN 2 1 3 52 yB 2 none site (P a D fV fC b A z) (E a D fV fC A) [⟨a, fC.slot⟩, ⟨a, fV.slot⟩] 1 A.slots.size := by
  refine Law.of_walk (plainFor_of_name (by decide +kernel)) (by decide +kernel) (by decide +kernel) (by decide) (fun _ _ h => by rw [h.1]; rfl) (fun _ U U' hal hh h => ⟨h.1, h.2.1.mv hal hh, h.2.2.1.al hal, h.2.2.2.1.al hal, h.2.2.2.2.1.mv hal hh, h.2.2.2.2.2.1.there hal hh, h.2.2.2.2.2.2⟩) (fun r U U' V V' h1 hal h2 h => Got.mv r U U' V V' h1 hal h2 h) ?_
  intro p e s m args below meth c s₁ X0 hexec hbytes hml hret hlk hnm hown hh0 W hP
  obtain ⟨rfl, hB, f1, f2, hA, s1, hz, l0, l2, hp⟩ := hP
  have c1 : Steps p.tables e below (s₁.setTop (entryFrame m #[.ref a, .ref b] 2)) (s₁.setTop (mkF m 0 #[.val (.ref a), .val (.ref b)] [])) := entry rfl
  have c2 : Steps p.tables e below (s₁.setTop (entryFrame m #[.ref a, .ref b] 2)) (s₁.setTop (mkF m 6 #[.val (.ref a), .val (.ref b)] [.null, .int (Int32.ofNat A.slots.size), .int 0, .ref b, .ref a])) := c1.trans (by
    refine XS.aloadN X0.here hexec rfl (hb hbytes d0) rfl rfl ?_
    refine XS.aloadN X0.here hexec rfl (hb hbytes d1) rfl rfl ?_
    refine iconstV X0.here hexec rfl 0 (hb hbytes d2) (by decide) ?_
    refine XS.aloadN X0.here hexec rfl (hb hbytes d3) rfl rfl ?_
    refine X0.alen hexec (hA.1.mv X0.warmed.alike hh0) rfl rfl (hb hbytes d4) ?_
    refine XS.aconstNull X0.here hexec rfl (hb hbytes d5) ?_
    exact Steps.refl _)
  obtain ⟨v3, T3, X3, E3, g3⟩ := X0.callN hexec (New4.law l a D fV fC b A z 0 A.slots.size) rfl hown (wks W (initW "java/lang/String" 27 New4.yN)) (W New4.tab (by simp only [site, List.mem_cons, List.mem_append, true_or, or_true])) (W := 0) (Nat.le_of_ble_eq_true rfl) (Nat.le_of_ble_eq_true rfl) (Nat.le_refl _) (by show 0 + A.slots.size ≤ A.slots.size; omega) (g := (mkF m 6 #[.val (.ref a), .val (.ref b)] [.null, .int (Int32.ofNat A.slots.size), .int (Int32.ofNat 0), .ref b, .ref a])) rfl (by rw [hml]; rfl) c2 (argsL := [.ref b, .int (Int32.ofNat 0), .int (Int32.ofNat A.slots.size), .null]) (rest := []) rfl rfl (by show 2 * 0 + 0 ≤ _; decide) (hb hbytes d6) (⟨rfl, hB.mv X0.warmed.alike hh0, f1.al X0.warmed.alike, f2.al X0.warmed.alike, hA.mv X0.warmed.alike hh0, s1.there X0.warmed.alike hh0, hz, l0, by omega, l2, fun i hi => by rw [Nat.zero_add]; exact hp i hi⟩)
  have e0 := Got.mv _ s₁ s _ _ hh0.symm (Vm.Alike.refl _) rfl E3
  obtain rfl := e0.1
  have c4 : Steps p.tables e below (s₁.setTop (entryFrame m #[.ref a, .ref b] 2)) (T3.setTop (mkF m 9 #[.val (.ref a), .val (.ref b)] [])) := g3
  exact ⟨T3, none, _, _, _, X3, by simp, rfl, by omega, (fun _ => rfl), e0, fun fs hl => c4.trans (X3.returnOut hexec hret (hb hbytes d9) hl)⟩
theorem pays {l : Launch} {R : Room} {p : Program} {e : Env} {below : List Frame} {s : State} {sargs : Array Value} {len W : Nat} (a : Addr) (D : Cell) (fV fC : Field) (b : Addr) (A : Cell) (z : Int32) (htab : tab.before sargs s = true) (hfr : 4 ≤ R.frames) (hlo : W + 65 ≤ R.locals) :
    Back l R p e below s sargs yN len W (fun A₁ a₁ => A₁.cells + 1 ≤ R.cells ∧ A₁.slots + A.slots.size ≤ R.slots ∧ P a D fV fC b A z a₁ A₁.U) (fun A₁ _ v₁ B₁ => E a D fV fC A v₁ A₁.U B₁.U ∧ B₁.locs = A₁.locs ++ [⟨a, fC.slot⟩, ⟨a, fV.slot⟩] ∧ B₁.cells = A₁.cells + 1 ∧ B₁.slots = A₁.slots + A.slots.size) :=
  (law l a D fV fC b A z).pays htab hfr (by omega)
end New1
/-- the byte, read back as charAt reads it, is the char -/
theorem lo8_mask {x : Int32} (h0 : ¬ x < 0) (h1 : ¬ 255 < x) : lo8 x &&& 255 = x := by
  have t : ∀ k : Fin 256, lo8 (Int32.ofNat k.val) &&& 255 = Int32.ofNat k.val := by decide +kernel
  rw [Int32.lt_iff_toInt_lt] at h0 h1
  have e0 : (0 : Int32).toInt = 0 := rfl
  have e1 : (255 : Int32).toInt = 255 := rfl
  obtain ⟨k, hk⟩ : ∃ k : Nat, x.toInt = k := ⟨x.toInt.toNat, by omega⟩
  have hx : x = Int32.ofNat k := Int32.toInt_inj.mp (by rw [hk, Int32.toInt_ofNat_small (by omega)])
  rw [hx]
  exact t ⟨k, by omega⟩
end StrChars
namespace StrChars.Road
open Jvm Sem ClassFile Op Lib Jvm.Stand Jvm.Free Jvm.Free.XT
open Jvm.Lib.Cold (StaticIs)
abbrev ST : String := "java/lang/String"
/-- every table word that New1's law asks, flat -/
abbrev words : List Jvm.Cond := [.code New1.yN New1.yB 2 none, .initialized ST, .methodLink ST 27 New4.yN, .instanceMethod New4.yN,
  .code New4.yN New4.yB 6 none, .fieldLink ST 38 ST "COMPACT_STRINGS" "Z", .laysFinal ST ST "value" "[B", .fieldLink ST 9 ST "value" "[B", .laysFinal ST ST "coder" "B", .fieldLink ST 15 ST "coder" "B",
  .methodLink ST 1 Lib.objectInit, .instanceMethod Lib.objectInit, .code Lib.objectInit ⟨#[0xb1]⟩ 1 none, .methodLink ST 177 Cmp3.yN, .static Cmp3.yN, .methodLink ST 47 CodL.yN, .static CodL.yN,
  .code Cmp3.yN Cmp3.yB 6 (some (.array .byte)), .initialized U16, .arrayClass .byte, .methodLink U16 115 Cmp5.yN, .static Cmp5.yN, .code Cmp5.yN Cmp5.yB 7 (some .int), .code CodL.yN CodL.yB 2 (some .byte)]
theorem tab_of {a : Array Value} {s : State} (h : ∀ w ∈ words, w.before a s = true) : New1.tab.before a s = true := by
  have h5 : Cmp5.tab.before a s = true := unparts (wk h (.code Cmp5.yN Cmp5.yB 7 (some .int))) (wks h (.initialized Cmp5.yN.cls :: Cmp5.site))
  have hc : CodL.tab.before a s = true := unparts (wk h (.code CodL.yN CodL.yB 2 (some .byte))) (wks h (.initialized CodL.yN.cls :: CodL.site))
  have q5 : ∀ w ∈ Cmp5.tab :: words, w.before a s = true := fun w hw => (List.mem_cons.mp hw).elim (fun e => e ▸ h5) (h w)
  have h3 : Cmp3.tab.before a s = true := unparts (wk q5 (.code Cmp3.yN Cmp3.yB 6 (some (.array .byte)))) (wks q5 (.initialized Cmp3.yN.cls :: Cmp3.site))
  have q3 : ∀ w ∈ Cmp3.tab :: CodL.tab :: words, w.before a s = true := fun w hw => (List.mem_cons.mp hw).elim (fun e => e ▸ h3) fun hw => (List.mem_cons.mp hw).elim (fun e => e ▸ hc) (h w)
  have h4 : New4.tab.before a s = true := unparts (wk q3 (.code New4.yN New4.yB 6 none)) (wks q3 (.initialized New4.yN.cls :: New4.site))
  have q4 : ∀ w ∈ New4.tab :: words, w.before a s = true := fun w hw => (List.mem_cons.mp hw).elim (fun e => e ▸ h4) (h w)
  exact unparts (wk q4 (.code New1.yN New1.yB 2 none)) (wks q4 (.initialized New1.yN.cls :: New1.site))
/-- the words ride from the start Z to the walk's own state -/
theorem moved {Z s : State} {a0 args : Array Value} (hZ : Z.Warmed39 s.vm) (hw : ∀ d ∈ words, d.before a0 Z = true) : ∀ d ∈ words, d.before args s = true := fun d hd => by
  have q := hw d hd
  have t : ∀ d ∈ words, d = .arrayClass .byte ∨ (d.onTables && d.keepsFace) = true := by decide +kernel
  rcases t d hd with rfl | t
  · exact RoadKit.mvA hZ q
  · exact RoadKit.mv hZ q t
/-- WHAT COMES BACK, over the tables of the start Z: h the heap at the call, h' behind it -/
def Q (Z : State) (x : Addr) (A : Cell) (h : Heap) (v : Option Value) (h' : Heap) (L : List Loc) : Prop := v = none ∧ (∀ y ∈ L, y.base = x) ∧ RoadKit.Keep h h' [x] ∧ h'.size = h.size + 1 ∧ RoadKit.Exa Z h' x ST ∧ RoadKit.Fld Z h' x ST "value" "[B" (.ref h.size) ∧ RoadKit.Fld Z h' x ST "coder" "B" (.int 0) ∧
  (∃ V : Cell, RoadKit.Arr Z h' h.size V .byte ∧ V.vm = .none ∧ Z.vm.findClass "[B" = some V.cls ∧ V.slots.size = A.slots.size ∧ ∀ j, j < A.slots.size → V.slots[j]? = some (.int (lo8 (cv A j)))) ∧
  ∀ (O n d : String) (w : Value), RoadKit.Fld Z h x O n d w → RoadKit.slotOf Z O n d ≠ RoadKit.slotOf Z ST "value" "[B" → RoadKit.slotOf Z O n d ≠ RoadKit.slotOf Z ST "coder" "B" → RoadKit.Fld Z h' x O n d w
/-- **new String(chars) AT A CALL, IN THE ROAD'S FORM**: for specialBack behind newO: x the fresh String, b the char[] with the cell A -/
theorem back {p : Program} {l : Launch} {e : Env} {R : Room} {s : State} {args : Array Value} {below : List Frame} {len W : Nat} {Z : State} {a0 : Array Value} {h : Heap} (hZ : Z.Warmed39 s.vm) (hw : ∀ d ∈ words, d.before a0 Z = true) {kI : Nat} (wi : (Jvm.Cond.instantiable ST kI).before a0 Z = true)
    {x b : Addr} {A : Cell} {z : Int32} {v0 c0 : Value} (E : RoadKit.Exa Z h x ST) (V : RoadKit.Fld Z h x ST "value" "[B" v0) (C : RoadKit.Fld Z h x ST "coder" "B" c0) (K : RoadKit.Arr Z h b A .char) (hty : Typed .char A) (S : RoadKit.Sta Z h ST "COMPACT_STRINGS" "Z" (.int z)) (hz : ¬ z = 0)
    (l0 : 0 < A.slots.size) (l2 : A.slots.size ≤ 536870912) (hp : ∀ i, i < A.slots.size → ¬ 255 < cv A i) (hfr : 4 ≤ R.frames) (hlo : W + 65 ≤ R.locals) :
    Back l R p e below s args New1.yN len W (fun P a => a = #[.ref x, .ref b] ∧ P.U.heap = h ∧ P.cells + 1 ≤ R.cells ∧ P.slots + A.slots.size ≤ R.slots)
      (fun P _ v B => ∃ L, Q Z x A h v B.U.heap L ∧ B.locs = P.locs ++ L ∧ B.cells = P.cells + 1 ∧ B.slots = P.slots + A.slots.size) := by
  intro m meth c P g ig mk a X hg hsize hdg hW hn hp'
  obtain ⟨rfl, rfl, r1, r2⟩ := hp'
  have al : Z.vm.Alike P.U.vm := hZ.alike.trans X.warmed.alike
  obtain ⟨D, cfV, kV, iV, fV, hD, gV, stV, knV, obV, asV, slV⟩ := id V
  obtain ⟨D', cfC, kC, iC, fC, hD', gC, stC, -, -, asC, slC⟩ := id C
  cases hD.symm.trans hD'
  obtain ⟨D2, kD, e1, e2, e3, e4, e5⟩ := id E
  cases hD.symm.trans e1
  obtain ⟨c2, k2, i1, i2, i3, -⟩ := Cond.instantiable_spec wi
  cases e2.symm.trans i1
  cases e3.symm.trans i2
  obtain ⟨kU, u1, u2⟩ := al.2.2 _ _ e3
  have hB : Blank ST x D P.U := ⟨hD, ⟨knV, fun q hq => by rw [hq] at obV; cases obV⟩, by rw [al.findClass]; exact e2, kU, u1, by rw [u2]; exact i3, by rw [u2]; exact e5 i3⟩
  have F1 : Found ST "value" "[B" fV P.U := ⟨SBG.found_only al ⟨cfV, kV, iV, gV⟩, stV⟩
  have F2 : Found ST "coder" "B" fC P.U := ⟨SBG.found_only al ⟨cfC, kC, iC, gC⟩, stC⟩
  have hA : Ch b A P.U := ⟨⟨K.1, State.isArrayOf_alike al K.2.1, K.2.2, by omega⟩, hty⟩
  have hS : StaticIs P.U ST "COMPACT_STRINGS" "Z" (.int z) := by
    obtain ⟨cfS, iS, kS, fS, st, cS, t1, t2, t3, t4, t5, t6, t7⟩ := S
    exact StaticIs.there (s := { Z with heap := P.U.heap }) ⟨cfS, iS, kS, fS, st, cS, t1, t2, t3, t4, t5, (fun q => by rw [q] at t6; cases t6), t7⟩ al rfl
  obtain ⟨v, B, X', ⟨⟨hv, E', V', q1, q2, q3, q4, q5, q6, q7, q8, q9, q10, q11⟩, hl, hc, hs⟩, st⟩ := New1.pays x D fV fC b A z (tab_of (moved hZ hw)) hfr hlo m meth c P g ig mk _ X hg hsize hdg hW hn ⟨r1, r2, rfl, hB, F1, F2, hA, hS, hz, l0, l2, hp⟩
  have al' : Z.vm.Alike B.U.vm := hZ.alike.trans X'.warmed.alike
  have hsz : E'.slots.size = D.slots.size := by
    obtain ⟨-, -, -, kB, w1, w2, w3⟩ := q1
    obtain ⟨kB', y1, y2⟩ := al'.2.2 _ _ e3
    rw [q2.2.1] at w1
    cases w1.symm.trans y1
    rw [w3, e5 i3, y2]
  refine ⟨v, B, X', ⟨_, ⟨hv, ?_, ⟨by omega, fun y cy hy hn' => q10 y cy (by simpa using hn') hy, fun y cy hy => ?_⟩, q11, ⟨E', _, q1.1, by rw [q2.2.1]; exact e2, by rw [q2.2.1]; exact e3, by rw [q2.1]; exact obV, fun _ => by rw [hsz]; exact e5 i3⟩,
    ⟨E', cfV, kV, iV, fV, q1.1, gV, stV, by rw [q2.1]; exact knV, by rw [q2.1]; exact obV, by rw [q2.2.1]; exact asV, q3⟩, ⟨E', cfC, kC, iC, fC, q1.1, gC, stC, by rw [q2.1]; exact knV, by rw [q2.1]; exact obV, by rw [q2.2.1]; exact asC, q4⟩,
    ⟨V', ⟨q5.1, State.isArrayOf_alike al'.symm q5.2.1, q5.2.2.1⟩, q6, by rw [← al'.findClass]; exact q7, q8, fun j hj => by have := q9 j hj; rwa [Nat.zero_add] at this⟩, fun O n d w F n1 n2 => ?_⟩, hl, hc, hs⟩, st⟩
  · intro y hy
    simp only [List.mem_cons, List.not_mem_nil, or_false] at hy
    rcases hy with rfl | rfl <;> rfl
  · by_cases q : y = x
    · subst q
      cases hD.symm.trans hy
      exact ⟨E', q1.1, q2.2.1, q2.1, hsz⟩
    · exact ⟨cy, q10 y cy q hy, rfl, rfl, rfl⟩
  · obtain ⟨D3, cf, k, i, f, g1, g2, g3, g4, g5, g6, g7⟩ := F
    cases hD.symm.trans g1
    simp only [RoadKit.slotOf, g2, gV, gC, Option.map_some, Option.getD_some] at n1 n2
    exact ⟨E', cf, k, i, f, q1.1, g2, g3, by rw [q2.1]; exact g4, by rw [q2.1]; exact g5, by rw [q2.2.1]; exact g6, by rw [q2.2.2 f.slot (by simp [n1, n2])]; exact g7⟩
end StrChars.Road
namespace StrChars.Road
open Jvm Sem ClassFile Op Lib Jvm.Stand Jvm.Free Jvm.Free.XT
/-- WHAT COMES BACK, the byte[] as a list of values -/
def QA (Z : State) (x : Addr) (zn : Int32) (cs : List Int32) (h : Heap) (v : Option Value) (h' : Heap) (L : List Loc) : Prop := v = none ∧ (∀ y ∈ L, y.base = x) ∧ RoadKit.Keep h h' [x] ∧ h'.size = h.size + 1 ∧ RoadKit.Exa Z h' x ST ∧ RoadKit.Fld Z h' x ST "value" "[B" (.ref h.size) ∧ RoadKit.Fld Z h' x ST "coder" "B" (.int 0) ∧
  (∃ kb, Z.vm.findClass "[B" = some kb ∧ RoadKit.Arv Z h' h.size kb .byte zn (cs.map fun c => .int (lo8 c)) (.int 0)) ∧
  ∀ (O n d : String) (w : Value), RoadKit.Fld Z h x O n d w → RoadKit.slotOf Z O n d ≠ RoadKit.slotOf Z ST "value" "[B" → RoadKit.slotOf Z O n d ≠ RoadKit.slotOf Z ST "coder" "B" → RoadKit.Fld Z h' x O n d w
/-- **new String(chars) AT A CALL, THE ARRAYS AS LISTS**: the char[] at b holds cs, not empty, no char above 255 -/
theorem backArv {p : Program} {l : Launch} {e : Env} {R : Room} {s : State} {args : Array Value} {below : List Frame} {len W : Nat} {Z : State} {a0 : Array Value} {h : Heap} (hZ : Z.Warmed39 s.vm) (hw : ∀ d ∈ words, d.before a0 Z = true) {kI : Nat} (wi : (Jvm.Cond.instantiable ST kI).before a0 Z = true)
    {x b : Addr} {k : ClassId} {zn z : Int32} {cs : List Int32} {dv v0 c0 : Value} (E : RoadKit.Exa Z h x ST) (V : RoadKit.Fld Z h x ST "value" "[B" v0) (C : RoadKit.Fld Z h x ST "coder" "B" c0) (K : RoadKit.Arv Z h b k .char zn (cs.map Value.int) dv) (S : RoadKit.Sta Z h ST "COMPACT_STRINGS" "Z" (.int z)) (hz : ¬ z = 0)
    (hlen : zn.toNatClampNeg = cs.length) (h0 : 0 < cs.length) (hbig : cs.length ≤ 536870912) (hall : ∀ c ∈ cs, ¬ 255 < c) (hfr : 4 ≤ R.frames) (hlo : W + 65 ≤ R.locals) :
    Back l R p e below s args New1.yN len W (fun P a => a = #[.ref x, .ref b] ∧ P.U.heap = h ∧ P.cells + 1 ≤ R.cells ∧ P.slots + cs.length ≤ R.slots)
      (fun P _ v B => ∃ L, QA Z x zn cs h v B.U.heap L ∧ B.locs = P.locs ++ L ∧ B.cells = P.cells + 1 ∧ B.slots = P.slots + cs.length) := by
  obtain ⟨A, K1, K2, K3, K4, K5, K6⟩ := K
  have e : A.slots.size = cs.length := K3.trans hlen
  have hat : ∀ (i : Nat) (hi : i < cs.length), A.slots[i]? = some (.int cs[i]) := fun i hi => by rw [K5 i (by omega)]; simp [List.getD_eq_getElem?_getD, hi]
  have hcv : ∀ (i : Nat) (hi : i < cs.length), cv A i = cs[i] := fun i hi => by unfold cv; rw [hat i hi]
  have hty : Typed .char A := fun i v hv => by
    have hi : i < A.slots.size := (Array.getElem?_eq_some_iff.mp hv).1
    have q := K5 i hi
    rw [hv] at q
    rw [Option.some.inj q]
    exact K6 i hi
  refine Back.mono (back hZ hw wi E V C K1 hty S hz (by omega) (by omega) (fun i hi => by rw [hcv i (by omega)]; exact hall _ (List.getElem_mem _)) hfr hlo) (fun P a hp => ⟨hp.1, hp.2.1, hp.2.2.1, by rw [e]; exact hp.2.2.2⟩) (fun P a v B hp hq => ?_)
  obtain ⟨L, ⟨q1, q2, q3, q4, q5, q6, q7, ⟨V', v1, v2, v3, v4, v5⟩, q9⟩, hl, hc, hs⟩ := hq
  refine ⟨L, ⟨q1, q2, q3, q4, q5, q6, q7, ⟨V'.cls, v3, V', v1, rfl, by rw [v4, e, hlen], K4, fun i hi => ?_, fun i hi => ?_⟩, q9⟩, hl, hc, by rw [hs, e]⟩
  · have hi' : i < cs.length := by omega
    rw [v5 i (by omega), hcv i hi']; simp [List.getD_eq_getElem?_getD, hi']
  · have hi' : i < cs.length := by omega
    simp only [List.getD_eq_getElem?_getD, List.getElem?_map, List.getElem?_eq_getElem hi', Option.map_some, Option.getD_some]
    exact fits_lo8 _
end StrChars.Road
namespace StrChars.Road
open Jvm Sem ClassFile Op Lib Jvm.Stand Jvm.Free Jvm.Free.XT
/-- WHAT COMES BACK, in the writer's own shape -/
def QV (Z : State) (x : Addr) (N : Int32) (bs : List Int32) (h : Heap) (n0 : Nat) (v : Option Value) (h' : Heap) (L : List Loc) : Prop := v = none ∧ RoadKit.Fr n0 L ∧ RoadKit.Keep h h' [x] ∧ RoadKit.Exa Z h' x ST ∧ RoadKit.Fld Z h' x ST "coder" "B" (.int 0) ∧
  ∃ (t : Addr) (kb : ClassId), n0 ≤ t ∧ h.size ≤ t ∧ ¬ t = x ∧ RoadKit.Fld Z h' x ST "value" "[B" (.ref t) ∧ RoadKit.Arv Z h' t kb .byte N (bs.map Value.int) (.int 0)
/-- **new String(chars) AT A CALL, FOR THE WRITER**: a char[] of n known ints, each 0 to 255 -/
theorem backV {p : Program} {l : Launch} {e : Env} {R : Room} {s : State} {args : Array Value} {below : List Frame} {len W : Nat} {Z : State} {a0 : Array Value} {h : Heap} (hZ : Z.Warmed39 s.vm) (hw : ∀ d ∈ words, d.before a0 Z = true) {kI : Nat} (wi : (Jvm.Cond.instantiable ST kI).before a0 Z = true)
    {x b : Addr} {kC : ClassId} {cs bs : List Int32} {d v0 c0 : Value} {z N : Int32} {n n0 : Nat} (hx0 : n0 ≤ x) (hh0 : n0 ≤ h.size) (E : RoadKit.Exa Z h x ST) (V : RoadKit.Fld Z h x ST "value" "[B" v0) (C : RoadKit.Fld Z h x ST "coder" "B" c0) (K : RoadKit.Arv Z h b kC .char N (cs.map Value.int) d) (S : RoadKit.Sta Z h ST "COMPACT_STRINGS" "Z" (.int z)) (hz : ¬ z = 0)
    (hn : cs.length = n) (hN : N = Int32.ofNat n) (l0 : 0 < n) (l2 : n ≤ 4000) (hp : ∀ c ∈ cs, ¬ c < 0 ∧ ¬ (255 : Int32) < c) (hb : bs = cs.map (fun c => c.toInt8.toInt32)) (hfr : 4 ≤ R.frames) (hlo : W + 65 ≤ R.locals) :
    Back l R p e below s args (⟨"java/lang/String", "<init>", "([C)V"⟩ : MethodName) len W (fun P a => a = #[.ref x, .ref b] ∧ P.U.heap = h ∧ P.cells + 1 ≤ R.cells ∧ P.slots + n ≤ R.slots)
      (fun P _ v B => ∃ L, QV Z x N bs h n0 v B.U.heap L ∧ B.locs = P.locs ++ L ∧ B.cells = P.cells + 1 ∧ B.slots = P.slots + n) := by
  subst hn hN hb
  refine Back.mono (backArv hZ hw wi E V C K S hz (n32 (by omega)) l0 (by omega) (fun c hc => (hp c hc).2) hfr hlo) (fun P a hp => hp) (fun P a v B hp hq => ?_)
  obtain ⟨L, ⟨q1, q2, q3, q4, q5, q6, q7, ⟨kb, v1, v2⟩, q9⟩, hl, hc, hs⟩ := hq
  exact ⟨L, ⟨q1, fun y hy => by rw [q2 y hy]; exact hx0, q3, q5, q7, h.size, kb, hh0, Nat.le_refl _, Nat.ne_of_gt E.lt, q6, by rw [List.map_map]; exact v2⟩, hl, hc, hs⟩
end StrChars.Road
namespace StrChars
open Jvm Sem ClassFile Op Lib Jvm.Stand Jvm.Free.XT Jvm.Free.ALB Jvm.Free.JM Jvm.Free
open Jvm.Lib.Cold (StaticIs)
def hi8 (x : Int32) : Int32 := lo8 (x >>> ((8 : Int32) &&& 31))
/-- what StringUTF16.getChar makes of two bytes -/
def pairCh (u v : Int32) : Int32 := (((u &&& 255) <<< ((0 : Int32) &&& 31)) ||| ((v &&& 255) <<< ((8 : Int32) &&& 31))).toUInt32.toUInt16.toUInt32.toInt32
theorem lo8_and (x : Int32) : (lo8 x &&& 255).toBitVec.toNat = x.toBitVec.toNat % 256 := by
  have h : (lo8 x).toBitVec = (x.toBitVec.signExtend 8).signExtend 32 := by rw [lo8, Int8.toBitVec_toInt32, Int32.toBitVec_toInt8]
  rw [Int32.toBitVec_and, BitVec.toNat_and, h]
  have e : ((x.toBitVec.signExtend 8).signExtend 32).toNat % 256 = x.toBitVec.toNat % 256 := by
    rw [BitVec.toNat_signExtend]
    have hlt := x.toBitVec.isLt
    simp only [BitVec.toNat_setWidth, BitVec.toNat_signExtend]
    split <;> split <;> omega
  rw [← e]
  exact Nat.and_two_pow_sub_one_eq_mod _ 8
theorem pair_says {c : Int32} (h0 : ¬ c < 0) (h1 : ¬ 65535 < c) : pairCh (lo8 c) (hi8 c) = c := by
  rw [Int32.lt_iff_toInt_lt] at h0 h1
  have e0 : (0 : Int32).toInt = 0 := rfl
  have e1 : (65535 : Int32).toInt = 65535 := rfl
  have hc : c.toInt = c.toBitVec.toNat := by
    have := c.toBitVec.isLt
    have e : c.toInt = c.toBitVec.toInt := rfl
    rw [e] at h0 h1
    rw [e]
    rw [BitVec.toInt_eq_toNat_cond] at h0 h1 ⊢
    split at h0 <;> split <;> omega
  have hn : c.toBitVec.toNat < 65536 := by omega
  have a1 := lo8_and c
  have a2 : (hi8 c &&& 255).toBitVec.toNat = c.toBitVec.toNat / 256 := by
    rw [hi8, lo8_and]
    have e : ((8 : Int32) &&& 31) = 8 := by decide
    rw [e, Int32.toBitVec_shiftRight]
    have e2 : ((8 : Int32).toBitVec.smod 32) = 8#32 := by decide
    rw [e2, BitVec.sshiftRight_eq', BitVec.toNat_sshiftRight_of_msb_false (by rw [BitVec.msb_eq_false_iff_two_mul_lt]; omega)]
    show c.toBitVec.toNat >>> 8 % 256 = _
    rw [Nat.shiftRight_eq_div_pow]
    omega
  unfold pairCh
  apply Int32.toBitVec_inj.mp
  apply BitVec.eq_of_toNat_eq
  have f0 : ((0 : Int32) &&& 31) = 0 := by decide
  have f8 : ((8 : Int32) &&& 31) = 8 := by decide
  rw [f0, f8]
  have g : (((lo8 c &&& 255) <<< (0 : Int32)) ||| ((hi8 c &&& 255) <<< (8 : Int32))).toBitVec.toNat = c.toBitVec.toNat := by
    rw [Int32.toBitVec_or, Int32.toBitVec_shiftLeft, Int32.toBitVec_shiftLeft]
    have s0 : ((0 : Int32).toBitVec.smod 32) = 0#32 := by decide
    have s8 : ((8 : Int32).toBitVec.smod 32) = 8#32 := by decide
    rw [s0, s8, BitVec.toNat_or]
    simp only [BitVec.shiftLeft_eq', BitVec.toNat_shiftLeft, a1, a2]
    show (c.toBitVec.toNat % 256) <<< 0 % 2 ^ 32 ||| (c.toBitVec.toNat / 256) <<< 8 % 2 ^ 32 = _
    rw [Nat.shiftLeft_zero, Nat.mod_eq_of_lt (show c.toBitVec.toNat % 256 < 2 ^ 32 by omega), Nat.mod_eq_of_lt (show (c.toBitVec.toNat / 256) <<< 8 < 2 ^ 32 by rw [Nat.shiftLeft_eq]; omega), Nat.or_comm, ← Nat.shiftLeft_add_eq_or_of_lt (by omega), Nat.shiftLeft_eq]
    omega
  show BitVec.toNat (((((lo8 c &&& 255) <<< (0 : Int32)) ||| ((hi8 c &&& 255) <<< (8 : Int32))).toBitVec.setWidth 16).setWidth 32) = _
  rw [BitVec.toNat_setWidth, BitVec.toNat_setWidth, g]
  omega
end StrChars
namespace StrChars
open Jvm Sem ClassFile Op Lib Jvm.Stand Jvm.Free.XT Jvm.Free.ALB Jvm.Free.JM Jvm.Free
open Jvm.Lib.Cold (StaticIs)
/-- the array's cell V codes the n chars f 0 .. f (n - 1) by the coder cd, as the JDK does: coder 1 just where some char is above 255 -/
def Cod (cd : Int32) (n : Nat) (f : Nat → Int32) (V : Cell) : Prop := (cd = 0 ∧ V.slots.size = n ∧ ∀ j, j < n → V.slots[j]? = some (.int (lo8 (f j))) ∧ ¬ 255 < f j) ∨ (cd = 1 ∧ V.slots.size = 2 * n ∧ (∀ j, j < n → V.slots[2 * j]? = some (.int (lo8 (f j))) ∧ V.slots[2 * j + 1]? = some (.int (hi8 (f j)))) ∧ ∃ j, j < n ∧ 255 < f j)
/-- **x is a String of the n chars f 0 .. f (n - 1)**, Latin-1 or UTF-16; its array at t has the cell V -/
def Txt (x t : Addr) (V : Cell) (cd : Int32) (n : Nat) (f : Nat → Int32) (U : State) : Prop := Exact "java/lang/String" x U ∧ Has x "java/lang/String" "value" "[B" (.ref t) U ∧ Has x "java/lang/String" "coder" "B" (.int cd) U ∧ XT.Arr .byte t V U ∧ Cod cd n f V ∧ ∀ j, j < n → ¬ f j < 0 ∧ ¬ 65535 < f j
theorem Txt.mv {x t : Addr} {V : Cell} {cd : Int32} {n : Nat} {f : Nat → Int32} {U U' : State} (h : Txt x t V cd n f U) (hal : U.vm.Alike U'.vm) (hh : U'.heap = U.heap) : Txt x t V cd n f U' := ⟨h.1.mv hal hh, h.2.1.mv hal hh, h.2.2.1.mv hal hh, h.2.2.2.1.mv hal hh, h.2.2.2.2⟩
end StrChars
namespace StrChars.Road
open Jvm Sem ClassFile Op Lib Jvm.Stand Jvm.Free Jvm.Free.XT
open Jvm.Lib.Cold (StaticIs)
theorem consq {a : Array Value} {s : State} {c : Jvm.Cond} {L : List Jvm.Cond} (h0 : c.before a s = true) (h : ∀ w ∈ L, w.before a s = true) : ∀ w ∈ c :: L, w.before a s = true := fun w hw => (List.mem_cons.mp hw).elim (fun e => e ▸ h0) (h w)
/-- the bytes of the chars cs, low before high -/
def wideBytes : List Int32 → List Value
  | [] => []
  | c :: cs => .int (lo8 c) :: .int (hi8 c) :: wideBytes cs
theorem wide_lo (d : Value) : ∀ (cs : List Int32) (j : Nat), j < cs.length → (wideBytes cs).getD (2 * j) d = .int (lo8 (cs.getD j 0))
  | [], j, h => absurd h (Nat.not_lt_zero j)
  | c :: cs, 0, _ => rfl
  | c :: cs, j + 1, h => by
    have q := wide_lo d cs j (by simpa using h)
    rw [show 2 * (j + 1) = 2 * j + 1 + 1 from by omega]
    simpa [wideBytes] using q
theorem wide_hi (d : Value) : ∀ (cs : List Int32) (j : Nat), j < cs.length → (wideBytes cs).getD (2 * j + 1) d = .int (hi8 (cs.getD j 0))
  | [], j, h => absurd h (Nat.not_lt_zero j)
  | c :: cs, 0, _ => rfl
  | c :: cs, j + 1, h => by
    have q := wide_hi d cs j (by simpa using h)
    rw [show 2 * (j + 1) + 1 = 2 * j + 1 + 1 + 1 from by omega]
    simpa [wideBytes] using q
theorem low_at (d : Value) (cs : List Int32) (j : Nat) (h : j < cs.length) : (cs.map fun c => Value.int (lo8 c)).getD j d = .int (lo8 (cs.getD j 0)) := by
  simp [List.getD_eq_getElem?_getD, h]
/-- an array of N2 bytes vs codes the chars cs by the coder cd -/
def CodA (cs : List Int32) (cd N2 : Int32) (vs : List Value) : Prop := (cd = 0 ∧ N2 = Int32.ofNat cs.length ∧ vs = (cs.map fun c => Value.int (lo8 c)) ∧ ∀ c ∈ cs, ¬ 255 < c) ∨ (cd = 1 ∧ N2 = Int32.ofNat (2 * cs.length) ∧ vs = wideBytes cs ∧ ∃ c ∈ cs, 255 < c)
theorem CodA.cod {cs : List Int32} {cd N2 : Int32} {vs : List Value} {V : Cell} (h : CodA cs cd N2 vs) (hn : 2 * cs.length < 2 ^ 31) (hs : V.slots.size = N2.toNatClampNeg) (hv : RoadKit.Has V vs (.int 0)) : Cod cd cs.length (fun j => cs.getD j 0) V := by
  rcases h with ⟨rfl, rfl, rfl, h⟩ | ⟨rfl, rfl, rfl, c, hc, hw⟩
  · rw [n32 (by omega)] at hs
    exact Or.inl ⟨rfl, hs, fun j hj => ⟨by rw [hv j (by omega), low_at _ _ _ hj], by
      have e : cs.getD j 0 = cs[j] := by simp [List.getD_eq_getElem?_getD, hj]
      show ¬ 255 < cs.getD j 0
      rw [e]; exact h _ (List.getElem_mem _)⟩⟩
  · rw [n32 (by omega)] at hs
    obtain ⟨j, hj, rfl⟩ := List.getElem_of_mem hc
    exact Or.inr ⟨rfl, hs, fun j hj => ⟨by rw [hv _ (by omega), wide_lo _ _ _ hj], by rw [hv _ (by omega), wide_hi _ _ _ hj]⟩, j, hj, by
      have e : cs.getD j 0 = cs[j] := by simp [List.getD_eq_getElem?_getD, hj]
      show 255 < cs.getD j 0
      rw [e]; exact hw⟩
/-- an object of exactly java/lang/String, its two fields found: as the laws ask it -/
theorem strObj {Z U : State} {a0 : Array Value} {kI : Nat} (wi : (Jvm.Cond.instantiable ST kI).before a0 Z = true) (al : Z.vm.Alike U.vm) {x : Addr} {v0 c0 : Value} (E : RoadKit.Exa Z U.heap x ST) (V : RoadKit.Fld Z U.heap x ST "value" "[B" v0) (C : RoadKit.Fld Z U.heap x ST "coder" "B" c0) :
    ∃ (D : Cell) (fV fC : Field), Blank ST x D U ∧ Found ST "value" "[B" fV U ∧ Found ST "coder" "B" fC U ∧ D.slots[fV.slot]? = some v0 ∧ D.slots[fC.slot]? = some c0 ∧ RoadKit.slotOf Z ST "value" "[B" = fV.slot ∧ RoadKit.slotOf Z ST "coder" "B" = fC.slot := by
  obtain ⟨D, cfV, kV, iV, fV, hD, gV, stV, knV, obV, asV, slV⟩ := V
  obtain ⟨D', cfC, kC, iC, fC, hD', gC, stC, -, -, asC, slC⟩ := C
  cases hD.symm.trans hD'
  obtain ⟨D2, kD, e1, e2, e3, e4, e5⟩ := E
  cases hD.symm.trans e1
  obtain ⟨c2, k2, i1, i2, i3, -⟩ := Cond.instantiable_spec wi
  cases e2.symm.trans i1
  cases e3.symm.trans i2
  obtain ⟨kU, u1, u2⟩ := al.2.2 _ _ e3
  exact ⟨D, fV, fC, ⟨hD, ⟨knV, fun q hq => by rw [hq] at obV; cases obV⟩, by rw [al.findClass]; exact e2, kU, u1, by rw [u2]; exact i3, by rw [u2]; exact e5 i3⟩, ⟨SBG.found_only al ⟨cfV, kV, iV, gV⟩, stV⟩, ⟨SBG.found_only al ⟨cfC, kC, iC, gC⟩, stC⟩, slV, slC, by simp [RoadKit.slotOf, gV], by simp [RoadKit.slotOf, gC]⟩
theorem sta_is {Z U : State} (al : Z.vm.Alike U.vm) {C n d : String} {v : Value} (S : RoadKit.Sta Z U.heap C n d v) : StaticIs U C n d v := by
  obtain ⟨cfS, iS, kS, fS, st, cS, t1, t2, t3, t4, t5, t6, t7⟩ := S
  exact StaticIs.there (s := { Z with heap := U.heap }) ⟨cfS, iS, kS, fS, st, cS, t1, t2, t3, t4, t5, (fun q => by rw [q] at t6; cases t6), t7⟩ al rfl
end StrChars.Road
namespace StrChars
open Jvm Sem ClassFile Op Lib Jvm.Stand Jvm.Free.XT Jvm.Free.ALB Jvm.Free.JM Jvm.Free
open Jvm.Lib.Cold (StaticIs)
/-- what place i of a byte[]'s cell holds -/
def yv (A : Cell) (i : Nat) : Int32 := match A.slots[i]? with | some (.int x) => x | _ => 0
theorem yv_get {a : Addr} {A : Cell} {U : State} (h : XT.Arr .byte a A U) (ht : Typed .byte A) {i : Nat} (hi : i < A.slots.size) : A.slots[i]? = some (.int (yv A i)) := by
  have e := Array.getElem?_eq_getElem hi
  have f := ht i _ e
  unfold yv; rw [e]
  generalize A.slots[i] = v at f
  cases v <;> simp [fits] at f ⊢
/-- the two arrays are equal, place for place -/
def EqC (A B : Cell) : Prop := A.slots.size = B.slots.size ∧ ∀ i, i < A.slots.size → yv A i = yv B i
/-- a boolean that says whether p -/
def Says01 (q : Prop) (r : Option Value) (s u : State) : Prop := ∃ v : Int32, r = some (.int v) ∧ u.heap = s.heap ∧ ((v = 1 ∧ q) ∨ (v = 0 ∧ ¬ q))
theorem Says01.mv {q : Prop} : ∀ r (U U' V V' : State), U'.heap = U.heap → V.vm.Alike V'.vm → V'.heap = V.heap → Says01 q r U V → Says01 q r U' V' :=
  fun r U U' V V' h1 _ h2 ⟨v, a, b, c⟩ => ⟨v, a, by rw [h1, h2]; exact b, c⟩
namespace LEq
def yN : MethodName := ⟨"java/lang/StringLatin1", "equals", "([B[B)Z"⟩
abbrev yB : ByteArray := jdk_43_method_13_code
theorem d0 : decode yB 0 = .ok (.aload_n 0, 1) := by decide +kernel
theorem d1 : decode yB 1 = .ok (.arraylength, 1) := by decide +kernel
theorem d2 : decode yB 2 = .ok (.aload_n 1, 1) := by decide +kernel
theorem d3 : decode yB 3 = .ok (.arraylength, 1) := by decide +kernel
theorem d4 : decode yB 4 = .ok (.if_icmp (.ne) 30, 3) := by decide +kernel
theorem d7 : decode yB 7 = .ok (.iconst 0, 1) := by decide +kernel
theorem d8 : decode yB 8 = .ok (.istore_n 2, 1) := by decide +kernel
theorem d9 : decode yB 9 = .ok (.iload_n 2, 1) := by decide +kernel
theorem d10 : decode yB 10 = .ok (.aload_n 0, 1) := by decide +kernel
theorem d11 : decode yB 11 = .ok (.arraylength, 1) := by decide +kernel
theorem d12 : decode yB 12 = .ok (.if_icmp (.ge) 20, 3) := by decide +kernel
theorem d15 : decode yB 15 = .ok (.aload_n 0, 1) := by decide +kernel
theorem d16 : decode yB 16 = .ok (.iload_n 2, 1) := by decide +kernel
theorem d17 : decode yB 17 = .ok (.baload, 1) := by decide +kernel
theorem d18 : decode yB 18 = .ok (.aload_n 1, 1) := by decide +kernel
theorem d19 : decode yB 19 = .ok (.iload_n 2, 1) := by decide +kernel
theorem d20 : decode yB 20 = .ok (.baload, 1) := by decide +kernel
theorem d21 : decode yB 21 = .ok (.if_icmp (.eq) 5, 3) := by decide +kernel
theorem d24 : decode yB 24 = .ok (.iconst 0, 1) := by decide +kernel
theorem d25 : decode yB 25 = .ok (.ireturn, 1) := by decide +kernel
theorem d26 : decode yB 26 = .ok (.iinc 2 1, 3) := by decide +kernel
theorem d29 : decode yB 29 = .ok (.goto (-20), 3) := by decide +kernel
theorem d32 : decode yB 32 = .ok (.iconst 1, 1) := by decide +kernel
theorem d33 : decode yB 33 = .ok (.ireturn, 1) := by decide +kernel
theorem d34 : decode yB 34 = .ok (.iconst 0, 1) := by decide +kernel
theorem d35 : decode yB 35 = .ok (.ireturn, 1) := by decide +kernel
def site : List Cond := []
def tab : Cond := tabOf yN yB 3 (some .boolean) site
def P (a : Addr) (A : Cell) (b : Addr) (B : Cell) (args : Array Value) (s : State) : Prop := args = #[.ref a, .ref b] ∧ XT.Arr .byte a A s ∧ Typed .byte A ∧ XT.Arr .byte b B s ∧ Typed .byte B
/-- whether two byte[] are equal, place for place -/
theorem law (l : Launch) (a : Addr) (A : Cell) (b : Addr) (B : Cell) : Law l yN 2 2 0 0 yB 3 (some .boolean) site (P a A b B) (Says01 (EqC A B)) [] 0 0 := by
  refine Law.of_walk (plainFor_of_name (by decide +kernel)) (by decide +kernel) (by decide +kernel) (by decide) (fun _ _ h => by rw [h.1]; rfl) (fun _ U U' hal hh h => ⟨h.1, h.2.1.mv hal hh, h.2.2.1, h.2.2.2.1.mv hal hh, h.2.2.2.2⟩) (fun r U U' V V' h1 hal h2 h => Says01.mv r U U' V V' h1 hal h2 h) ?_
  intro p e s m args below meth c s₁ X0 hexec hbytes hml hret hlk hnm hown hh0 W hP
  obtain ⟨rfl, hA, tA, hB, tB⟩ := hP
  have a31 := hA.2.2.2
  have b31 := hB.2.2.2
  have hA0 := hA.mv X0.warmed.alike hh0
  have hB0 := hB.mv X0.warmed.alike hh0
  have c1 : Steps p.tables e below (s₁.setTop (entryFrame m #[.ref a, .ref b] 3)) (s₁.setTop (mkF m 0 #[.val (.ref a), .val (.ref b), .unset] [])) := entry rfl
  have c2 : Steps p.tables e below (s₁.setTop (entryFrame m #[.ref a, .ref b] 3)) (s₁.setTop (mkF m 4 #[.val (.ref a), .val (.ref b), .unset] [.int (Int32.ofNat B.slots.size), .int (Int32.ofNat A.slots.size)])) := c1.trans (by
    refine XS.aloadN X0.here hexec rfl (hb hbytes d0) rfl rfl ?_
    refine X0.alen hexec hA0 rfl rfl (hb hbytes d1) ?_
    refine XS.aloadN X0.here hexec rfl (hb hbytes d2) rfl rfl ?_
    refine X0.alen hexec hB0 rfl rfl (hb hbytes d3) ?_
    exact Steps.refl _)
  by_cases hs : A.slots.size = B.slots.size
  · have c3 : Steps p.tables e below (s₁.setTop (entryFrame m #[.ref a, .ref b] 3)) (s₁.setTop (mkF m 9 #[.val (.ref a), .val (.ref b), .val (.int 0)] [])) := c2.trans (by
      refine XS.icmpNo X0.here hexec rfl (hb hbytes d4) rfl (ii_ne_f (by rw [hs])) ?_
      refine iconstV X0.here hexec rfl 0 (hb hbytes d7) (by decide) ?_
      refine XS.istoreN X0.here hexec rfl (hb hbytes d8) rfl rfl ?_
      exact Steps.refl _)
    have loop : ∀ (r i : Nat), i + r = A.slots.size → (∀ j, j < i → yv A j = yv B j) → Steps p.tables e below (s₁.setTop (entryFrame m #[.ref a, .ref b] 3)) (s₁.setTop (mkF m 9 #[.val (.ref a), .val (.ref b), .val (.int (Int32.ofNat i))] [])) → ∃ (pc : Nat) (Ls : Array Slot) (v : Int32), (pc = 25 ∨ pc = 33) ∧ ((v = 1 ∧ EqC A B) ∨ (v = 0 ∧ ¬ EqC A B)) ∧ Steps p.tables e below (s₁.setTop (entryFrame m #[.ref a, .ref b] 3)) (s₁.setTop (mkF m pc Ls [.int v])) := by
      intro r
      induction r with
      | zero =>
        intro i hi he cl
        exact ⟨33, _, 1, Or.inr rfl, Or.inl ⟨rfl, hs, fun j hj => he j (by omega)⟩, cl.trans (by
          refine XS.iloadN X0.here hexec rfl (hb hbytes d9) rfl ?_
          refine XS.aloadN X0.here hexec rfl (hb hbytes d10) rfl rfl ?_
          refine X0.alen hexec hA0 rfl rfl (hb hbytes d11) ?_
          refine XS.icmpYes X0.here hexec rfl (pc0 := 12) rfl (hb hbytes d12) rfl (ii_ge_t (nlt32 (by omega) (by omega))) (by decide) rfl ?_
          refine iconstV X0.here hexec rfl 1 (hb hbytes d32) (by decide) ?_
          exact Steps.refl _)⟩
      | succ r ih =>
        intro i hi he cl
        have c4 : Steps p.tables e below (s₁.setTop (entryFrame m #[.ref a, .ref b] 3)) (s₁.setTop (mkF m 21 #[.val (.ref a), .val (.ref b), .val (.int (Int32.ofNat i))] [.int (yv B i), .int (yv A i)])) := cl.trans (by
          refine XS.iloadN X0.here hexec rfl (hb hbytes d9) rfl ?_
          refine XS.aloadN X0.here hexec rfl (hb hbytes d10) rfl rfl ?_
          refine X0.alen hexec hA0 rfl rfl (hb hbytes d11) ?_
          refine XS.icmpNo X0.here hexec rfl (hb hbytes d12) rfl (ii_ge_f (lt32 (by omega) (by omega))) ?_
          refine XS.aloadN X0.here hexec rfl (hb hbytes d15) rfl rfl ?_
          refine XS.iloadN X0.here hexec rfl (hb hbytes d16) rfl ?_
          refine X0.aget hexec hA0 rfl (yv_get hA tA (i := i) (by omega)) rfl rfl (hb hbytes d17) ?_
          refine XS.aloadN X0.here hexec rfl (hb hbytes d18) rfl rfl ?_
          refine XS.iloadN X0.here hexec rfl (hb hbytes d19) rfl ?_
          refine X0.aget hexec hB0 rfl (yv_get hB tB (i := i) (by omega)) rfl rfl (hb hbytes d20) ?_
          exact Steps.refl _)
        by_cases hv : yv A i = yv B i
        · have c5 : Steps p.tables e below (s₁.setTop (entryFrame m #[.ref a, .ref b] 3)) (s₁.setTop (mkF m 9 #[.val (.ref a), .val (.ref b), .val (.int (Int32.ofNat i + 1))] [])) := c4.trans (by
            refine XS.icmpYes X0.here hexec rfl (pc0 := 21) rfl (hb hbytes d21) rfl (ii_eq_t hv) (by decide) rfl ?_
            refine iincV X0.here hexec rfl 1 (hb hbytes d26) (by decide) rfl rfl ?_
            refine XS.goto X0.here hexec rfl (pc0 := 29) rfl (hb hbytes d29) (by decide) rfl ?_
            exact Steps.refl _)
          rw [succ32] at c5
          exact ih (i + 1) (by omega) (fun j hj => by
            by_cases e : j = i
            · rw [e]; exact hv
            · exact he j (by omega)) c5
        · exact ⟨25, _, 0, Or.inl rfl, Or.inr ⟨rfl, fun q => hv (q.2 i (by omega))⟩, c4.trans (by
            refine XS.icmpNo X0.here hexec rfl (hb hbytes d21) rfl (ii_eq_f hv) ?_
            refine iconstV X0.here hexec rfl 0 (hb hbytes d24) (by decide) ?_
            exact Steps.refl _)⟩
    obtain ⟨pc, Ls, v, hpc, hv, cz⟩ := loop A.slots.size 0 (by omega) (fun j hj => absurd hj (Nat.not_lt_zero j)) c3
    have nv : narrow .boolean (.int v) = .int v := by rcases hv with ⟨rfl, -⟩ | ⟨rfl, -⟩ <;> rfl
    rcases hpc with rfl | rfl
    · exact ⟨s₁, some (.int v), _, _, _, X0, rfl, rfl, rfl, (fun h => by cases h), ⟨v, rfl, hh0, hv⟩, fun fs hl => cz.trans (X0.ireturnOut hexec hret nv (Or.inr (Or.inl rfl)) (hb hbytes d25) hl)⟩
    · exact ⟨s₁, some (.int v), _, _, _, X0, rfl, rfl, rfl, (fun h => by cases h), ⟨v, rfl, hh0, hv⟩, fun fs hl => cz.trans (X0.ireturnOut hexec hret nv (Or.inr (Or.inl rfl)) (hb hbytes d33) hl)⟩
  · have c3 : Steps p.tables e below (s₁.setTop (entryFrame m #[.ref a, .ref b] 3)) (s₁.setTop (mkF m 35 #[.val (.ref a), .val (.ref b), .unset] [.int 0])) := c2.trans (by
      refine XS.icmpYes X0.here hexec rfl (pc0 := 4) rfl (hb hbytes d4) rfl (ii_ne_t (ne32 a31 b31 hs)) (by decide) rfl ?_
      refine iconstV X0.here hexec rfl 0 (hb hbytes d34) (by decide) ?_
      exact Steps.refl _)
    exact ⟨s₁, some (.int 0), _, _, _, X0, rfl, rfl, rfl, (fun h => by cases h), ⟨0, rfl, hh0, Or.inr ⟨rfl, fun q => hs q.1⟩⟩, fun fs hl => c3.trans (X0.ireturnOut hexec hret rfl (Or.inr (Or.inl rfl)) (hb hbytes d35) hl)⟩
end LEq
theorem Cod.ty {cd : Int32} {n : Nat} {f : Nat → Int32} {V : Cell} (h : Cod cd n f V) : Typed .byte V := fun i v hv => by
  have hi : i < V.slots.size := (Array.getElem?_eq_some_iff.mp hv).1
  rcases h with ⟨-, k1, k2⟩ | ⟨-, k1, k2, -⟩
  · rw [(k2 i (by omega)).1] at hv; cases hv; exact fits_lo8 _
  · rcases Nat.mod_two_eq_zero_or_one i with e | e
    · obtain ⟨j, rfl⟩ : ∃ j, i = 2 * j := ⟨i / 2, by omega⟩
      rw [(k2 j (by omega)).1] at hv; cases hv; exact fits_lo8 _
    · obtain ⟨j, rfl⟩ : ∃ j, i = 2 * j + 1 := ⟨i / 2, by omega⟩
      rw [(k2 j (by omega)).2] at hv; cases hv; exact fits_lo8 _
/-- the same text -/
def SameT (n : Nat) (f : Nat → Int32) (k : Nat) (g : Nat → Int32) : Prop := n = k ∧ ∀ j, j < n → f j = g j
theorem lo8_inj {x y : Int32} (h0 : ¬ x < 0) (h1 : ¬ 255 < x) (k0 : ¬ y < 0) (k1 : ¬ 255 < y) (h : lo8 x = lo8 y) : x = y := by
  rw [← lo8_mask h0 h1, ← lo8_mask k0 k1, h]
/-- arrays coded by one coder are equal just where the texts are -/
theorem Cod.eqv {cd : Int32} {n k : Nat} {f g : Nat → Int32} {V V' : Cell} (h : Cod cd n f V) (h' : Cod cd k g V') (hf : ∀ j, j < n → ¬ f j < 0 ∧ ¬ 65535 < f j) (hg : ∀ j, j < k → ¬ g j < 0 ∧ ¬ 65535 < g j) : EqC V V' ↔ SameT n f k g := by
  have yvv : ∀ {W : Cell} {i : Nat} {x : Int32}, W.slots[i]? = some (.int x) → yv W i = x := fun q => by unfold yv; rw [q]
  rcases h with ⟨rfl, k1, k2⟩ | ⟨rfl, k1, k2, -⟩
  · rcases h' with ⟨-, m1, m2⟩ | ⟨e, -⟩
    · constructor
      · rintro ⟨e1, e2⟩
        refine ⟨by omega, fun j hj => ?_⟩
        have q := e2 j (by omega)
        rw [yvv (k2 j hj).1, yvv (m2 j (by omega)).1] at q
        exact lo8_inj (hf j hj).1 (k2 j hj).2 (hg j (by omega)).1 (m2 j (by omega)).2 q
      · rintro ⟨rfl, e2⟩
        refine ⟨by omega, fun j hj => ?_⟩
        rw [yvv (k2 j (by omega)).1, yvv (m2 j (by omega)).1, e2 j (by omega)]
    · exact absurd e (by decide)
  · rcases h' with ⟨e, -⟩ | ⟨-, m1, m2, -⟩
    · exact absurd e (by decide)
    · constructor
      · rintro ⟨e1, e2⟩
        refine ⟨by omega, fun j hj => ?_⟩
        have q1 := e2 (2 * j) (by omega)
        have q2 := e2 (2 * j + 1) (by omega)
        rw [yvv (k2 j hj).1, yvv (m2 j (by omega)).1] at q1
        rw [yvv (k2 j hj).2, yvv (m2 j (by omega)).2] at q2
        rw [← pair_says (hf j hj).1 (hf j hj).2, ← pair_says (hg j (by omega)).1 (hg j (by omega)).2, q1, q2]
      · rintro ⟨rfl, e2⟩
        refine ⟨by omega, fun i hi => ?_⟩
        rcases Nat.mod_two_eq_zero_or_one i with e | e
        · obtain ⟨j, rfl⟩ : ∃ j, i = 2 * j := ⟨i / 2, by omega⟩
          rw [yvv (k2 j (by omega)).1, yvv (m2 j (by omega)).1, e2 j (by omega)]
        · obtain ⟨j, rfl⟩ : ∃ j, i = 2 * j + 1 := ⟨i / 2, by omega⟩
          rw [yvv (k2 j (by omega)).2, yvv (m2 j (by omega)).2, e2 j (by omega)]
/-- two codings differ: so do the texts -/
theorem Cod.dif {cd cd' : Int32} {n k : Nat} {f g : Nat → Int32} {V V' : Cell} (h : Cod cd n f V) (h' : Cod cd' k g V') (hne : ¬ cd = cd') : ¬ SameT n f k g := by
  rintro ⟨rfl, e⟩
  rcases h with ⟨rfl, -, k2⟩ | ⟨rfl, -, -, j, hj, hw⟩
  · rcases h' with ⟨rfl, -⟩ | ⟨-, -, -, j, hj, hw⟩
    · exact hne rfl
    · exact (k2 j hj).2 (by rw [e j hj]; exact hw)
  · rcases h' with ⟨-, -, m2⟩ | ⟨rfl, -⟩
    · exact (m2 j hj).2 (by rw [← e j hj]; exact hw)
    · exact hne rfl
/-- an object of exactly C is an instance of C -/
theorem cinst {p : Program} {l : Launch} {e : Env} {R : Room} {s : State} {m : MethodId} {args : Array Value} {below : List Frame} {meth : Method} {c : Code} {T : State} {locs : List Loc} {cells slots : Nat} (X : Stand p l e R s m args below meth c T locs cells slots) (hexec : p.tables.exec = Jvm.exec) {own C : String} {index : Nat} (hown : s.vm.findClass own = some m.cls) (hlink : (Cond.classLink own index C).before args s = true) {a : Addr} (hE : Exact C a T)
    {g : JFrame} (hg : g.method = m) {rest : List Value} (hstack : g.stack = .ref a :: rest) (hdg : decode c.code g.pc = .ok (.instanceof index, 3)) :
    ∃ T', Stand p l e R s m args below meth c T' locs cells slots ∧ T'.heap = T.heap ∧ ∀ target, Steps p.tables e below (T'.setTop { g with pc := g.pc + 3, stack := .int 1 :: rest }) target → Steps p.tables e below (T.setTop g) target := by
  obtain ⟨cB, h1, D, h2, h3, h4⟩ := hE
  have h1' : s.vm.findClass C = some cB := by rw [← X.warmed.alike.findClass]; exact h1
  obtain ⟨vm', X', st⟩ := X.instanceofYes hexec hown hlink h2 h4 h1' (by rw [h3]; exact Jvm.Free.SB.assignable_self _ _) hg hstack hdg
  exact ⟨_, X', rfl, st⟩
theorem cself {p : Program} {l : Launch} {e : Env} {R : Room} {s : State} {m : MethodId} {args : Array Value} {below : List Frame} {meth : Method} {c : Code} {T : State} {locs : List Loc} {cells slots : Nat} (X : Stand p l e R s m args below meth c T locs cells slots) (hexec : p.tables.exec = Jvm.exec) {own C : String} {index : Nat} (hown : s.vm.findClass own = some m.cls) (hlink : (Cond.classLink own index C).before args s = true) {a : Addr} (hE : Exact C a T)
    {g : JFrame} (hg : g.method = m) {rest : List Value} (hstack : g.stack = .ref a :: rest) (hdg : decode c.code g.pc = .ok (.checkcast index, 3)) :
    ∃ T', Stand p l e R s m args below meth c T' locs cells slots ∧ T'.heap = T.heap ∧ ∀ target, Steps p.tables e below (T'.setTop { g with pc := g.pc + 3, stack := .ref a :: rest }) target → Steps p.tables e below (T.setTop g) target := by
  obtain ⟨cB, h1, D, h2, h3, h4⟩ := hE
  have h1' : s.vm.findClass C = some cB := by rw [← X.warmed.alike.findClass]; exact h1
  obtain ⟨vm', X', st⟩ := X.checkcastYes hexec hown hlink h2 h4 h1' (by rw [h3]; exact Jvm.Free.SB.assignable_self _ _) hg hstack hdg
  exact ⟨_, X', rfl, fun t h => st t (by rw [← hstack] at h; exact h)⟩
namespace SEq
def yN : MethodName := ⟨"java/lang/String", "equals", "(Ljava/lang/Object;)Z"⟩
abbrev yB : ByteArray := jdk_42_method_66_code
theorem d0 : decode yB 0 = .ok (.aload_n 0, 1) := by decide +kernel
theorem d1 : decode yB 1 = .ok (.aload_n 1, 1) := by decide +kernel
theorem d2 : decode yB 2 = .ok (.if_acmp (.ne) 5, 3) := by decide +kernel
theorem d5 : decode yB 5 = .ok (.iconst 1, 1) := by decide +kernel
theorem d6 : decode yB 6 = .ok (.ireturn, 1) := by decide +kernel
theorem d7 : decode yB 7 = .ok (.aload_n 1, 1) := by decide +kernel
theorem d8 : decode yB 8 = .ok (.instanceof 10, 3) := by decide +kernel
theorem d11 : decode yB 11 = .ok (.ifCond (.eq) 43, 3) := by decide +kernel
theorem d14 : decode yB 14 = .ok (.aload_n 1, 1) := by decide +kernel
theorem d15 : decode yB 15 = .ok (.checkcast 10, 3) := by decide +kernel
theorem d18 : decode yB 18 = .ok (.astore_n 2, 1) := by decide +kernel
theorem d19 : decode yB 19 = .ok (.getstatic 38, 3) := by decide +kernel
theorem d22 : decode yB 22 = .ok (.ifCond (.eq) 14, 3) := by decide +kernel
theorem d25 : decode yB 25 = .ok (.aload_n 0, 1) := by decide +kernel
theorem d26 : decode yB 26 = .ok (.getfield 15, 3) := by decide +kernel
theorem d29 : decode yB 29 = .ok (.aload_n 2, 1) := by decide +kernel
theorem d30 : decode yB 30 = .ok (.getfield 15, 3) := by decide +kernel
theorem d33 : decode yB 33 = .ok (.if_icmp (.ne) 21, 3) := by decide +kernel
theorem d36 : decode yB 36 = .ok (.aload_n 0, 1) := by decide +kernel
theorem d37 : decode yB 37 = .ok (.getfield 9, 3) := by decide +kernel
theorem d40 : decode yB 40 = .ok (.aload_n 2, 1) := by decide +kernel
theorem d41 : decode yB 41 = .ok (.getfield 9, 3) := by decide +kernel
theorem d44 : decode yB 44 = .ok (.invokestatic 541, 3) := by decide +kernel
theorem d47 : decode yB 47 = .ok (.ifCond (.eq) 7, 3) := by decide +kernel
theorem d50 : decode yB 50 = .ok (.iconst 1, 1) := by decide +kernel
theorem d51 : decode yB 51 = .ok (.goto 4, 3) := by decide +kernel
theorem d54 : decode yB 54 = .ok (.iconst 0, 1) := by decide +kernel
theorem d55 : decode yB 55 = .ok (.ireturn, 1) := by decide +kernel
def site : List Cond := [.classLink "java/lang/String" 10 "java/lang/String", .fieldLink "java/lang/String" 38 "java/lang/String" "COMPACT_STRINGS" "Z", .fieldLink "java/lang/String" 15 "java/lang/String" "coder" "B", .fieldLink "java/lang/String" 9 "java/lang/String" "value" "[B", LEq.tab] ++ staticW "java/lang/String" 541 LEq.yN
def tab : Cond := tabOf yN yB 3 (some .boolean) site
def P (x t : Addr) (V : Cell) (cd : Int32) (n : Nat) (f : Nat → Int32) (y t' : Addr) (V' : Cell) (cd' : Int32) (k : Nat) (g : Nat → Int32) (z : Int32) (args : Array Value) (s : State) : Prop := args = #[.ref x, .ref y] ∧ Txt x t V cd n f s ∧ Txt y t' V' cd' k g s ∧ StaticIs s "java/lang/String" "COMPACT_STRINGS" "Z" (.int z) ∧ ¬ z = 0
/-- equals(Object) of two Strings: whether the texts are the same -/
theorem law (l : Launch) (x t : Addr) (V : Cell) (cd : Int32) (n : Nat) (f : Nat → Int32) (y t' : Addr) (V' : Cell) (cd' : Int32) (k : Nat) (g : Nat → Int32) (z : Int32) : Law l yN 2 1 1 14 yB 3 (some .boolean) site (P x t V cd n f y t' V' cd' k g z) (Says01 (SameT n f k g)) [] 0 0 := by
  refine Law.of_walk (plainFor_of_name (by decide +kernel)) (by decide +kernel) (by decide +kernel) (by decide) (fun _ _ h => by rw [h.1]; rfl) (fun _ U U' hal hh h => ⟨h.1, h.2.1.mv hal hh, h.2.2.1.mv hal hh, h.2.2.2.1.there hal hh, h.2.2.2.2⟩) (fun r U U' V V' h1 hal h2 h => Says01.mv r U U' V V' h1 hal h2 h) ?_
  intro p e s m args below meth c s₁ X0 hexec hbytes hml hret hlk hnm hown hh0 W hP
  obtain ⟨rfl, hx, hy, s1, hz⟩ := hP
  have c1 : Steps p.tables e below (s₁.setTop (entryFrame m #[.ref x, .ref y] 3)) (s₁.setTop (mkF m 2 #[.val (.ref x), .val (.ref y), .unset] [.ref y, .ref x])) := Steps.trans (entry rfl) (by
    show Steps p.tables e below (s₁.setTop (mkF m 0 #[.val (.ref x), .val (.ref y), .unset] [])) _
    refine XS.aloadN X0.here hexec rfl (hb hbytes d0) rfl rfl ?_
    refine XS.aloadN X0.here hexec rfl (hb hbytes d1) rfl rfl ?_
    exact Steps.refl _)
  by_cases hxy : x = y
  · have c2 : Steps p.tables e below (s₁.setTop (entryFrame m #[.ref x, .ref y] 3)) (s₁.setTop (mkF m 6 #[.val (.ref x), .val (.ref y), .unset] [.int 1])) := c1.trans (by
      refine acmpNo X0.here hexec rfl (hb hbytes d2) rfl rfl rfl (by simp [acmp, hxy]) ?_
      refine iconstV X0.here hexec rfl 1 (hb hbytes d5) (by decide) ?_
      exact Steps.refl _)
    subst hxy
    have ec : cd = cd' := by
      obtain ⟨D, fd, a1, a2, a3⟩ := hx.2.2.1
      obtain ⟨D', fd', b1, b2, b3⟩ := hy.2.2.1
      cases a1.symm.trans b1
      obtain ⟨q1, q2, q3, q4⟩ := a2.1
      obtain ⟨r1, r2, r3, r4⟩ := b2.1
      cases q4.symm.trans r4
      cases a3.symm.trans b3; rfl
    have et : t = t' := by
      obtain ⟨D, fd, a1, a2, a3⟩ := hx.2.1
      obtain ⟨D', fd', b1, b2, b3⟩ := hy.2.1
      cases a1.symm.trans b1
      obtain ⟨q1, q2, q3, q4⟩ := a2.1
      obtain ⟨r1, r2, r3, r4⟩ := b2.1
      cases q4.symm.trans r4
      cases a3.symm.trans b3; rfl
    subst ec et
    have ev : V = V' := by cases hx.2.2.2.1.1.symm.trans hy.2.2.2.1.1; rfl
    subst ev
    have hs : SameT n f k g := (Cod.eqv hx.2.2.2.2.1 hy.2.2.2.2.1 hx.2.2.2.2.2 hy.2.2.2.2.2).mp ⟨rfl, fun _ _ => rfl⟩
    exact ⟨s₁, some (.int 1), _, _, _, X0, rfl, rfl, rfl, (fun h => by cases h), ⟨1, rfl, hh0, Or.inl ⟨rfl, hs⟩⟩, fun fs hl => c2.trans (X0.ireturnOut hexec hret rfl (Or.inr (Or.inl rfl)) (hb hbytes d6) hl)⟩
  · have c2 : Steps p.tables e below (s₁.setTop (entryFrame m #[.ref x, .ref y] 3)) (s₁.setTop (mkF m 8 #[.val (.ref x), .val (.ref y), .unset] [.ref y])) := c1.trans (by
      refine acmpYes X0.here hexec rfl (pc0 := 2) rfl (hb hbytes d2) rfl rfl rfl (by simp [acmp, hxy]) (by decide) rfl ?_
      refine XS.aloadN X0.here hexec rfl (hb hbytes d7) rfl rfl ?_
      exact Steps.refl _)
    obtain ⟨T3, X3, q3, st3⟩ := cinst X0 hexec hown (wk W (.classLink "java/lang/String" 10 "java/lang/String")) (hy.mv X0.warmed.alike hh0).1 (g := (mkF m 8 #[.val (.ref x), .val (.ref y), .unset] [.ref y])) rfl (rest := []) rfl (hb hbytes d8)
    have hh3 := q3.trans hh0
    have c4 : Steps p.tables e below (s₁.setTop (entryFrame m #[.ref x, .ref y] 3)) (T3.setTop (mkF m 15 #[.val (.ref x), .val (.ref y), .unset] [.ref y])) := (c2.trans (st3 _ (Steps.refl _))).trans (by
      refine XS.ifNo X3.here hexec rfl (hb hbytes d11) rfl (i0_eq_f (by decide)) ?_
      refine XS.aloadN X3.here hexec rfl (hb hbytes d14) rfl rfl ?_
      exact Steps.refl _)
    obtain ⟨T5, X5, q5, st5⟩ := cself X3 hexec hown (wk W (.classLink "java/lang/String" 10 "java/lang/String")) (hy.mv X3.warmed.alike hh3).1 (g := (mkF m 15 #[.val (.ref x), .val (.ref y), .unset] [.ref y])) rfl (rest := []) rfl (hb hbytes d15)
    have hh5 := q5.trans hh3
    have c6 : Steps p.tables e below (s₁.setTop (entryFrame m #[.ref x, .ref y] 3)) (T5.setTop (mkF m 19 #[.val (.ref x), .val (.ref y), .val (.ref y)] [])) := (c4.trans (st5 _ (Steps.refl _))).trans (by
      refine XS.astoreN X5.here hexec rfl (hb hbytes d18) rfl rfl rfl ?_
      exact Steps.refl _)
    obtain ⟨T7, X7, q7, st7⟩ := X5.sget hexec hown (wk W (.fieldLink "java/lang/String" 38 "java/lang/String" "COMPACT_STRINGS" "Z")) s1 (fun _ _ h => by rw [hh5]; exact h) (g := (mkF m 19 #[.val (.ref x), .val (.ref y), .val (.ref y)] [])) rfl (hb hbytes d19)
    have hh7 := q7.trans hh5
    have c8 : Steps p.tables e below (s₁.setTop (entryFrame m #[.ref x, .ref y] 3)) (T7.setTop (mkF m 26 #[.val (.ref x), .val (.ref y), .val (.ref y)] [.ref x])) := (c6.trans (st7 _ (Steps.refl _))).trans (by
      refine XS.ifNo X7.here hexec rfl (hb hbytes d22) rfl (i0_eq_f hz) ?_
      refine XS.aloadN X7.here hexec rfl (hb hbytes d25) rfl rfl ?_
      exact Steps.refl _)
    obtain ⟨T9, X9, q9, st9⟩ := X7.hget hexec hown (wk W (.fieldLink "java/lang/String" 15 "java/lang/String" "coder" "B")) (hx.mv X7.warmed.alike hh7).2.2.1 (g := (mkF m 26 #[.val (.ref x), .val (.ref y), .val (.ref y)] [.ref x])) rfl (rest := []) rfl (hb hbytes d26)
    have hh9 := q9.trans hh7
    have c10 : Steps p.tables e below (s₁.setTop (entryFrame m #[.ref x, .ref y] 3)) (T9.setTop (mkF m 30 #[.val (.ref x), .val (.ref y), .val (.ref y)] [.ref y, .int cd])) := (c8.trans (st9 _ (Steps.refl _))).trans (by
      refine XS.aloadN X9.here hexec rfl (hb hbytes d29) rfl rfl ?_
      exact Steps.refl _)
    obtain ⟨T11, X11, q11, st11⟩ := X9.hget hexec hown (wk W (.fieldLink "java/lang/String" 15 "java/lang/String" "coder" "B")) (hy.mv X9.warmed.alike hh9).2.2.1 (g := (mkF m 30 #[.val (.ref x), .val (.ref y), .val (.ref y)] [.ref y, .int cd])) rfl (rest := [.int cd]) rfl (hb hbytes d30)
    have hh11 := q11.trans hh9
    have c12 : Steps p.tables e below (s₁.setTop (entryFrame m #[.ref x, .ref y] 3)) (T11.setTop (mkF m 33 #[.val (.ref x), .val (.ref y), .val (.ref y)] [.int cd', .int cd])) := c10.trans (st11 _ (Steps.refl _))
    by_cases hcd : cd = cd'
    · subst hcd
      have c13 : Steps p.tables e below (s₁.setTop (entryFrame m #[.ref x, .ref y] 3)) (T11.setTop (mkF m 37 #[.val (.ref x), .val (.ref y), .val (.ref y)] [.ref x])) := c12.trans (by
        refine XS.icmpNo X11.here hexec rfl (hb hbytes d33) rfl (ii_ne_f rfl) ?_
        refine XS.aloadN X11.here hexec rfl (hb hbytes d36) rfl rfl ?_
        exact Steps.refl _)
      obtain ⟨T14, X14, q14, st14⟩ := X11.hget hexec hown (wk W (.fieldLink "java/lang/String" 9 "java/lang/String" "value" "[B")) (hx.mv X11.warmed.alike hh11).2.1 (g := (mkF m 37 #[.val (.ref x), .val (.ref y), .val (.ref y)] [.ref x])) rfl (rest := []) rfl (hb hbytes d37)
      have hh14 := q14.trans hh11
      have c15 : Steps p.tables e below (s₁.setTop (entryFrame m #[.ref x, .ref y] 3)) (T14.setTop (mkF m 41 #[.val (.ref x), .val (.ref y), .val (.ref y)] [.ref y, .ref t])) := (c13.trans (st14 _ (Steps.refl _))).trans (by
        refine XS.aloadN X14.here hexec rfl (hb hbytes d40) rfl rfl ?_
        exact Steps.refl _)
      obtain ⟨T16, X16, q16, st16⟩ := X14.hget hexec hown (wk W (.fieldLink "java/lang/String" 9 "java/lang/String" "value" "[B")) (hy.mv X14.warmed.alike hh14).2.1 (g := (mkF m 41 #[.val (.ref x), .val (.ref y), .val (.ref y)] [.ref y, .ref t])) rfl (rest := [.ref t]) rfl (hb hbytes d41)
      have hh16 := q16.trans hh14
      have c17 : Steps p.tables e below (s₁.setTop (entryFrame m #[.ref x, .ref y] 3)) (T16.setTop (mkF m 44 #[.val (.ref x), .val (.ref y), .val (.ref y)] [.ref t', .ref t])) := c15.trans (st16 _ (Steps.refl _))
      obtain ⟨v18, T18, X18, E18, g18⟩ := X16.callS hexec (LEq.law l t V t' V') hown (wks W (staticW "java/lang/String" 541 LEq.yN)) (wk W LEq.tab) (W := 0) (Nat.le_of_ble_eq_true rfl) (Nat.le_of_ble_eq_true rfl) (Nat.le_refl _) (Nat.le_refl _) (g := (mkF m 44 #[.val (.ref x), .val (.ref y), .val (.ref y)] [.ref t', .ref t])) rfl (by rw [hml]; rfl) c17 (argsL := [.ref t, .ref t']) (rest := []) rfl rfl (by show 2 * 0 + 0 ≤ _; decide) (hb hbytes d44) (⟨rfl, hx.2.2.2.1.mv X16.warmed.alike hh16, hx.2.2.2.2.1.ty, hy.2.2.2.1.mv X16.warmed.alike hh16, hy.2.2.2.2.1.ty⟩)
      obtain ⟨v, rfl, q18, hv⟩ := E18
      have iff := Cod.eqv hx.2.2.2.2.1 hy.2.2.2.2.1 hx.2.2.2.2.2 hy.2.2.2.2.2
      rcases hv with ⟨rfl, he⟩ | ⟨rfl, he⟩
      · have c19 : Steps p.tables e below (s₁.setTop (entryFrame m #[.ref x, .ref y] 3)) (T18.setTop (mkF m 55 #[.val (.ref x), .val (.ref y), .val (.ref y)] [.int 1])) := Steps.trans g18 (by
          refine XS.ifNo X18.here hexec rfl (hb hbytes d47) rfl (i0_eq_f (by decide)) ?_
          refine iconstV X18.here hexec rfl 1 (hb hbytes d50) (by decide) ?_
          refine XS.goto X18.here hexec rfl (pc0 := 51) rfl (hb hbytes d51) (by decide) rfl ?_
          exact Steps.refl _)
        exact ⟨T18, some (.int 1), _, _, _, X18, rfl, rfl, rfl, (fun h => by cases h), ⟨1, rfl, q18.trans hh16, Or.inl ⟨rfl, iff.mp he⟩⟩, fun fs hl => c19.trans (X18.ireturnOut hexec hret rfl (Or.inr (Or.inl rfl)) (hb hbytes d55) hl)⟩
      · have c19 : Steps p.tables e below (s₁.setTop (entryFrame m #[.ref x, .ref y] 3)) (T18.setTop (mkF m 55 #[.val (.ref x), .val (.ref y), .val (.ref y)] [.int 0])) := Steps.trans g18 (by
          refine XS.ifYes X18.here hexec rfl (pc0 := 47) rfl (hb hbytes d47) rfl (i0_eq_t rfl) (by decide) rfl ?_
          refine iconstV X18.here hexec rfl 0 (hb hbytes d54) (by decide) ?_
          exact Steps.refl _)
        exact ⟨T18, some (.int 0), _, _, _, X18, rfl, rfl, rfl, (fun h => by cases h), ⟨0, rfl, q18.trans hh16, Or.inr ⟨rfl, fun q => he (iff.mpr q)⟩⟩, fun fs hl => c19.trans (X18.ireturnOut hexec hret rfl (Or.inr (Or.inl rfl)) (hb hbytes d55) hl)⟩
    · have c13 : Steps p.tables e below (s₁.setTop (entryFrame m #[.ref x, .ref y] 3)) (T11.setTop (mkF m 55 #[.val (.ref x), .val (.ref y), .val (.ref y)] [.int 0])) := c12.trans (by
        refine XS.icmpYes X11.here hexec rfl (pc0 := 33) rfl (hb hbytes d33) rfl (ii_ne_t hcd) (by decide) rfl ?_
        refine iconstV X11.here hexec rfl 0 (hb hbytes d54) (by decide) ?_
        exact Steps.refl _)
      exact ⟨T11, some (.int 0), _, _, _, X11, rfl, rfl, rfl, (fun h => by cases h), ⟨0, rfl, hh11, Or.inr ⟨rfl, Cod.dif hx.2.2.2.2.1 hy.2.2.2.2.1 hcd⟩⟩, fun fs hl => c13.trans (X11.ireturnOut hexec hret rfl (Or.inr (Or.inl rfl)) (hb hbytes d55) hl)⟩
theorem pays {l : Launch} {R : Room} {p : Program} {e : Env} {below : List Frame} {s : State} {sargs : Array Value} {len W : Nat} (x t : Addr) (V : Cell) (cd : Int32) (n : Nat) (f : Nat → Int32) (y t' : Addr) (V' : Cell) (cd' : Int32) (k : Nat) (g : Nat → Int32) (z : Int32) (htab : tab.before sargs s = true) (hfr : 2 ≤ R.frames) (hlo : W + 28 ≤ R.locals) :
    Back l R p e below s sargs yN len W (fun A₁ a₁ => A₁.cells + 0 ≤ R.cells ∧ A₁.slots + 0 ≤ R.slots ∧ P x t V cd n f y t' V' cd' k g z a₁ A₁.U) (fun A₁ _ v₁ B₁ => Says01 (SameT n f k g) v₁ A₁.U B₁.U ∧ B₁.locs = A₁.locs ++ [] ∧ B₁.cells = A₁.cells + 0 ∧ B₁.slots = A₁.slots + 0) :=
  (law l x t V cd n f y t' V' cd' k g z).pays htab hfr (by omega)
end SEq
end StrChars
namespace StrChars.Road
open Jvm Sem ClassFile Op Lib Jvm.Stand Jvm.Free Jvm.Free.XT
open Jvm.Lib.Cold (StaticIs)
/-- the words of String.equals(Object) -/
abbrev wordsEq : List Jvm.Cond := [.code SEq.yN SEq.yB 3 (some .boolean), .initialized ST, .classLink ST 10 ST, .fieldLink ST 38 ST "COMPACT_STRINGS" "Z", .fieldLink ST 15 ST "coder" "B", .fieldLink ST 9 ST "value" "[B", .methodLink ST 541 LEq.yN, .static LEq.yN, .code LEq.yN LEq.yB 3 (some .boolean), .initialized "java/lang/StringLatin1"]
theorem tabEq_of {a : Array Value} {s : State} (h : ∀ w ∈ wordsEq, w.before a s = true) : SEq.tab.before a s = true := by
  have hl : LEq.tab.before a s = true := unparts (wk h (.code LEq.yN LEq.yB 3 (some .boolean))) (wks h (.initialized LEq.yN.cls :: LEq.site))
  have q := consq hl h
  exact unparts (wk q (.code SEq.yN SEq.yB 3 (some .boolean))) (wks q (.initialized SEq.yN.cls :: SEq.site))
theorem movedEq {Z s : State} {a0 args : Array Value} (hZ : Z.Warmed39 s.vm) (hw : ∀ d ∈ wordsEq, d.before a0 Z = true) : ∀ d ∈ wordsEq, d.before args s = true := fun d hd => by
  have t : ∀ d ∈ wordsEq, (d.onTables && d.keepsFace) = true := by decide +kernel
  exact RoadKit.mv hZ (hw d hd) (t d hd)
/-- the road's facts of a String, as the laws ask it -/
theorem txt_of {Z U : State} {a0 : Array Value} {kI : Nat} (wi : (Jvm.Cond.instantiable ST kI).before a0 Z = true) (al : Z.vm.Alike U.vm) {x t : Addr} {kb : ClassId} {cs : List Int32} {cd N2 : Int32} {vs : List Value} (E : RoadKit.Exa Z U.heap x ST) (V : RoadKit.Fld Z U.heap x ST "value" "[B" (.ref t)) (C : RoadKit.Fld Z U.heap x ST "coder" "B" (.int cd)) (K : RoadKit.Arv Z U.heap t kb .byte N2 vs (.int 0)) (hc : CodA cs cd N2 vs) (hb : ∀ c ∈ cs, ¬ c < 0 ∧ ¬ (65535 : Int32) < c) (l2 : cs.length ≤ 4000) :
    ∃ A, Txt x t A cd cs.length (fun j => cs.getD j 0) U := by
  obtain ⟨A, K1, K2, K3, K4, K5, K6⟩ := K
  have hcod := hc.cod (by omega) K3 K5
  obtain ⟨D, fV, fC, hB, F1, F2, g1, g2, -, -⟩ := strObj wi al E V C
  exact ⟨A, ⟨_, hB.2.2.1, D, hB.1, rfl, by cases q : D.vm <;> first | rfl | exact absurd q (hB.2.1.2 _)⟩, Has.of hB F1 g1, Has.of hB F2 g2, ⟨K1.1, State.isArrayOf_alike al K1.2.1, K1.2.2, by rcases hcod with ⟨-, q, -⟩ | ⟨-, q, -⟩ <;> omega⟩, hcod, fun j hj => by
    have e : cs.getD j 0 = cs[j] := by simp [List.getD_eq_getElem?_getD, hj]
    show ¬ cs.getD j 0 < 0 ∧ ¬ 65535 < cs.getD j 0
    rw [e]; exact hb _ (List.getElem_mem _)⟩
theorem same_list (cs ds : List Int32) : SameT cs.length (fun j => cs.getD j 0) ds.length (fun j => ds.getD j 0) ↔ cs = ds := by
  constructor
  · rintro ⟨e, q⟩
    refine List.ext_getElem e fun j h1 h2 => ?_
    have := q j h1
    simpa [List.getD_eq_getElem?_getD, h1, h2] using this
  · rintro rfl
    exact ⟨rfl, fun _ _ => rfl⟩
/-- **equals(Object) OF TWO SUCH STRINGS**: 1 just where the chars are the same -/
theorem eqW {p : Program} {l : Launch} {e : Env} {R : Room} {s : State} {args : Array Value} {below : List Frame} {len W : Nat} {Z : State} {a0 : Array Value} {h : Heap} (hZ : Z.Warmed39 s.vm) (hw : ∀ d ∈ wordsEq, d.before a0 Z = true) {kI : Nat} (wi : (Jvm.Cond.instantiable ST kI).before a0 Z = true)
    {x t : Addr} {kb : ClassId} {cs : List Int32} {cd N2 : Int32} {vs : List Value} (E : RoadKit.Exa Z h x ST) (V : RoadKit.Fld Z h x ST "value" "[B" (.ref t)) (C : RoadKit.Fld Z h x ST "coder" "B" (.int cd)) (K : RoadKit.Arv Z h t kb .byte N2 vs (.int 0)) (hc : CodA cs cd N2 vs) (hb : ∀ c ∈ cs, ¬ c < 0 ∧ ¬ (65535 : Int32) < c) (l2 : cs.length ≤ 4000)
    {y t' : Addr} {kb' : ClassId} {ds : List Int32} {cd' N2' : Int32} {vs' : List Value} (E' : RoadKit.Exa Z h y ST) (V' : RoadKit.Fld Z h y ST "value" "[B" (.ref t')) (C' : RoadKit.Fld Z h y ST "coder" "B" (.int cd')) (K' : RoadKit.Arv Z h t' kb' .byte N2' vs' (.int 0)) (hc' : CodA ds cd' N2' vs') (hb' : ∀ c ∈ ds, ¬ c < 0 ∧ ¬ (65535 : Int32) < c) (l2' : ds.length ≤ 4000)
    {z : Int32} (S : RoadKit.Sta Z h ST "COMPACT_STRINGS" "Z" (.int z)) (hz : ¬ z = 0) (hfr : 2 ≤ R.frames) (hlo : W + 28 ≤ R.locals) :
    Back l R p e below s args (⟨"java/lang/String", "equals", "(Ljava/lang/Object;)Z"⟩ : MethodName) len W (fun P a => a = #[.ref x, .ref y] ∧ P.U.heap = h ∧ P.cells + 0 ≤ R.cells ∧ P.slots + 0 ≤ R.slots)
      (fun P _ v B => ∃ L, (((v = some (.int 1) ∧ cs = ds) ∨ (v = some (.int 0) ∧ ¬ cs = ds)) ∧ L = [] ∧ B.U.heap = h) ∧ B.locs = P.locs ++ L ∧ B.cells = P.cells + 0 ∧ B.slots = P.slots + 0) := by
  intro m meth c P g ig mk a X hg hsize hdg hW hn hp'
  obtain ⟨rfl, rfl, r1, r2⟩ := hp'
  have al : Z.vm.Alike P.U.vm := hZ.alike.trans X.warmed.alike
  obtain ⟨A, hx⟩ := txt_of wi al E V C K hc hb l2
  obtain ⟨A', hy⟩ := txt_of wi al E' V' C' K' hc' hb' l2'
  obtain ⟨v, B, X', ⟨⟨w, hv, hh, hq⟩, hl, hk, hs⟩, st⟩ := SEq.pays x t A cd cs.length (fun j => cs.getD j 0) y t' A' cd' ds.length (fun j => ds.getD j 0) z (tabEq_of (movedEq hZ hw)) hfr hlo m meth c P g ig mk _ X hg hsize hdg hW hn ⟨r1, r2, rfl, hx, hy, sta_is al S, hz⟩
  refine ⟨v, B, X', ⟨[], ⟨?_, rfl, hh⟩, hl, hk, hs⟩, st⟩
  rcases hq with ⟨rfl, q⟩ | ⟨rfl, q⟩
  · exact Or.inl ⟨hv, (same_list cs ds).mp q⟩
  · exact Or.inr ⟨hv, fun e => q ((same_list cs ds).mpr e)⟩
end StrChars.Road
namespace StrChars.Road
open Jvm Sem ClassFile Op Lib Jvm.Stand Jvm.Free Jvm.Free.XT
open Jvm.Lib.Cold (StaticIs)
/-- what backV says of its String, as the contracts of this text ask it: cs's low bytes, coder 0 -/
theorem codOf {cs : List Int32} {n : Nat} (hn : cs.length = n) (hb : ∀ c ∈ cs, ¬ 255 < c) : CodA cs 0 (Int32.ofNat n) ((cs.map lo8).map Value.int) := Or.inl ⟨rfl, by rw [hn], by simp [List.map_map, Function.comp_def], hb⟩
end StrChars.Road
end Jvm.Pilot.@@N@@
namespace Jvm.Pilot.@@N@@
open Jvm Jvm.ClassFile Sem Op Lib Jvm.Free Jvm.Stand Jvm.LawKit Jvm.RoadKit Bundle Jvm.Pilot.@@N@@.Jvm.D
theorem own_pack {p : Program} {l : Launch} {e : Env} {R : Room} {s : State} {m : MethodId} {args : Array Value} {below : List Frame} {meth : Method} {c : Code} {T : State} {locs : List Loc} {cells slots n0 : Nat} (X : Stand p l e R s m args below meth c T locs cells slots) (N : Fr n0 locs) : ∃ L, Stand p l e R s m args below meth c T L cells slots ∧ Fr n0 L := ⟨_, X, N⟩
theorem own_c0 {P : Int32 → Prop} : ∀ x ∈ ([] : List Int32), P x := fun _ h => nomatch h
theorem own_cS {P : Int32 → Prop} {y : Int32} {L : List Int32} (q : P y) (r : ∀ x ∈ L, P x) : ∀ x ∈ y :: L, P x := fun x h => (List.mem_cons.mp h).elim (fun e => e ▸ q) (r x)
theorem own_up (cs : List Int32) (h : ∀ c ∈ cs, ¬ c < 0 ∧ ¬ (255 : Int32) < c) : ∀ c ∈ cs, ¬ c < 0 ∧ ¬ (65535 : Int32) < c := fun c hc => ⟨(h c hc).1, fun q => (h c hc).2 (by rw [Int32.lt_iff_toInt_lt] at q ⊢; have e1 : (65535 : Int32).toInt = 65535 := rfl; have e2 : (255 : Int32).toInt = 255 := rfl; omega)⟩
theorem own_m32 (x : Int32) : ∃ k : Fin 256, (x &&& 255) = Int32.ofNat k.val := by
  have h : (x &&& 255).toBitVec.toNat < 256 := by
    simp only [Int32.toBitVec_and, BitVec.toNat_and]
    exact Nat.lt_succ_of_le Nat.and_le_right
  refine ⟨⟨_, h⟩, ?_⟩
  apply Int32.toBitVec_inj.mp
  show _ = BitVec.ofNat 32 _
  rw [BitVec.ofNat_toNat]; simp
theorem own_m64 (x : Int64) : ∃ k : Fin 256, (x &&& 255).toInt32 = Int32.ofNat k.val := by
  have h : (x &&& 255).toBitVec.toNat < 256 := by
    simp only [Int64.toBitVec_and, BitVec.toNat_and]
    exact Nat.lt_succ_of_le Nat.and_le_right
  refine ⟨⟨_, h⟩, ?_⟩
  have e : (x &&& 255) = Int64.ofNat (x &&& 255).toBitVec.toNat := by
    apply Int64.toBitVec_inj.mp
    show _ = BitVec.ofNat 64 _
    rw [BitVec.ofNat_toNat]; simp
  have t : ∀ k : Fin 256, (Int64.ofNat k.val).toInt32 = Int32.ofNat k.val := by decide +kernel
  exact (congrArg Int64.toInt32 e).trans (t ⟨_, h⟩)
theorem own_eqint {args : Array Value} {s : State} {t : Term} {k : Int32} (h : (Jvm.Cond.eq t (.int k)).value args s none s [] = some true) : t.eval args s none [] s = some (.int k) := by
  simp only [Cond.value, Term.eval] at h
  cases ht : t.eval args s none [] s with
  | none => simp [ht] at h
  | some x => cases x <;> simp [ht] at h ⊢ <;> exact h
def own_Qlaw (h0 : Heap) (n0 : Nat) (v : Option Value) (h : Heap) (L : List Loc) : Prop := v = some (.int 1) ∧ Fr n0 L
theorem own_hws_words : ∀ d ∈ StrChars.Road.words, d ∈ tables_1 := by decide +kernel
theorem own_hws_wordsEq : ∀ d ∈ StrChars.Road.wordsEq, d ∈ tables_1 := by decide +kernel
def own_iteq (u w a b : Int32) : Int32 := if u = w then a else b
def own_itlt (u w a b : Int32) : Int32 := if u < w then a else b
def own_Glob (Z : State) (G1 : Int32) (k_RUNNING : Addr) (s_RUNNING : Addr) (t_RUNNING : Addr) (kb_RUNNING : ClassId) (k_QUIET : Addr) (s_QUIET : Addr) (t_QUIET : Addr) (kb_QUIET : ClassId) (k_TERMINATE : Addr) (s_TERMINATE : Addr) (t_TERMINATE : Addr) (kb_TERMINATE : ClassId) (k_TERMINATED : Addr) (s_TERMINATED : Addr) (t_TERMINATED : Addr) (kb_TERMINATED : ClassId) (k_VALUES : Addr) (kv_VALUES : ClassId) : Prop := (Sta Z Z.heap "java/lang/String" "COMPACT_STRINGS" "Z" (.int G1)) ∧ (¬ (G1 = (0 : Int32))) ∧ (Sta Z Z.heap "com/example/dagsverke/dagsverke/job/WorkerState" "RUNNING" "Lcom/example/dagsverke/dagsverke/job/WorkerState;" (.ref k_RUNNING)) ∧ (Exa Z Z.heap k_RUNNING "com/example/dagsverke/dagsverke/job/WorkerState") ∧ (Fld Z Z.heap k_RUNNING "com/example/dagsverke/dagsverke/job/WorkerState" "wireName" "Ljava/lang/String;" (.ref s_RUNNING)) ∧ (Exa Z Z.heap s_RUNNING "java/lang/String") ∧ (Fld Z Z.heap s_RUNNING "java/lang/String" "coder" "B" (.int (0 : Int32))) ∧ (Fld Z Z.heap s_RUNNING "java/lang/String" "value" "[B" (.ref t_RUNNING)) ∧ (Arv Z Z.heap t_RUNNING kb_RUNNING .byte (7 : Int32) ((([(114 : Int32), (117 : Int32), (110 : Int32), (110 : Int32), (105 : Int32), (110 : Int32), (103 : Int32)] : List Int32).map (fun c => c.toInt8.toInt32)).map Value.int) (.int (0 : Int32))) ∧ (Sta Z Z.heap "com/example/dagsverke/dagsverke/job/WorkerState" "QUIET" "Lcom/example/dagsverke/dagsverke/job/WorkerState;" (.ref k_QUIET)) ∧ (Exa Z Z.heap k_QUIET "com/example/dagsverke/dagsverke/job/WorkerState") ∧ (Fld Z Z.heap k_QUIET "com/example/dagsverke/dagsverke/job/WorkerState" "wireName" "Ljava/lang/String;" (.ref s_QUIET)) ∧ (Exa Z Z.heap s_QUIET "java/lang/String") ∧ (Fld Z Z.heap s_QUIET "java/lang/String" "coder" "B" (.int (0 : Int32))) ∧ (Fld Z Z.heap s_QUIET "java/lang/String" "value" "[B" (.ref t_QUIET)) ∧ (Arv Z Z.heap t_QUIET kb_QUIET .byte (5 : Int32) ((([(113 : Int32), (117 : Int32), (105 : Int32), (101 : Int32), (116 : Int32)] : List Int32).map (fun c => c.toInt8.toInt32)).map Value.int) (.int (0 : Int32))) ∧ (Sta Z Z.heap "com/example/dagsverke/dagsverke/job/WorkerState" "TERMINATE" "Lcom/example/dagsverke/dagsverke/job/WorkerState;" (.ref k_TERMINATE)) ∧ (Exa Z Z.heap k_TERMINATE "com/example/dagsverke/dagsverke/job/WorkerState") ∧ (Fld Z Z.heap k_TERMINATE "com/example/dagsverke/dagsverke/job/WorkerState" "wireName" "Ljava/lang/String;" (.ref s_TERMINATE)) ∧ (Exa Z Z.heap s_TERMINATE "java/lang/String") ∧ (Fld Z Z.heap s_TERMINATE "java/lang/String" "coder" "B" (.int (0 : Int32))) ∧ (Fld Z Z.heap s_TERMINATE "java/lang/String" "value" "[B" (.ref t_TERMINATE)) ∧ (Arv Z Z.heap t_TERMINATE kb_TERMINATE .byte (9 : Int32) ((([(116 : Int32), (101 : Int32), (114 : Int32), (109 : Int32), (105 : Int32), (110 : Int32), (97 : Int32), (116 : Int32), (101 : Int32)] : List Int32).map (fun c => c.toInt8.toInt32)).map Value.int) (.int (0 : Int32))) ∧ (Sta Z Z.heap "com/example/dagsverke/dagsverke/job/WorkerState" "TERMINATED" "Lcom/example/dagsverke/dagsverke/job/WorkerState;" (.ref k_TERMINATED)) ∧ (Exa Z Z.heap k_TERMINATED "com/example/dagsverke/dagsverke/job/WorkerState") ∧ (Fld Z Z.heap k_TERMINATED "com/example/dagsverke/dagsverke/job/WorkerState" "wireName" "Ljava/lang/String;" (.ref s_TERMINATED)) ∧ (Exa Z Z.heap s_TERMINATED "java/lang/String") ∧ (Fld Z Z.heap s_TERMINATED "java/lang/String" "coder" "B" (.int (0 : Int32))) ∧ (Fld Z Z.heap s_TERMINATED "java/lang/String" "value" "[B" (.ref t_TERMINATED)) ∧ (Arv Z Z.heap t_TERMINATED kb_TERMINATED .byte (10 : Int32) ((([(116 : Int32), (101 : Int32), (114 : Int32), (109 : Int32), (105 : Int32), (110 : Int32), (97 : Int32), (116 : Int32), (101 : Int32), (100 : Int32)] : List Int32).map (fun c => c.toInt8.toInt32)).map Value.int) (.int (0 : Int32))) ∧ (Sta Z Z.heap "com/example/dagsverke/dagsverke/job/WorkerState" "$VALUES" "[Lcom/example/dagsverke/dagsverke/job/WorkerState;" (.ref k_VALUES)) ∧ (Exa Z Z.heap k_VALUES "[Lcom/example/dagsverke/dagsverke/job/WorkerState;") ∧ (Arv Z Z.heap k_VALUES kv_VALUES (.object "com/example/dagsverke/dagsverke/job/WorkerState") (4 : Int32) [(.ref k_RUNNING), (.ref k_QUIET), (.ref k_TERMINATE), (.ref k_TERMINATED)] .null)
theorem own_eqref {args : Array Value} {s : State} {t u : Term} {k : Addr} (h : (Jvm.Cond.eq t u).value args s none s [] = some true) (hu : u.eval args s none [] s = some (.ref k)) : t.eval args s none [] s = some (.ref k) := by
  simp only [Cond.value, hu] at h
  cases ht : t.eval args s none [] s with
  | none => simp [ht] at h
  | some x => cases x <;> simp [ht] at h ⊢ <;> exact h
theorem own_len {args : Array Value} {s : State} {t : Term} {x : Addr} {cl : Cell} {ty : FieldType} {n : Int32} (h : (Term.length t).eval args s none [] s = some (.int n)) (ht : t.eval args s none [] s = some (.ref x)) (A : Arr s s.heap x cl ty) : cl.slots.size < 2 ^ 31 ∧ cl.slots.size.toInt32 = n := by
  have ha := A.fin (Vm.Alike.refl _)
  simp only [Term.eval, ht, ha, Option.bind_eq_bind, Option.bind_some] at h
  split at h
  · rename_i q
    exact ⟨q, by simpa using h⟩
  · simp at h
theorem own_elem {args : Array Value} {s : State} {t : Term} {x : Addr} {cl : Cell} {ty : FieldType} {v : Value} {j : Nat} {i : Int32} (h : (Term.elem t (.int i)).eval args s none [] s = some v) (ht : t.eval args s none [] s = some (.ref x)) (A : Arr s s.heap x cl ty) (hj : i.toNatClampNeg = j) : cl.slots[j]? = some v := by
  subst hj; exact (elem_in h ht (Term.int_eval i) A.1).2
def own_a3 (p : Int32) : Int32 := (p &&& (3 : Int32))
theorem own_a3c (x : Int32) : own_a3 x = 0 ∨ own_a3 x = 1 ∨ own_a3 x = 2 ∨ own_a3 x = 3 := by
  have h := c_mask x 3 2 (by decide) (by decide)
  have q : (x &&& 3).toInt = 0 ∨ (x &&& 3).toInt = 1 ∨ (x &&& 3).toInt = 2 ∨ (x &&& 3).toInt = 3 := by rw [h]; simp only [show ((2 ^ 2 : Nat) : Int) = 4 from rfl]; omega
  rcases q with q | q | q | q
  · exact Or.inl (Int32.toInt_inj.mp q)
  · exact Or.inr (Or.inl (Int32.toInt_inj.mp q))
  · exact Or.inr (Or.inr (Or.inl (Int32.toInt_inj.mp q)))
  · exact Or.inr (Or.inr (Or.inr (Int32.toInt_inj.mp q)))
theorem own_d_prog_13_method_1_0 : decode prog_13_method_1_code 0 = .ok (.getstatic 16, 3) := by decide +kernel
theorem own_d_prog_13_method_1_3 : decode prog_13_method_1_code 3 = .ok (.invokevirtual 20, 3) := by decide +kernel
theorem own_d_prog_13_method_1_6 : decode prog_13_method_1_code 6 = .ok (.checkcast 21, 3) := by decide +kernel
theorem own_d_prog_13_method_1_9 : decode prog_13_method_1_code 9 = .ok (.areturn, 1) := by decide +kernel
theorem own_pn0 : plainName "com/example/dagsverke/dagsverke/job/WorkerState" = true := by first | (simp [plainName, overriddenIn]; done) | decide +kernel
def own_Qrm_values (Z : State) (G1 : Int32) (k_RUNNING : Addr) (s_RUNNING : Addr) (t_RUNNING : Addr) (kb_RUNNING : ClassId) (k_QUIET : Addr) (s_QUIET : Addr) (t_QUIET : Addr) (kb_QUIET : ClassId) (k_TERMINATE : Addr) (s_TERMINATE : Addr) (t_TERMINATE : Addr) (kb_TERMINATE : ClassId) (k_TERMINATED : Addr) (s_TERMINATED : Addr) (t_TERMINATED : Addr) (kb_TERMINATED : ClassId) (k_VALUES : Addr) (kv_VALUES : ClassId)  (h0 : Heap) (n0 : Nat) (v : Option Value) (h : Heap) (L : List Loc) : Prop := ∃ (b2 : Addr), (v = some (.ref b2)) ∧ (Fr n0 L) ∧ (Keep h0 h []) ∧ (h0.size ≤ b2) ∧ (Arv Z h b2 kv_VALUES (.object "com/example/dagsverke/dagsverke/job/WorkerState") (4 : Int32) [(.ref k_RUNNING), (.ref k_QUIET), (.ref k_TERMINATE), (.ref k_TERMINATED)] .null) ∧ (Exa Z h b2 "[Lcom/example/dagsverke/dagsverke/job/WorkerState;")
theorem own_efrm_values (m : MethodId) : entryFrame m #[] 0 = mkF m 0 #[] [] := by first | (simp [entryFrame, mkF, argsToLocals, Value.category]; done) | rfl
set_option maxRecDepth 65536 in
set_option maxHeartbeats 40000000 in
theorem own_rm_values (l : Launch) (Z : State) (a0 : Array Value) (hw : ∀ d ∈ tables_1, d.before a0 Z = true) (ws : List Jvm.Cond) (G1 : Int32) (k_RUNNING : Addr) (s_RUNNING : Addr) (t_RUNNING : Addr) (kb_RUNNING : ClassId) (k_QUIET : Addr) (s_QUIET : Addr) (t_QUIET : Addr) (kb_QUIET : ClassId) (k_TERMINATE : Addr) (s_TERMINATE : Addr) (t_TERMINATE : Addr) (kb_TERMINATE : ClassId) (k_TERMINATED : Addr) (s_TERMINATED : Addr) (t_TERMINATED : Addr) (kb_TERMINATED : ClassId) (k_VALUES : Addr) (kv_VALUES : ClassId) (gl : own_Glob Z G1 k_RUNNING s_RUNNING t_RUNNING kb_RUNNING k_QUIET s_QUIET t_QUIET kb_QUIET k_TERMINATE s_TERMINATE t_TERMINATE kb_TERMINATE k_TERMINATED s_TERMINATED t_TERMINATED kb_TERMINATED k_VALUES kv_VALUES)  (h0 : Heap) (n0 : Nat) (Z0 : n0 ≤ h0.size) (X00 : Old Z n0 h0) :
    MetFree l (⟨"com/example/dagsverke/dagsverke/job/WorkerState", "values", "()[Lcom/example/dagsverke/dagsverke/job/WorkerState;"⟩ : MethodName) (head1 (Jvm.Cond.code (⟨"com/example/dagsverke/dagsverke/job/WorkerState", "values", "()[Lcom/example/dagsverke/dagsverke/job/WorkerState;"⟩ : MethodName) prog_13_method_1_code 0 (some (.array (.object "com/example/dagsverke/dagsverke/job/WorkerState"))) :: ws) ({ frames := 1, cells := 1, slots := 4, locals := 14 } : Room)) (fun a U => a = #[] ∧ Z.Warmed39 U.vm ∧ U.heap = h0) (fun _ _ _ _ _ => True) (fun _ U o U' => ∃ v L, o = .returned v ∧ own_Qrm_values Z G1 k_RUNNING s_RUNNING t_RUNNING kb_RUNNING k_QUIET s_QUIET t_QUIET kb_QUIET k_TERMINATE s_TERMINATE t_TERMINATE kb_TERMINATE k_TERMINATED s_TERMINATED t_TERMINATED kb_TERMINATED k_VALUES kv_VALUES  h0 n0 v U'.heap L ∧ FrameEnd U o U' L ({ frames := 1, cells := 1, slots := 4, locals := 14 } : Room).cells ({ frames := 1, cells := 1, slots := 4, locals := 14 } : Room).slots) := by
  refine MetFree.of_bodySF (plainFor_of_name own_pn0) hisR ?_
  intro p e s m args below meth c s₁ Bd hml0 hP hK
  obtain ⟨rfl, hZ, hh⟩ := hP
  obtain ⟨O_CS, P_CS, O_RUNNING, E_RUNNING, Fs_RUNNING, Es_RUNNING, Fc_RUNNING, Fv_RUNNING, V_RUNNING, O_QUIET, E_QUIET, Fs_QUIET, Es_QUIET, Fc_QUIET, Fv_QUIET, V_QUIET, O_TERMINATE, E_TERMINATE, Fs_TERMINATE, Es_TERMINATE, Fc_TERMINATE, Fv_TERMINATE, V_TERMINATE, O_TERMINATED, E_TERMINATED, Fs_TERMINATED, Es_TERMINATED, Fc_TERMINATED, Fv_TERMINATED, V_TERMINATED, O_VALUES, E_VALUES, V_VALUES⟩ := id gl
  have hx := Bd.exec
  have hby := Bd.bytes
  have hml : c.maxLocals = 0 := hml0
  have hown : s.vm.findClass "com/example/dagsverke/dagsverke/job/WorkerState" = some m.cls := findClass_of_methodNamed Bd.named
  have hnm := (name_of_methodNamed Bd.named Bd.method).1
  have X0 : Stand p l e ({ frames := 1, cells := 1, slots := 4, locals := 14 } : Room) s m #[] below meth c s₁ [] 0 0 := Stand.of_body Bd
  have e0 : s₁.heap = h0 := by rw [← hh, Bd.state]; rfl
  have N0 := Fr.nil n0
  have pre0 : ∀ t, Steps p.tables e below (s₁.setTop (mkF m 0 #[] [])) t → Steps p.tables e below (s₁.setTop (entryFrame m #[] 0)) t := fun t k => castTop (own_efrm_values m) k
  obtain ⟨T1, X1, e1, st1⟩ := getS2 X0 hx hZ hown (host := "") (Or.inl (hw _ (List.mem_of_getElem? (i := 39) rfl))) Via.refl e0 (O_VALUES.ext X00.2) (g := (mkF m 0 #[] [])) rfl (hb hby own_d_prog_13_method_1_0)
  obtain ⟨T2, h2, X2, e2, E2, Vc2, A2, st2⟩ := cloneH X1 hx hZ hown (hw _ (List.mem_of_getElem? (i := 41) rfl)) (hw _ (List.mem_of_getElem? (i := 42) rfl)) (hw _ (List.mem_of_getElem? (i := 46) rfl)) (hw _ (List.mem_of_getElem? (i := 44) rfl)) (hw _ (List.mem_of_getElem? (i := 45) rfl)) (hw _ (List.mem_of_getElem? (i := 47) rfl)) e1 (Arv.arh (V_VALUES.ext X00.2)) (E_VALUES.ext X00.2) (g := (mkF m 3 #[] [(.ref k_VALUES)])) rfl (by rw [hml]; rfl) rfl (hb hby own_d_prog_13_method_1_3) (by decide) (W := 0) (cap := 4) (by show 2 * 0 + _ ≤ _; exact Nat.le_of_eq rfl) (by decide) (by decide) (by decide) (by decide)
  obtain ⟨b2, g2⟩ : ∃ z, z = h0.size := ⟨_, rfl⟩
  rw [← g2] at Vc2 A2 st2
  have Kp3 : Keep h0 h2 [] := (Keep.refl h0 []).ext E2
  have Vh4 : Arv Z h2 b2 kv_VALUES (.object "com/example/dagsverke/dagsverke/job/WorkerState") (4 : Int32) [(.ref k_RUNNING), (.ref k_QUIET), (.ref k_TERMINATE), (.ref k_TERMINATED)] .null := Vc2
  obtain ⟨T5, X5, e5, st5⟩ := castY X2 hx hZ hown (hw _ (List.mem_of_getElem? (i := 52) rfl)) e2 (Ins.self A2) (g := (mkF m 6 #[] [(.ref b2)])) rfl rfl (hb hby own_d_prog_13_method_1_6)
  obtain ⟨fs, hr, hrun, hended, hW, hsame⟩ := X5.leave (v := some (.ref b2)) (fun h => by rw [Bd.returns] at h; cases h)
  refine ⟨_, _, pre0 _ ?_, hrun, hended, _, _, rfl, ?_, ⟨_, rfl⟩, hW, hsame.mono (by decide) (by decide)⟩
  · show Steps p.tables e below (s₁.setTop (mkF m 0 #[] [])) _
    refine st1 _ ?_
    show Steps p.tables e below (T1.setTop (mkF m 3 #[] [(.ref k_VALUES)])) _
    refine st2 _ ?_
    show Steps p.tables e below (T2.setTop (mkF m 6 #[] [(.ref b2)])) _
    refine st5 _ ?_
    show Steps p.tables e below (T5.setTop (mkF m 9 #[] [(.ref b2)])) _
    jvm_step X5.here [X5.here.top, hx, (hb hby own_d_prog_13_method_1_9), X5.method', Bd.returns, Value.isRef, FieldType.isReference]
    first | (intro acts; rw [hr _ acts rfl rfl rfl]) | rw [hr _ _ rfl rfl rfl]
    exact Steps.refl _
  · show own_Qrm_values Z G1 k_RUNNING s_RUNNING t_RUNNING kb_RUNNING k_QUIET s_QUIET t_QUIET kb_QUIET k_TERMINATE s_TERMINATE t_TERMINATE kb_TERMINATE k_TERMINATED s_TERMINATED t_TERMINATED kb_TERMINATED k_VALUES kv_VALUES  h0 n0 _ T5.heap _
    rw [e5]
    exact ⟨b2, rfl, N0, Kp3, (Nat.le_trans (Keep.refl h0 []).1 (Nat.le_of_eq g2.symm)), Vh4, A2⟩
theorem own_d_prog_13_method_4_0 : decode prog_13_method_4_code 0 = .ok (.aload_n 0, 1) := by decide +kernel
theorem own_d_prog_13_method_4_1 : decode prog_13_method_4_code 1 = .ok (.getfield 35, 3) := by decide +kernel
theorem own_d_prog_13_method_4_4 : decode prog_13_method_4_code 4 = .ok (.areturn, 1) := by decide +kernel
def own_Qrm_wn (Z : State) (G1 : Int32) (k_RUNNING : Addr) (s_RUNNING : Addr) (t_RUNNING : Addr) (kb_RUNNING : ClassId) (k_QUIET : Addr) (s_QUIET : Addr) (t_QUIET : Addr) (kb_QUIET : ClassId) (k_TERMINATE : Addr) (s_TERMINATE : Addr) (t_TERMINATE : Addr) (kb_TERMINATE : ClassId) (k_TERMINATED : Addr) (s_TERMINATED : Addr) (t_TERMINATED : Addr) (kb_TERMINATED : ClassId) (k_VALUES : Addr) (kv_VALUES : ClassId) (a1 : Addr) (o2 : Addr) (h0 : Heap) (n0 : Nat) (v : Option Value) (h : Heap) (L : List Loc) : Prop := (v = some (.ref o2)) ∧ (Fr n0 L) ∧ (h = h0)
theorem own_efrm_wn (m : MethodId) (a1 : Addr) : entryFrame m #[(.ref a1)] 1 = mkF m 0 #[.val (.ref a1)] [] := by first | (simp [entryFrame, mkF, argsToLocals, Value.category]; done) | rfl
set_option maxRecDepth 65536 in
set_option maxHeartbeats 40000000 in
theorem own_rm_wn (l : Launch) (Z : State) (a0 : Array Value) (hw : ∀ d ∈ tables_1, d.before a0 Z = true) (ws : List Jvm.Cond) (G1 : Int32) (k_RUNNING : Addr) (s_RUNNING : Addr) (t_RUNNING : Addr) (kb_RUNNING : ClassId) (k_QUIET : Addr) (s_QUIET : Addr) (t_QUIET : Addr) (kb_QUIET : ClassId) (k_TERMINATE : Addr) (s_TERMINATE : Addr) (t_TERMINATE : Addr) (kb_TERMINATE : ClassId) (k_TERMINATED : Addr) (s_TERMINATED : Addr) (t_TERMINATED : Addr) (kb_TERMINATED : ClassId) (k_VALUES : Addr) (kv_VALUES : ClassId) (gl : own_Glob Z G1 k_RUNNING s_RUNNING t_RUNNING kb_RUNNING k_QUIET s_QUIET t_QUIET kb_QUIET k_TERMINATE s_TERMINATE t_TERMINATE kb_TERMINATE k_TERMINATED s_TERMINATED t_TERMINATED kb_TERMINATED k_VALUES kv_VALUES) (a1 : Addr) (o2 : Addr) (h0 : Heap) (n0 : Nat) (Z0 : n0 ≤ h0.size) (P1 : Fld Z h0 a1 "com/example/dagsverke/dagsverke/job/WorkerState" "wireName" "Ljava/lang/String;" (.ref o2)) :
    MetFree l (⟨"com/example/dagsverke/dagsverke/job/WorkerState", "wireName", "()Ljava/lang/String;"⟩ : MethodName) (head1 (Jvm.Cond.code (⟨"com/example/dagsverke/dagsverke/job/WorkerState", "wireName", "()Ljava/lang/String;"⟩ : MethodName) prog_13_method_4_code 1 (some (.object "java/lang/String")) :: ws) ({ frames := 0, cells := 0, slots := 0, locals := 0 } : Room)) (fun a U => a = #[(.ref a1)] ∧ Z.Warmed39 U.vm ∧ U.heap = h0) (fun _ _ _ _ _ => True) (fun _ U o U' => ∃ v L, o = .returned v ∧ own_Qrm_wn Z G1 k_RUNNING s_RUNNING t_RUNNING kb_RUNNING k_QUIET s_QUIET t_QUIET kb_QUIET k_TERMINATE s_TERMINATE t_TERMINATE kb_TERMINATE k_TERMINATED s_TERMINATED t_TERMINATED kb_TERMINATED k_VALUES kv_VALUES a1 o2 h0 n0 v U'.heap L ∧ FrameEnd U o U' L ({ frames := 0, cells := 0, slots := 0, locals := 0 } : Room).cells ({ frames := 0, cells := 0, slots := 0, locals := 0 } : Room).slots) := by
  refine MetFree.of_bodySF (plainFor_of_name own_pn0) hisR ?_
  intro p e s m args below meth c s₁ Bd hml0 hP hK
  obtain ⟨rfl, hZ, hh⟩ := hP
  obtain ⟨O_CS, P_CS, O_RUNNING, E_RUNNING, Fs_RUNNING, Es_RUNNING, Fc_RUNNING, Fv_RUNNING, V_RUNNING, O_QUIET, E_QUIET, Fs_QUIET, Es_QUIET, Fc_QUIET, Fv_QUIET, V_QUIET, O_TERMINATE, E_TERMINATE, Fs_TERMINATE, Es_TERMINATE, Fc_TERMINATE, Fv_TERMINATE, V_TERMINATE, O_TERMINATED, E_TERMINATED, Fs_TERMINATED, Es_TERMINATED, Fc_TERMINATED, Fv_TERMINATED, V_TERMINATED, O_VALUES, E_VALUES, V_VALUES⟩ := id gl
  have hx := Bd.exec
  have hby := Bd.bytes
  have hml : c.maxLocals = 1 := hml0
  have hown : s.vm.findClass "com/example/dagsverke/dagsverke/job/WorkerState" = some m.cls := findClass_of_methodNamed Bd.named
  have hnm := (name_of_methodNamed Bd.named Bd.method).1
  have X0 : Stand p l e ({ frames := 0, cells := 0, slots := 0, locals := 0 } : Room) s m #[(.ref a1)] below meth c s₁ [] 0 0 := Stand.of_body Bd
  have e0 : s₁.heap = h0 := by rw [← hh, Bd.state]; rfl
  have N0 := Fr.nil n0
  have pre0 : ∀ t, Steps p.tables e below (s₁.setTop (mkF m 0 #[.val (.ref a1)] [])) t → Steps p.tables e below (s₁.setTop (entryFrame m #[(.ref a1)] 1)) t := fun t k => castTop (own_efrm_wn m a1) k
  obtain ⟨T1, X1, e1, st1⟩ := getF X0 hx hZ hown (host := "") (Or.inl (hw _ (List.mem_of_getElem? (i := 54) rfl))) Via.refl e0 P1 (g := (mkF m 1 #[.val (.ref a1)] [(.ref a1)])) rfl rfl (hb hby own_d_prog_13_method_4_1)
  obtain ⟨fs, hr, hrun, hended, hW, hsame⟩ := X1.leave (v := some (.ref o2)) (fun h => by rw [Bd.returns] at h; cases h)
  refine ⟨_, _, pre0 _ ?_, hrun, hended, _, _, rfl, ?_, ⟨_, rfl⟩, hW, hsame.mono (by decide) (by decide)⟩
  · show Steps p.tables e below (s₁.setTop (mkF m 0 #[.val (.ref a1)] [])) _
    refine XS.aloadN X0.here hx rfl (hb hby own_d_prog_13_method_4_0) rfl rfl ?_
    show Steps p.tables e below (s₁.setTop (mkF m 1 #[.val (.ref a1)] [(.ref a1)])) _
    refine st1 _ ?_
    show Steps p.tables e below (T1.setTop (mkF m 4 #[.val (.ref a1)] [(.ref o2)])) _
    jvm_step X1.here [X1.here.top, hx, (hb hby own_d_prog_13_method_4_4), X1.method', Bd.returns, Value.isRef, FieldType.isReference]
    first | (intro acts; rw [hr _ acts rfl rfl rfl]) | rw [hr _ _ rfl rfl rfl]
    exact Steps.refl _
  · show own_Qrm_wn Z G1 k_RUNNING s_RUNNING t_RUNNING kb_RUNNING k_QUIET s_QUIET t_QUIET kb_QUIET k_TERMINATE s_TERMINATE t_TERMINATE kb_TERMINATE k_TERMINATED s_TERMINATED t_TERMINATED kb_TERMINATED k_VALUES kv_VALUES a1 o2 h0 n0 _ T1.heap _
    rw [e1]
    exact ⟨rfl, N0, rfl⟩
theorem own_d_prog_13_method_5_0 : decode prog_13_method_5_code 0 = .ok (.invokestatic 39, 3) := by decide +kernel
theorem own_pd1 : parseMethodDescriptor "()[Lcom/example/dagsverke/dagsverke/job/WorkerState;" = some ⟨[], some (.array (.object "com/example/dagsverke/dagsverke/job/WorkerState"))⟩ := by decide +kernel
theorem own_d_prog_13_method_5_3 : decode prog_13_method_5_code 3 = .ok (.astore_n 1, 1) := by decide +kernel
theorem own_d_prog_13_method_5_4 : decode prog_13_method_5_code 4 = .ok (.aload_n 1, 1) := by decide +kernel
theorem own_d_prog_13_method_5_5 : decode prog_13_method_5_code 5 = .ok (.arraylength, 1) := by decide +kernel
theorem own_d_prog_13_method_5_6 : decode prog_13_method_5_code 6 = .ok (.istore_n 2, 1) := by decide +kernel
theorem own_d_prog_13_method_5_7 : decode prog_13_method_5_code 7 = .ok (.iconst 0, 1) := by decide +kernel
theorem own_d_prog_13_method_5_8 : decode prog_13_method_5_code 8 = .ok (.istore_n 3, 1) := by decide +kernel
theorem own_d_prog_13_method_5_9 : decode prog_13_method_5_code 9 = .ok (.iload_n 3, 1) := by decide +kernel
theorem own_d_prog_13_method_5_10 : decode prog_13_method_5_code 10 = .ok (.iload_n 2, 1) := by decide +kernel
theorem own_d_prog_13_method_5_11 : decode prog_13_method_5_code 11 = .ok (.if_icmp .ge 29, 3) := by decide +kernel
theorem own_d_prog_13_method_5_14 : decode prog_13_method_5_code 14 = .ok (.aload_n 1, 1) := by decide +kernel
theorem own_d_prog_13_method_5_15 : decode prog_13_method_5_code 15 = .ok (.iload_n 3, 1) := by decide +kernel
theorem own_d_prog_13_method_5_16 : decode prog_13_method_5_code 16 = .ok (.aaload, 1) := by decide +kernel
theorem own_d_prog_13_method_5_17 : decode prog_13_method_5_code 17 = .ok (.astore 4, 2) := by decide +kernel
theorem own_d_prog_13_method_5_19 : decode prog_13_method_5_code 19 = .ok (.aload 4, 2) := by decide +kernel
theorem own_d_prog_13_method_5_21 : decode prog_13_method_5_code 21 = .ok (.getfield 35, 3) := by decide +kernel
theorem own_d_prog_13_method_5_24 : decode prog_13_method_5_code 24 = .ok (.aload_n 0, 1) := by decide +kernel
theorem own_d_prog_13_method_5_25 : decode prog_13_method_5_code 25 = .ok (.invokevirtual 43, 3) := by decide +kernel
theorem own_pd2 : parseMethodDescriptor "(Ljava/lang/Object;)Z" = some ⟨[(.object "java/lang/Object")], some .boolean⟩ := by decide +kernel
theorem own_d_prog_13_method_5_28 : decode prog_13_method_5_code 28 = .ok (.ifCond .eq 6, 3) := by decide +kernel
theorem own_d_prog_13_method_5_31 : decode prog_13_method_5_code 31 = .ok (.aload 4, 2) := by decide +kernel
theorem own_d_prog_13_method_5_33 : decode prog_13_method_5_code 33 = .ok (.areturn, 1) := by decide +kernel
def own_Qrm_from_RUNNING (Z : State) (G1 : Int32) (k_RUNNING : Addr) (s_RUNNING : Addr) (t_RUNNING : Addr) (kb_RUNNING : ClassId) (k_QUIET : Addr) (s_QUIET : Addr) (t_QUIET : Addr) (kb_QUIET : ClassId) (k_TERMINATE : Addr) (s_TERMINATE : Addr) (t_TERMINATE : Addr) (kb_TERMINATE : ClassId) (k_TERMINATED : Addr) (s_TERMINATED : Addr) (t_TERMINATED : Addr) (kb_TERMINATED : ClassId) (k_VALUES : Addr) (kv_VALUES : ClassId) (a1 : Addr) (t2 : Addr) (kb3 : ClassId) (h0 : Heap) (n0 : Nat) (v : Option Value) (h : Heap) (L : List Loc) : Prop := (v = some (.ref k_RUNNING)) ∧ (Fr n0 L) ∧ (Keep h0 h [])
theorem own_efrm_from_RUNNING (m : MethodId) (a1 : Addr) : entryFrame m #[(.ref a1)] 5 = mkF m 0 #[.val (.ref a1), .unset, .unset, .unset, .unset] [] := by first | (simp [entryFrame, mkF, argsToLocals, Value.category]; done) | rfl
set_option maxRecDepth 65536 in
set_option maxHeartbeats 40000000 in
theorem own_rm_from_RUNNING (l : Launch) (Z : State) (a0 : Array Value) (hw : ∀ d ∈ tables_1, d.before a0 Z = true) (ws : List Jvm.Cond) (G1 : Int32) (k_RUNNING : Addr) (s_RUNNING : Addr) (t_RUNNING : Addr) (kb_RUNNING : ClassId) (k_QUIET : Addr) (s_QUIET : Addr) (t_QUIET : Addr) (kb_QUIET : ClassId) (k_TERMINATE : Addr) (s_TERMINATE : Addr) (t_TERMINATE : Addr) (kb_TERMINATE : ClassId) (k_TERMINATED : Addr) (s_TERMINATED : Addr) (t_TERMINATED : Addr) (kb_TERMINATED : ClassId) (k_VALUES : Addr) (kv_VALUES : ClassId) (gl : own_Glob Z G1 k_RUNNING s_RUNNING t_RUNNING kb_RUNNING k_QUIET s_QUIET t_QUIET kb_QUIET k_TERMINATE s_TERMINATE t_TERMINATE kb_TERMINATE k_TERMINATED s_TERMINATED t_TERMINATED kb_TERMINATED k_VALUES kv_VALUES) (a1 : Addr) (t2 : Addr) (kb3 : ClassId) (h0 : Heap) (n0 : Nat) (Z0 : n0 ≤ h0.size) (X00 : Old Z n0 h0) (P1 : Exa Z h0 a1 "java/lang/String") (P2 : Fld Z h0 a1 "java/lang/String" "value" "[B" (.ref t2)) (P3 : Fld Z h0 a1 "java/lang/String" "coder" "B" (.int (0 : Int32))) (P4 : Arv Z h0 t2 kb3 .byte (7 : Int32) ((([(114 : Int32), (117 : Int32), (110 : Int32), (110 : Int32), (105 : Int32), (110 : Int32), (103 : Int32)] : List Int32).map (fun c => c.toInt8.toInt32)).map Value.int) (.int (0 : Int32))) :
    MetFree l (⟨"com/example/dagsverke/dagsverke/job/WorkerState", "fromWireName", "(Ljava/lang/String;)Lcom/example/dagsverke/dagsverke/job/WorkerState;"⟩ : MethodName) (head1 (Jvm.Cond.code (⟨"com/example/dagsverke/dagsverke/job/WorkerState", "fromWireName", "(Ljava/lang/String;)Lcom/example/dagsverke/dagsverke/job/WorkerState;"⟩ : MethodName) prog_13_method_5_code 5 (some (.object "com/example/dagsverke/dagsverke/job/WorkerState")) :: ws) ({ frames := 2, cells := 1, slots := 4, locals := 28 } : Room)) (fun a U => a = #[(.ref a1)] ∧ Z.Warmed39 U.vm ∧ U.heap = h0) (fun _ _ _ _ _ => True) (fun _ U o U' => ∃ v L, o = .returned v ∧ own_Qrm_from_RUNNING Z G1 k_RUNNING s_RUNNING t_RUNNING kb_RUNNING k_QUIET s_QUIET t_QUIET kb_QUIET k_TERMINATE s_TERMINATE t_TERMINATE kb_TERMINATE k_TERMINATED s_TERMINATED t_TERMINATED kb_TERMINATED k_VALUES kv_VALUES a1 t2 kb3 h0 n0 v U'.heap L ∧ FrameEnd U o U' L ({ frames := 2, cells := 1, slots := 4, locals := 28 } : Room).cells ({ frames := 2, cells := 1, slots := 4, locals := 28 } : Room).slots) := by
  refine MetFree.of_bodySF (plainFor_of_name own_pn0) hisR ?_
  intro p e s m args below meth c s₁ Bd hml0 hP hK
  obtain ⟨rfl, hZ, hh⟩ := hP
  obtain ⟨O_CS, P_CS, O_RUNNING, E_RUNNING, Fs_RUNNING, Es_RUNNING, Fc_RUNNING, Fv_RUNNING, V_RUNNING, O_QUIET, E_QUIET, Fs_QUIET, Es_QUIET, Fc_QUIET, Fv_QUIET, V_QUIET, O_TERMINATE, E_TERMINATE, Fs_TERMINATE, Es_TERMINATE, Fc_TERMINATE, Fv_TERMINATE, V_TERMINATE, O_TERMINATED, E_TERMINATED, Fs_TERMINATED, Es_TERMINATED, Fc_TERMINATED, Fv_TERMINATED, V_TERMINATED, O_VALUES, E_VALUES, V_VALUES⟩ := id gl
  have hx := Bd.exec
  have hby := Bd.bytes
  have hml : c.maxLocals = 5 := hml0
  have hown : s.vm.findClass "com/example/dagsverke/dagsverke/job/WorkerState" = some m.cls := findClass_of_methodNamed Bd.named
  have hnm := (name_of_methodNamed Bd.named Bd.method).1
  have X0 : Stand p l e ({ frames := 2, cells := 1, slots := 4, locals := 28 } : Room) s m #[(.ref a1)] below meth c s₁ [] 0 0 := Stand.of_body Bd
  have e0 : s₁.heap = h0 := by rw [← hh, Bd.state]; rfl
  have N0 := Fr.nil n0
  have pre0 : ∀ t, Steps p.tables e below (s₁.setTop (mkF m 0 #[.val (.ref a1), .unset, .unset, .unset, .unset] [])) t → Steps p.tables e below (s₁.setTop (entryFrame m #[(.ref a1)] 5)) t := fun t k => castTop (own_efrm_from_RUNNING m a1) k
  obtain ⟨_, _, ⟨T1, L1, k1, n1⟩, -, X1, ⟨Lc1, hQ1, l1, y1, z1⟩, st1⟩ := Jvm.LawKit.callS X0 hx (y := (⟨"com/example/dagsverke/dagsverke/job/WorkerState", "values", "()[Lcom/example/dagsverke/dagsverke/job/WorkerState;"⟩ : MethodName)) hown (mvT hZ (hw _ (List.mem_of_getElem? (i := 36) rfl))) (mvT hZ (hw _ (List.mem_of_getElem? (i := 37) rfl))) (mvT hZ (hw _ (List.mem_of_getElem? (i := 2) rfl))) (mvT hZ (hw _ (List.mem_of_getElem? (i := 38) rfl))) (by decide) (backOf (W := 0) (own_rm_values l Z a0 hw [] G1 k_RUNNING s_RUNNING t_RUNNING kb_RUNNING k_QUIET s_QUIET t_QUIET kb_QUIET k_TERMINATE s_TERMINATE t_TERMINATE kb_TERMINATE k_TERMINATED s_TERMINATED t_TERMINATED kb_TERMINATED k_VALUES kv_VALUES gl  h0 n0 Z0 X00 ) hZ (hw _ (List.mem_of_getElem? (i := 38) rfl)) (hw _ (List.mem_of_getElem? (i := 2) rfl)) (by decide) (by decide)) (g := (mkF m 0 #[.val (.ref a1), .unset, .unset, .unset, .unset] [])) rfl (by rw [hml]; rfl) (argsL := []) (rest := []) (lenOf own_pd1 rfl) rfl (by show 2 * 0 + _ ≤ _; exact Nat.le_of_eq rfl) (hb hby own_d_prog_13_method_5_0) (fun _ _ => ⟨rfl, e0, (by decide : 0 + 1 ≤ _), (by decide : 0 + 4 ≤ _)⟩)
  dsimp only [Pt.U, Pt.locs, Pt.cells, Pt.slots] at X1 l1 y1 z1 st1 hQ1
  subst y1 z1
  obtain ⟨b2_1, rfl, Nq1, Kq1, f1_0, f1_1, f1_2⟩ := hQ1
  have N1 : Fr n0 L1 := by rw [l1]; exact Fr.app N0 Nq1
  have Kp2 : Keep h0 T1.heap [] := (Keep.refl h0 []).trans Kq1 all0
  obtain ⟨cl3, Ar3, -, Sz3, Ng3, -, -⟩ := id f1_1
  obtain ⟨cl4, Ar4, qc4, Sz4, Ng4, Hs4, Gs4⟩ := id f1_1
  have hin4 : ¬ ((0 : Int32) < 0 ∨ cl4.slots.size ≤ ((0 : Int32)).toNatClampNeg) := inb_of Sz4 ⟨(by decide), (by decide)⟩
  have hat4 : cl4.slots[((0 : Int32)).toNatClampNeg]? = some (.ref k_RUNNING) := Has.at Hs4 hin4 rfl
  have Old5 : Old Z n0 T1.heap := X00.keep Kq1 all0
  obtain ⟨T6, X6, e6, st6⟩ := getF X1 hx hZ hown (host := "") (Or.inl (hw _ (List.mem_of_getElem? (i := 54) rfl))) Via.refl rfl (Fs_RUNNING.ext Old5.2) (g := (mkF m 21 #[.val (.ref a1), .val (.ref b2_1), .val (.int (4 : Int32)), .val (.int (0 : Int32)), .val (.ref k_RUNNING)] [(.ref k_RUNNING)])) rfl rfl (hb hby own_d_prog_13_method_5_21)
  have hph7 : ∀ c ∈ ([(114 : Int32), (117 : Int32), (110 : Int32), (110 : Int32), (105 : Int32), (110 : Int32), (103 : Int32)] : List Int32), ¬ c < 0 ∧ ¬ (255 : Int32) < c := (own_cS (by decide) (own_cS (by decide) (own_cS (by decide) (own_cS (by decide) (own_cS (by decide) (own_cS (by decide) (own_cS (by decide) own_c0)))))))
  have cdh8 : StrChars.Road.CodA ([(114 : Int32), (117 : Int32), (110 : Int32), (110 : Int32), (105 : Int32), (110 : Int32), (103 : Int32)] : List Int32) 0 (7 : Int32) ((([(114 : Int32), (117 : Int32), (110 : Int32), (110 : Int32), (105 : Int32), (110 : Int32), (103 : Int32)] : List Int32).map (fun c => c.toInt8.toInt32)).map Value.int) := (StrChars.Road.codOf (cs := ([(114 : Int32), (117 : Int32), (110 : Int32), (110 : Int32), (105 : Int32), (110 : Int32), (103 : Int32)] : List Int32)) (n := 7) rfl (fun c hc => (hph7 c hc).2))
  have hws_wordsEq : ∀ d ∈ StrChars.Road.wordsEq, d.before a0 Z = true := fun d hd => hw d (own_hws_wordsEq d hd)
  have Eh9 : Exa Z T1.heap a1 "java/lang/String" := (P1.keep Kq1)
  have Fh10 : Fld Z T1.heap a1 "java/lang/String" "value" "[B" (.ref t2) := (P2.keep Kq1 nin0)
  have Fh11 : Fld Z T1.heap a1 "java/lang/String" "coder" "B" (.int (0 : Int32)) := (P3.keep Kq1 nin0)
  have Vh12 : Arv Z T1.heap t2 kb3 .byte (7 : Int32) ((([(114 : Int32), (117 : Int32), (110 : Int32), (110 : Int32), (105 : Int32), (110 : Int32), (103 : Int32)] : List Int32).map (fun c => c.toInt8.toInt32)).map Value.int) (.int (0 : Int32)) := (P4.keep Kq1 nin0)
  have cdh13 : StrChars.Road.CodA ([(114 : Int32), (117 : Int32), (110 : Int32), (110 : Int32), (105 : Int32), (110 : Int32), (103 : Int32)] : List Int32) 0 (7 : Int32) ((([(114 : Int32), (117 : Int32), (110 : Int32), (110 : Int32), (105 : Int32), (110 : Int32), (103 : Int32)] : List Int32).map (fun c => c.toInt8.toInt32)).map Value.int) := (StrChars.Road.codOf (cs := ([(114 : Int32), (117 : Int32), (110 : Int32), (110 : Int32), (105 : Int32), (110 : Int32), (103 : Int32)] : List Int32)) (n := 7) rfl (fun c hc => (hph7 c hc).2))
  obtain ⟨cq14, kq14, q14a, q14b, q14c⟩ := isOf hZ e6 (Es_RUNNING.ext Old5.2)
  obtain ⟨_, _, ⟨T14, L14, k14, n14⟩, -, X14, ⟨Lc14, hQ14, l14, y14, z14⟩, st14⟩ := X6.virtualBack hx (y := (⟨"java/lang/String", "equals", "(Ljava/lang/Object;)Z"⟩ : MethodName)) (z := (⟨"java/lang/String", "equals", "(Ljava/lang/Object;)Z"⟩ : MethodName)) hown (mvT hZ (hw _ (List.mem_of_getElem? (i := 56) rfl))) (mvT hZ (hw _ (List.mem_of_getElem? (i := 57) rfl))) (notFace_of_selects (args := #[]) (mvT hZ (hw _ (List.mem_of_getElem? (i := 59) rfl)))) (mvT hZ (hw _ (List.mem_of_getElem? (i := 59) rfl))) (mvT hZ (hw _ (List.mem_of_getElem? (i := 58) rfl))) (by decide) (StrChars.Road.eqW (W := 0) hZ hws_wordsEq (kI := 4) (hw _ (List.mem_of_getElem? (i := 5) rfl)) (Es_RUNNING.ext Old5.2) (Fv_RUNNING.ext Old5.2) (Fc_RUNNING.ext Old5.2) (V_RUNNING.ext Old5.2) cdh8 (own_up _ hph7) (Nat.le_of_ble_eq_true rfl) Eh9 Fh10 Fh11 Vh12 cdh13 (own_up _ hph7) (Nat.le_of_ble_eq_true rfl) (O_CS.ext Old5.2) P_CS (by decide) (by decide)) q14a q14c (g := (mkF m 25 #[.val (.ref a1), .val (.ref b2_1), .val (.int (4 : Int32)), .val (.int (0 : Int32)), .val (.ref k_RUNNING)] [(.ref a1), (.ref s_RUNNING)])) rfl (by rw [hml]; rfl) (Steps.refl _) (argsL := [(.ref a1)]) (rest := []) (lenOf own_pd2 rfl) rfl (by show 2 * 0 + _ ≤ _; exact Nat.le_of_eq rfl) (hb hby own_d_prog_13_method_5_25) (fun _ _ => ⟨rfl, e6, (by decide : 1 + 0 ≤ _), (by decide : 4 + 0 ≤ _)⟩)
  dsimp only [Pt.U, Pt.locs, Pt.cells, Pt.slots] at X14 l14 y14 z14 st14 hQ14
  subst y14 z14
  obtain ⟨hcase, rfl, e14⟩ := hQ14
  have hv14 : _ = some (Value.int 1) := hcase.elim (fun q => q.1) (fun q => absurd (rfl : ([(114 : Int32), (117 : Int32), (110 : Int32), (110 : Int32), (105 : Int32), (110 : Int32), (103 : Int32)] : List Int32) = ([(114 : Int32), (117 : Int32), (110 : Int32), (110 : Int32), (105 : Int32), (110 : Int32), (103 : Int32)] : List Int32)) q.2)
  subst hv14
  have N14 : Fr n0 L14 := by rw [l14]; exact Fr.app N1 (Fr.nil n0)
  obtain ⟨fs, hr, hrun, hended, hW, hsame⟩ := X14.leave (v := some (.ref k_RUNNING)) (fun h => by rw [Bd.returns] at h; cases h)
  refine ⟨_, _, pre0 _ ?_, hrun, hended, _, _, rfl, ?_, ⟨_, rfl⟩, hW, hsame.mono (by decide) (by decide)⟩
  · show Steps p.tables e below (s₁.setTop (mkF m 0 #[.val (.ref a1), .unset, .unset, .unset, .unset] [])) _
    refine st1 _ ?_
    show Steps p.tables e below (T1.setTop (mkF m 3 #[.val (.ref a1), .unset, .unset, .unset, .unset] [(.ref b2_1)])) _
    refine XS.astoreN X1.here hx rfl (hb hby own_d_prog_13_method_5_3) rfl rfl (l' := #[.val (.ref a1), .val (.ref b2_1), .unset, .unset, .unset]) rfl ?_
    show Steps p.tables e below (T1.setTop (mkF m 4 #[.val (.ref a1), .val (.ref b2_1), .unset, .unset, .unset] [])) _
    refine XS.aloadN X1.here hx rfl (hb hby own_d_prog_13_method_5_4) rfl rfl ?_
    show Steps p.tables e below (T1.setTop (mkF m 5 #[.val (.ref a1), .val (.ref b2_1), .unset, .unset, .unset] [(.ref b2_1)])) _
    refine X1.arraylength hx Ar3.1 (State.isArrayOf_alike hZ.alike Ar3.2.1) (g := (mkF m 5 #[.val (.ref a1), .val (.ref b2_1), .unset, .unset, .unset] [(.ref b2_1)])) rfl rfl (hb hby own_d_prog_13_method_5_5) _ ?_
    rw [len_of Sz3 Ng3]
    show Steps p.tables e below (T1.setTop (mkF m 6 #[.val (.ref a1), .val (.ref b2_1), .unset, .unset, .unset] [(.int (4 : Int32))])) _
    refine XS.istoreN X1.here hx rfl (hb hby own_d_prog_13_method_5_6) rfl (l' := #[.val (.ref a1), .val (.ref b2_1), .val (.int (4 : Int32)), .unset, .unset]) rfl ?_
    show Steps p.tables e below (T1.setTop (mkF m 7 #[.val (.ref a1), .val (.ref b2_1), .val (.int (4 : Int32)), .unset, .unset] [])) _
    refine XS.iconst X1.here hx rfl (hb hby own_d_prog_13_method_5_7) ?_
    show Steps p.tables e below (T1.setTop (mkF m 8 #[.val (.ref a1), .val (.ref b2_1), .val (.int (4 : Int32)), .unset, .unset] [(.int (0 : Int32))])) _
    refine XS.istoreN X1.here hx rfl (hb hby own_d_prog_13_method_5_8) rfl (l' := #[.val (.ref a1), .val (.ref b2_1), .val (.int (4 : Int32)), .val (.int (0 : Int32)), .unset]) rfl ?_
    show Steps p.tables e below (T1.setTop (mkF m 9 #[.val (.ref a1), .val (.ref b2_1), .val (.int (4 : Int32)), .val (.int (0 : Int32)), .unset] [])) _
    refine XS.iloadN X1.here hx rfl (hb hby own_d_prog_13_method_5_9) rfl ?_
    show Steps p.tables e below (T1.setTop (mkF m 10 #[.val (.ref a1), .val (.ref b2_1), .val (.int (4 : Int32)), .val (.int (0 : Int32)), .unset] [(.int (0 : Int32))])) _
    refine XS.iloadN X1.here hx rfl (hb hby own_d_prog_13_method_5_10) rfl ?_
    show Steps p.tables e below (T1.setTop (mkF m 11 #[.val (.ref a1), .val (.ref b2_1), .val (.int (4 : Int32)), .val (.int (0 : Int32)), .unset] [(.int (4 : Int32)), (.int (0 : Int32))])) _
    refine XS.icmpNo X1.here hx rfl (hb hby own_d_prog_13_method_5_11) rfl (tlt (by decide : (0 : Int32) < (4 : Int32))).2.1 ?_
    show Steps p.tables e below (T1.setTop (mkF m 14 #[.val (.ref a1), .val (.ref b2_1), .val (.int (4 : Int32)), .val (.int (0 : Int32)), .unset] [])) _
    refine XS.aloadN X1.here hx rfl (hb hby own_d_prog_13_method_5_14) rfl rfl ?_
    show Steps p.tables e below (T1.setTop (mkF m 15 #[.val (.ref a1), .val (.ref b2_1), .val (.int (4 : Int32)), .val (.int (0 : Int32)), .unset] [(.ref b2_1)])) _
    refine XS.iloadN X1.here hx rfl (hb hby own_d_prog_13_method_5_15) rfl ?_
    show Steps p.tables e below (T1.setTop (mkF m 16 #[.val (.ref a1), .val (.ref b2_1), .val (.int (4 : Int32)), .val (.int (0 : Int32)), .unset] [(.int (0 : Int32)), (.ref b2_1)])) _
    refine X1.aaload hx (j := (0 : Int32)) (v := (.ref k_RUNNING)) Ar4.1 (State.isArrayOf_alike hZ.alike Ar4.2.1) rfl Ar4.2.2 hin4 hat4 (g := (mkF m 16 #[.val (.ref a1), .val (.ref b2_1), .val (.int (4 : Int32)), .val (.int (0 : Int32)), .unset] [(.int (0 : Int32)), (.ref b2_1)])) rfl rfl (hb hby own_d_prog_13_method_5_16) _ ?_
    show Steps p.tables e below (T1.setTop (mkF m 17 #[.val (.ref a1), .val (.ref b2_1), .val (.int (4 : Int32)), .val (.int (0 : Int32)), .unset] [(.ref k_RUNNING)])) _
    refine XS.astore X1.here hx rfl (hb hby own_d_prog_13_method_5_17) rfl rfl (l' := #[.val (.ref a1), .val (.ref b2_1), .val (.int (4 : Int32)), .val (.int (0 : Int32)), .val (.ref k_RUNNING)]) rfl ?_
    show Steps p.tables e below (T1.setTop (mkF m 19 #[.val (.ref a1), .val (.ref b2_1), .val (.int (4 : Int32)), .val (.int (0 : Int32)), .val (.ref k_RUNNING)] [])) _
    refine XS.aload X1.here hx rfl (hb hby own_d_prog_13_method_5_19) rfl rfl ?_
    show Steps p.tables e below (T1.setTop (mkF m 21 #[.val (.ref a1), .val (.ref b2_1), .val (.int (4 : Int32)), .val (.int (0 : Int32)), .val (.ref k_RUNNING)] [(.ref k_RUNNING)])) _
    refine st6 _ ?_
    show Steps p.tables e below (T6.setTop (mkF m 24 #[.val (.ref a1), .val (.ref b2_1), .val (.int (4 : Int32)), .val (.int (0 : Int32)), .val (.ref k_RUNNING)] [(.ref s_RUNNING)])) _
    refine XS.aloadN X6.here hx rfl (hb hby own_d_prog_13_method_5_24) rfl rfl ?_
    show Steps p.tables e below (T6.setTop (mkF m 25 #[.val (.ref a1), .val (.ref b2_1), .val (.int (4 : Int32)), .val (.int (0 : Int32)), .val (.ref k_RUNNING)] [(.ref a1), (.ref s_RUNNING)])) _
    refine st14.trans ?_
    show Steps p.tables e below (T14.setTop (mkF m 28 #[.val (.ref a1), .val (.ref b2_1), .val (.int (4 : Int32)), .val (.int (0 : Int32)), .val (.ref k_RUNNING)] [(.int (1 : Int32))])) _
    refine XS.ifNo X14.here hx rfl (hb hby own_d_prog_13_method_5_28) rfl ((if0 _ _).trans (feq (by decide : ¬ ((1 : Int32) = (0 : Int32)))).1) ?_
    show Steps p.tables e below (T14.setTop (mkF m 31 #[.val (.ref a1), .val (.ref b2_1), .val (.int (4 : Int32)), .val (.int (0 : Int32)), .val (.ref k_RUNNING)] [])) _
    refine XS.aload X14.here hx rfl (hb hby own_d_prog_13_method_5_31) rfl rfl ?_
    show Steps p.tables e below (T14.setTop (mkF m 33 #[.val (.ref a1), .val (.ref b2_1), .val (.int (4 : Int32)), .val (.int (0 : Int32)), .val (.ref k_RUNNING)] [(.ref k_RUNNING)])) _
    jvm_step X14.here [X14.here.top, hx, (hb hby own_d_prog_13_method_5_33), X14.method', Bd.returns, Value.isRef, FieldType.isReference]
    first | (intro acts; rw [hr _ acts rfl rfl rfl]) | rw [hr _ _ rfl rfl rfl]
    exact Steps.refl _
  · show own_Qrm_from_RUNNING Z G1 k_RUNNING s_RUNNING t_RUNNING kb_RUNNING k_QUIET s_QUIET t_QUIET kb_QUIET k_TERMINATE s_TERMINATE t_TERMINATE kb_TERMINATE k_TERMINATED s_TERMINATED t_TERMINATED kb_TERMINATED k_VALUES kv_VALUES a1 t2 kb3 h0 n0 _ T14.heap _
    rw [e14]
    exact ⟨rfl, N14, Kp2⟩
theorem own_d_prog_13_method_5_34 : decode prog_13_method_5_code 34 = .ok (.iinc 3 1, 3) := by decide +kernel
theorem own_d_prog_13_method_5_37 : decode prog_13_method_5_code 37 = .ok (.goto (-28), 3) := by decide +kernel
def own_Qrm_from_QUIET (Z : State) (G1 : Int32) (k_RUNNING : Addr) (s_RUNNING : Addr) (t_RUNNING : Addr) (kb_RUNNING : ClassId) (k_QUIET : Addr) (s_QUIET : Addr) (t_QUIET : Addr) (kb_QUIET : ClassId) (k_TERMINATE : Addr) (s_TERMINATE : Addr) (t_TERMINATE : Addr) (kb_TERMINATE : ClassId) (k_TERMINATED : Addr) (s_TERMINATED : Addr) (t_TERMINATED : Addr) (kb_TERMINATED : ClassId) (k_VALUES : Addr) (kv_VALUES : ClassId) (a1 : Addr) (t2 : Addr) (kb3 : ClassId) (h0 : Heap) (n0 : Nat) (v : Option Value) (h : Heap) (L : List Loc) : Prop := (v = some (.ref k_QUIET)) ∧ (Fr n0 L) ∧ (Keep h0 h [])
theorem own_efrm_from_QUIET (m : MethodId) (a1 : Addr) : entryFrame m #[(.ref a1)] 5 = mkF m 0 #[.val (.ref a1), .unset, .unset, .unset, .unset] [] := by first | (simp [entryFrame, mkF, argsToLocals, Value.category]; done) | rfl
set_option maxRecDepth 65536 in
set_option maxHeartbeats 40000000 in
theorem own_rm_from_QUIET (l : Launch) (Z : State) (a0 : Array Value) (hw : ∀ d ∈ tables_1, d.before a0 Z = true) (ws : List Jvm.Cond) (G1 : Int32) (k_RUNNING : Addr) (s_RUNNING : Addr) (t_RUNNING : Addr) (kb_RUNNING : ClassId) (k_QUIET : Addr) (s_QUIET : Addr) (t_QUIET : Addr) (kb_QUIET : ClassId) (k_TERMINATE : Addr) (s_TERMINATE : Addr) (t_TERMINATE : Addr) (kb_TERMINATE : ClassId) (k_TERMINATED : Addr) (s_TERMINATED : Addr) (t_TERMINATED : Addr) (kb_TERMINATED : ClassId) (k_VALUES : Addr) (kv_VALUES : ClassId) (gl : own_Glob Z G1 k_RUNNING s_RUNNING t_RUNNING kb_RUNNING k_QUIET s_QUIET t_QUIET kb_QUIET k_TERMINATE s_TERMINATE t_TERMINATE kb_TERMINATE k_TERMINATED s_TERMINATED t_TERMINATED kb_TERMINATED k_VALUES kv_VALUES) (a1 : Addr) (t2 : Addr) (kb3 : ClassId) (h0 : Heap) (n0 : Nat) (Z0 : n0 ≤ h0.size) (X00 : Old Z n0 h0) (P1 : Exa Z h0 a1 "java/lang/String") (P2 : Fld Z h0 a1 "java/lang/String" "value" "[B" (.ref t2)) (P3 : Fld Z h0 a1 "java/lang/String" "coder" "B" (.int (0 : Int32))) (P4 : Arv Z h0 t2 kb3 .byte (5 : Int32) ((([(113 : Int32), (117 : Int32), (105 : Int32), (101 : Int32), (116 : Int32)] : List Int32).map (fun c => c.toInt8.toInt32)).map Value.int) (.int (0 : Int32))) :
    MetFree l (⟨"com/example/dagsverke/dagsverke/job/WorkerState", "fromWireName", "(Ljava/lang/String;)Lcom/example/dagsverke/dagsverke/job/WorkerState;"⟩ : MethodName) (head1 (Jvm.Cond.code (⟨"com/example/dagsverke/dagsverke/job/WorkerState", "fromWireName", "(Ljava/lang/String;)Lcom/example/dagsverke/dagsverke/job/WorkerState;"⟩ : MethodName) prog_13_method_5_code 5 (some (.object "com/example/dagsverke/dagsverke/job/WorkerState")) :: ws) ({ frames := 2, cells := 1, slots := 4, locals := 28 } : Room)) (fun a U => a = #[(.ref a1)] ∧ Z.Warmed39 U.vm ∧ U.heap = h0) (fun _ _ _ _ _ => True) (fun _ U o U' => ∃ v L, o = .returned v ∧ own_Qrm_from_QUIET Z G1 k_RUNNING s_RUNNING t_RUNNING kb_RUNNING k_QUIET s_QUIET t_QUIET kb_QUIET k_TERMINATE s_TERMINATE t_TERMINATE kb_TERMINATE k_TERMINATED s_TERMINATED t_TERMINATED kb_TERMINATED k_VALUES kv_VALUES a1 t2 kb3 h0 n0 v U'.heap L ∧ FrameEnd U o U' L ({ frames := 2, cells := 1, slots := 4, locals := 28 } : Room).cells ({ frames := 2, cells := 1, slots := 4, locals := 28 } : Room).slots) := by
  refine MetFree.of_bodySF (plainFor_of_name own_pn0) hisR ?_
  intro p e s m args below meth c s₁ Bd hml0 hP hK
  obtain ⟨rfl, hZ, hh⟩ := hP
  obtain ⟨O_CS, P_CS, O_RUNNING, E_RUNNING, Fs_RUNNING, Es_RUNNING, Fc_RUNNING, Fv_RUNNING, V_RUNNING, O_QUIET, E_QUIET, Fs_QUIET, Es_QUIET, Fc_QUIET, Fv_QUIET, V_QUIET, O_TERMINATE, E_TERMINATE, Fs_TERMINATE, Es_TERMINATE, Fc_TERMINATE, Fv_TERMINATE, V_TERMINATE, O_TERMINATED, E_TERMINATED, Fs_TERMINATED, Es_TERMINATED, Fc_TERMINATED, Fv_TERMINATED, V_TERMINATED, O_VALUES, E_VALUES, V_VALUES⟩ := id gl
  have hx := Bd.exec
  have hby := Bd.bytes
  have hml : c.maxLocals = 5 := hml0
  have hown : s.vm.findClass "com/example/dagsverke/dagsverke/job/WorkerState" = some m.cls := findClass_of_methodNamed Bd.named
  have hnm := (name_of_methodNamed Bd.named Bd.method).1
  have X0 : Stand p l e ({ frames := 2, cells := 1, slots := 4, locals := 28 } : Room) s m #[(.ref a1)] below meth c s₁ [] 0 0 := Stand.of_body Bd
  have e0 : s₁.heap = h0 := by rw [← hh, Bd.state]; rfl
  have N0 := Fr.nil n0
  have pre0 : ∀ t, Steps p.tables e below (s₁.setTop (mkF m 0 #[.val (.ref a1), .unset, .unset, .unset, .unset] [])) t → Steps p.tables e below (s₁.setTop (entryFrame m #[(.ref a1)] 5)) t := fun t k => castTop (own_efrm_from_QUIET m a1) k
  obtain ⟨_, _, ⟨T1, L1, k1, n1⟩, -, X1, ⟨Lc1, hQ1, l1, y1, z1⟩, st1⟩ := Jvm.LawKit.callS X0 hx (y := (⟨"com/example/dagsverke/dagsverke/job/WorkerState", "values", "()[Lcom/example/dagsverke/dagsverke/job/WorkerState;"⟩ : MethodName)) hown (mvT hZ (hw _ (List.mem_of_getElem? (i := 36) rfl))) (mvT hZ (hw _ (List.mem_of_getElem? (i := 37) rfl))) (mvT hZ (hw _ (List.mem_of_getElem? (i := 2) rfl))) (mvT hZ (hw _ (List.mem_of_getElem? (i := 38) rfl))) (by decide) (backOf (W := 0) (own_rm_values l Z a0 hw [] G1 k_RUNNING s_RUNNING t_RUNNING kb_RUNNING k_QUIET s_QUIET t_QUIET kb_QUIET k_TERMINATE s_TERMINATE t_TERMINATE kb_TERMINATE k_TERMINATED s_TERMINATED t_TERMINATED kb_TERMINATED k_VALUES kv_VALUES gl  h0 n0 Z0 X00 ) hZ (hw _ (List.mem_of_getElem? (i := 38) rfl)) (hw _ (List.mem_of_getElem? (i := 2) rfl)) (by decide) (by decide)) (g := (mkF m 0 #[.val (.ref a1), .unset, .unset, .unset, .unset] [])) rfl (by rw [hml]; rfl) (argsL := []) (rest := []) (lenOf own_pd1 rfl) rfl (by show 2 * 0 + _ ≤ _; exact Nat.le_of_eq rfl) (hb hby own_d_prog_13_method_5_0) (fun _ _ => ⟨rfl, e0, (by decide : 0 + 1 ≤ _), (by decide : 0 + 4 ≤ _)⟩)
  dsimp only [Pt.U, Pt.locs, Pt.cells, Pt.slots] at X1 l1 y1 z1 st1 hQ1
  subst y1 z1
  obtain ⟨b2_1, rfl, Nq1, Kq1, f1_0, f1_1, f1_2⟩ := hQ1
  have N1 : Fr n0 L1 := by rw [l1]; exact Fr.app N0 Nq1
  have Kp2 : Keep h0 T1.heap [] := (Keep.refl h0 []).trans Kq1 all0
  obtain ⟨cl3, Ar3, -, Sz3, Ng3, -, -⟩ := id f1_1
  obtain ⟨cl4, Ar4, qc4, Sz4, Ng4, Hs4, Gs4⟩ := id f1_1
  have hin4 : ¬ ((0 : Int32) < 0 ∨ cl4.slots.size ≤ ((0 : Int32)).toNatClampNeg) := inb_of Sz4 ⟨(by decide), (by decide)⟩
  have hat4 : cl4.slots[((0 : Int32)).toNatClampNeg]? = some (.ref k_RUNNING) := Has.at Hs4 hin4 rfl
  have Old5 : Old Z n0 T1.heap := X00.keep Kq1 all0
  obtain ⟨T6, X6, e6, st6⟩ := getF X1 hx hZ hown (host := "") (Or.inl (hw _ (List.mem_of_getElem? (i := 54) rfl))) Via.refl rfl (Fs_RUNNING.ext Old5.2) (g := (mkF m 21 #[.val (.ref a1), .val (.ref b2_1), .val (.int (4 : Int32)), .val (.int (0 : Int32)), .val (.ref k_RUNNING)] [(.ref k_RUNNING)])) rfl rfl (hb hby own_d_prog_13_method_5_21)
  have hph7 : ∀ c ∈ ([(114 : Int32), (117 : Int32), (110 : Int32), (110 : Int32), (105 : Int32), (110 : Int32), (103 : Int32)] : List Int32), ¬ c < 0 ∧ ¬ (255 : Int32) < c := (own_cS (by decide) (own_cS (by decide) (own_cS (by decide) (own_cS (by decide) (own_cS (by decide) (own_cS (by decide) (own_cS (by decide) own_c0)))))))
  have cdh8 : StrChars.Road.CodA ([(114 : Int32), (117 : Int32), (110 : Int32), (110 : Int32), (105 : Int32), (110 : Int32), (103 : Int32)] : List Int32) 0 (7 : Int32) ((([(114 : Int32), (117 : Int32), (110 : Int32), (110 : Int32), (105 : Int32), (110 : Int32), (103 : Int32)] : List Int32).map (fun c => c.toInt8.toInt32)).map Value.int) := (StrChars.Road.codOf (cs := ([(114 : Int32), (117 : Int32), (110 : Int32), (110 : Int32), (105 : Int32), (110 : Int32), (103 : Int32)] : List Int32)) (n := 7) rfl (fun c hc => (hph7 c hc).2))
  have hws_wordsEq : ∀ d ∈ StrChars.Road.wordsEq, d.before a0 Z = true := fun d hd => hw d (own_hws_wordsEq d hd)
  have Eh9 : Exa Z T1.heap a1 "java/lang/String" := (P1.keep Kq1)
  have Fh10 : Fld Z T1.heap a1 "java/lang/String" "value" "[B" (.ref t2) := (P2.keep Kq1 nin0)
  have Fh11 : Fld Z T1.heap a1 "java/lang/String" "coder" "B" (.int (0 : Int32)) := (P3.keep Kq1 nin0)
  have Vh12 : Arv Z T1.heap t2 kb3 .byte (5 : Int32) ((([(113 : Int32), (117 : Int32), (105 : Int32), (101 : Int32), (116 : Int32)] : List Int32).map (fun c => c.toInt8.toInt32)).map Value.int) (.int (0 : Int32)) := (P4.keep Kq1 nin0)
  have hph13 : ∀ c ∈ ([(113 : Int32), (117 : Int32), (105 : Int32), (101 : Int32), (116 : Int32)] : List Int32), ¬ c < 0 ∧ ¬ (255 : Int32) < c := (own_cS (by decide) (own_cS (by decide) (own_cS (by decide) (own_cS (by decide) (own_cS (by decide) own_c0)))))
  have cdh14 : StrChars.Road.CodA ([(113 : Int32), (117 : Int32), (105 : Int32), (101 : Int32), (116 : Int32)] : List Int32) 0 (5 : Int32) ((([(113 : Int32), (117 : Int32), (105 : Int32), (101 : Int32), (116 : Int32)] : List Int32).map (fun c => c.toInt8.toInt32)).map Value.int) := (StrChars.Road.codOf (cs := ([(113 : Int32), (117 : Int32), (105 : Int32), (101 : Int32), (116 : Int32)] : List Int32)) (n := 5) rfl (fun c hc => (hph13 c hc).2))
  obtain ⟨cq15, kq15, q15a, q15b, q15c⟩ := isOf hZ e6 (Es_RUNNING.ext Old5.2)
  obtain ⟨_, _, ⟨T15, L15, k15, n15⟩, -, X15, ⟨Lc15, hQ15, l15, y15, z15⟩, st15⟩ := X6.virtualBack hx (y := (⟨"java/lang/String", "equals", "(Ljava/lang/Object;)Z"⟩ : MethodName)) (z := (⟨"java/lang/String", "equals", "(Ljava/lang/Object;)Z"⟩ : MethodName)) hown (mvT hZ (hw _ (List.mem_of_getElem? (i := 56) rfl))) (mvT hZ (hw _ (List.mem_of_getElem? (i := 57) rfl))) (notFace_of_selects (args := #[]) (mvT hZ (hw _ (List.mem_of_getElem? (i := 59) rfl)))) (mvT hZ (hw _ (List.mem_of_getElem? (i := 59) rfl))) (mvT hZ (hw _ (List.mem_of_getElem? (i := 58) rfl))) (by decide) (StrChars.Road.eqW (W := 0) hZ hws_wordsEq (kI := 4) (hw _ (List.mem_of_getElem? (i := 5) rfl)) (Es_RUNNING.ext Old5.2) (Fv_RUNNING.ext Old5.2) (Fc_RUNNING.ext Old5.2) (V_RUNNING.ext Old5.2) cdh8 (own_up _ hph7) (Nat.le_of_ble_eq_true rfl) Eh9 Fh10 Fh11 Vh12 cdh14 (own_up _ hph13) (Nat.le_of_ble_eq_true rfl) (O_CS.ext Old5.2) P_CS (by decide) (by decide)) q15a q15c (g := (mkF m 25 #[.val (.ref a1), .val (.ref b2_1), .val (.int (4 : Int32)), .val (.int (0 : Int32)), .val (.ref k_RUNNING)] [(.ref a1), (.ref s_RUNNING)])) rfl (by rw [hml]; rfl) (Steps.refl _) (argsL := [(.ref a1)]) (rest := []) (lenOf own_pd2 rfl) rfl (by show 2 * 0 + _ ≤ _; exact Nat.le_of_eq rfl) (hb hby own_d_prog_13_method_5_25) (fun _ _ => ⟨rfl, e6, (by decide : 1 + 0 ≤ _), (by decide : 4 + 0 ≤ _)⟩)
  dsimp only [Pt.U, Pt.locs, Pt.cells, Pt.slots] at X15 l15 y15 z15 st15 hQ15
  subst y15 z15
  obtain ⟨hcase, rfl, e15⟩ := hQ15
  have hv15 : _ = some (Value.int 0) := hcase.elim (fun q => absurd q.2 ((fun q => absurd (congrArg List.length q) (by decide)) : ¬ (([(114 : Int32), (117 : Int32), (110 : Int32), (110 : Int32), (105 : Int32), (110 : Int32), (103 : Int32)] : List Int32) = ([(113 : Int32), (117 : Int32), (105 : Int32), (101 : Int32), (116 : Int32)] : List Int32)))) (fun q => q.1)
  subst hv15
  have N15 : Fr n0 L15 := by rw [l15]; exact Fr.app N1 (Fr.nil n0)
  obtain ⟨cl16, Ar16, qc16, Sz16, Ng16, Hs16, Gs16⟩ := id f1_1
  have hin16 : ¬ ((1 : Int32) < 0 ∨ cl16.slots.size ≤ ((1 : Int32)).toNatClampNeg) := inb_of Sz16 ⟨(by decide), (by decide)⟩
  have hat16 : cl16.slots[((1 : Int32)).toNatClampNeg]? = some (.ref k_QUIET) := Has.at Hs16 hin16 rfl
  obtain ⟨T17, X17, e17, st17⟩ := getF X15 hx hZ hown (host := "") (Or.inl (hw _ (List.mem_of_getElem? (i := 54) rfl))) Via.refl e15 (Fs_QUIET.ext Old5.2) (g := (mkF m 21 #[.val (.ref a1), .val (.ref b2_1), .val (.int (4 : Int32)), .val (.int (1 : Int32)), .val (.ref k_QUIET)] [(.ref k_QUIET)])) rfl rfl (hb hby own_d_prog_13_method_5_21)
  have cdh18 : StrChars.Road.CodA ([(113 : Int32), (117 : Int32), (105 : Int32), (101 : Int32), (116 : Int32)] : List Int32) 0 (5 : Int32) ((([(113 : Int32), (117 : Int32), (105 : Int32), (101 : Int32), (116 : Int32)] : List Int32).map (fun c => c.toInt8.toInt32)).map Value.int) := (StrChars.Road.codOf (cs := ([(113 : Int32), (117 : Int32), (105 : Int32), (101 : Int32), (116 : Int32)] : List Int32)) (n := 5) rfl (fun c hc => (hph13 c hc).2))
  have cdh19 : StrChars.Road.CodA ([(113 : Int32), (117 : Int32), (105 : Int32), (101 : Int32), (116 : Int32)] : List Int32) 0 (5 : Int32) ((([(113 : Int32), (117 : Int32), (105 : Int32), (101 : Int32), (116 : Int32)] : List Int32).map (fun c => c.toInt8.toInt32)).map Value.int) := (StrChars.Road.codOf (cs := ([(113 : Int32), (117 : Int32), (105 : Int32), (101 : Int32), (116 : Int32)] : List Int32)) (n := 5) rfl (fun c hc => (hph13 c hc).2))
  obtain ⟨cq20, kq20, q20a, q20b, q20c⟩ := isOf hZ e17 (Es_QUIET.ext Old5.2)
  obtain ⟨_, _, ⟨T20, L20, k20, n20⟩, -, X20, ⟨Lc20, hQ20, l20, y20, z20⟩, st20⟩ := X17.virtualBack hx (y := (⟨"java/lang/String", "equals", "(Ljava/lang/Object;)Z"⟩ : MethodName)) (z := (⟨"java/lang/String", "equals", "(Ljava/lang/Object;)Z"⟩ : MethodName)) hown (mvT hZ (hw _ (List.mem_of_getElem? (i := 56) rfl))) (mvT hZ (hw _ (List.mem_of_getElem? (i := 57) rfl))) (notFace_of_selects (args := #[]) (mvT hZ (hw _ (List.mem_of_getElem? (i := 59) rfl)))) (mvT hZ (hw _ (List.mem_of_getElem? (i := 59) rfl))) (mvT hZ (hw _ (List.mem_of_getElem? (i := 58) rfl))) (by decide) (StrChars.Road.eqW (W := 0) hZ hws_wordsEq (kI := 4) (hw _ (List.mem_of_getElem? (i := 5) rfl)) (Es_QUIET.ext Old5.2) (Fv_QUIET.ext Old5.2) (Fc_QUIET.ext Old5.2) (V_QUIET.ext Old5.2) cdh18 (own_up _ hph13) (Nat.le_of_ble_eq_true rfl) Eh9 Fh10 Fh11 Vh12 cdh19 (own_up _ hph13) (Nat.le_of_ble_eq_true rfl) (O_CS.ext Old5.2) P_CS (by decide) (by decide)) q20a q20c (g := (mkF m 25 #[.val (.ref a1), .val (.ref b2_1), .val (.int (4 : Int32)), .val (.int (1 : Int32)), .val (.ref k_QUIET)] [(.ref a1), (.ref s_QUIET)])) rfl (by rw [hml]; rfl) (Steps.refl _) (argsL := [(.ref a1)]) (rest := []) (lenOf own_pd2 rfl) rfl (by show 2 * 0 + _ ≤ _; exact Nat.le_of_eq rfl) (hb hby own_d_prog_13_method_5_25) (fun _ _ => ⟨rfl, e17, (by decide : 1 + 0 ≤ _), (by decide : 4 + 0 ≤ _)⟩)
  dsimp only [Pt.U, Pt.locs, Pt.cells, Pt.slots] at X20 l20 y20 z20 st20 hQ20
  subst y20 z20
  obtain ⟨hcase, rfl, e20⟩ := hQ20
  have hv20 : _ = some (Value.int 1) := hcase.elim (fun q => q.1) (fun q => absurd (rfl : ([(113 : Int32), (117 : Int32), (105 : Int32), (101 : Int32), (116 : Int32)] : List Int32) = ([(113 : Int32), (117 : Int32), (105 : Int32), (101 : Int32), (116 : Int32)] : List Int32)) q.2)
  subst hv20
  have N20 : Fr n0 L20 := by rw [l20]; exact Fr.app N15 (Fr.nil n0)
  obtain ⟨fs, hr, hrun, hended, hW, hsame⟩ := X20.leave (v := some (.ref k_QUIET)) (fun h => by rw [Bd.returns] at h; cases h)
  refine ⟨_, _, pre0 _ ?_, hrun, hended, _, _, rfl, ?_, ⟨_, rfl⟩, hW, hsame.mono (by decide) (by decide)⟩
  · show Steps p.tables e below (s₁.setTop (mkF m 0 #[.val (.ref a1), .unset, .unset, .unset, .unset] [])) _
    refine st1 _ ?_
    show Steps p.tables e below (T1.setTop (mkF m 3 #[.val (.ref a1), .unset, .unset, .unset, .unset] [(.ref b2_1)])) _
    refine XS.astoreN X1.here hx rfl (hb hby own_d_prog_13_method_5_3) rfl rfl (l' := #[.val (.ref a1), .val (.ref b2_1), .unset, .unset, .unset]) rfl ?_
    show Steps p.tables e below (T1.setTop (mkF m 4 #[.val (.ref a1), .val (.ref b2_1), .unset, .unset, .unset] [])) _
    refine XS.aloadN X1.here hx rfl (hb hby own_d_prog_13_method_5_4) rfl rfl ?_
    show Steps p.tables e below (T1.setTop (mkF m 5 #[.val (.ref a1), .val (.ref b2_1), .unset, .unset, .unset] [(.ref b2_1)])) _
    refine X1.arraylength hx Ar3.1 (State.isArrayOf_alike hZ.alike Ar3.2.1) (g := (mkF m 5 #[.val (.ref a1), .val (.ref b2_1), .unset, .unset, .unset] [(.ref b2_1)])) rfl rfl (hb hby own_d_prog_13_method_5_5) _ ?_
    rw [len_of Sz3 Ng3]
    show Steps p.tables e below (T1.setTop (mkF m 6 #[.val (.ref a1), .val (.ref b2_1), .unset, .unset, .unset] [(.int (4 : Int32))])) _
    refine XS.istoreN X1.here hx rfl (hb hby own_d_prog_13_method_5_6) rfl (l' := #[.val (.ref a1), .val (.ref b2_1), .val (.int (4 : Int32)), .unset, .unset]) rfl ?_
    show Steps p.tables e below (T1.setTop (mkF m 7 #[.val (.ref a1), .val (.ref b2_1), .val (.int (4 : Int32)), .unset, .unset] [])) _
    refine XS.iconst X1.here hx rfl (hb hby own_d_prog_13_method_5_7) ?_
    show Steps p.tables e below (T1.setTop (mkF m 8 #[.val (.ref a1), .val (.ref b2_1), .val (.int (4 : Int32)), .unset, .unset] [(.int (0 : Int32))])) _
    refine XS.istoreN X1.here hx rfl (hb hby own_d_prog_13_method_5_8) rfl (l' := #[.val (.ref a1), .val (.ref b2_1), .val (.int (4 : Int32)), .val (.int (0 : Int32)), .unset]) rfl ?_
    show Steps p.tables e below (T1.setTop (mkF m 9 #[.val (.ref a1), .val (.ref b2_1), .val (.int (4 : Int32)), .val (.int (0 : Int32)), .unset] [])) _
    refine XS.iloadN X1.here hx rfl (hb hby own_d_prog_13_method_5_9) rfl ?_
    show Steps p.tables e below (T1.setTop (mkF m 10 #[.val (.ref a1), .val (.ref b2_1), .val (.int (4 : Int32)), .val (.int (0 : Int32)), .unset] [(.int (0 : Int32))])) _
    refine XS.iloadN X1.here hx rfl (hb hby own_d_prog_13_method_5_10) rfl ?_
    show Steps p.tables e below (T1.setTop (mkF m 11 #[.val (.ref a1), .val (.ref b2_1), .val (.int (4 : Int32)), .val (.int (0 : Int32)), .unset] [(.int (4 : Int32)), (.int (0 : Int32))])) _
    refine XS.icmpNo X1.here hx rfl (hb hby own_d_prog_13_method_5_11) rfl (tlt (by decide : (0 : Int32) < (4 : Int32))).2.1 ?_
    show Steps p.tables e below (T1.setTop (mkF m 14 #[.val (.ref a1), .val (.ref b2_1), .val (.int (4 : Int32)), .val (.int (0 : Int32)), .unset] [])) _
    refine XS.aloadN X1.here hx rfl (hb hby own_d_prog_13_method_5_14) rfl rfl ?_
    show Steps p.tables e below (T1.setTop (mkF m 15 #[.val (.ref a1), .val (.ref b2_1), .val (.int (4 : Int32)), .val (.int (0 : Int32)), .unset] [(.ref b2_1)])) _
    refine XS.iloadN X1.here hx rfl (hb hby own_d_prog_13_method_5_15) rfl ?_
    show Steps p.tables e below (T1.setTop (mkF m 16 #[.val (.ref a1), .val (.ref b2_1), .val (.int (4 : Int32)), .val (.int (0 : Int32)), .unset] [(.int (0 : Int32)), (.ref b2_1)])) _
    refine X1.aaload hx (j := (0 : Int32)) (v := (.ref k_RUNNING)) Ar4.1 (State.isArrayOf_alike hZ.alike Ar4.2.1) rfl Ar4.2.2 hin4 hat4 (g := (mkF m 16 #[.val (.ref a1), .val (.ref b2_1), .val (.int (4 : Int32)), .val (.int (0 : Int32)), .unset] [(.int (0 : Int32)), (.ref b2_1)])) rfl rfl (hb hby own_d_prog_13_method_5_16) _ ?_
    show Steps p.tables e below (T1.setTop (mkF m 17 #[.val (.ref a1), .val (.ref b2_1), .val (.int (4 : Int32)), .val (.int (0 : Int32)), .unset] [(.ref k_RUNNING)])) _
    refine XS.astore X1.here hx rfl (hb hby own_d_prog_13_method_5_17) rfl rfl (l' := #[.val (.ref a1), .val (.ref b2_1), .val (.int (4 : Int32)), .val (.int (0 : Int32)), .val (.ref k_RUNNING)]) rfl ?_
    show Steps p.tables e below (T1.setTop (mkF m 19 #[.val (.ref a1), .val (.ref b2_1), .val (.int (4 : Int32)), .val (.int (0 : Int32)), .val (.ref k_RUNNING)] [])) _
    refine XS.aload X1.here hx rfl (hb hby own_d_prog_13_method_5_19) rfl rfl ?_
    show Steps p.tables e below (T1.setTop (mkF m 21 #[.val (.ref a1), .val (.ref b2_1), .val (.int (4 : Int32)), .val (.int (0 : Int32)), .val (.ref k_RUNNING)] [(.ref k_RUNNING)])) _
    refine st6 _ ?_
    show Steps p.tables e below (T6.setTop (mkF m 24 #[.val (.ref a1), .val (.ref b2_1), .val (.int (4 : Int32)), .val (.int (0 : Int32)), .val (.ref k_RUNNING)] [(.ref s_RUNNING)])) _
    refine XS.aloadN X6.here hx rfl (hb hby own_d_prog_13_method_5_24) rfl rfl ?_
    show Steps p.tables e below (T6.setTop (mkF m 25 #[.val (.ref a1), .val (.ref b2_1), .val (.int (4 : Int32)), .val (.int (0 : Int32)), .val (.ref k_RUNNING)] [(.ref a1), (.ref s_RUNNING)])) _
    refine st15.trans ?_
    show Steps p.tables e below (T15.setTop (mkF m 28 #[.val (.ref a1), .val (.ref b2_1), .val (.int (4 : Int32)), .val (.int (0 : Int32)), .val (.ref k_RUNNING)] [(.int (0 : Int32))])) _
    refine XS.ifYes X15.here hx rfl (pc0 := 28) (pc' := 34) rfl (hb hby own_d_prog_13_method_5_28) rfl ((if0 _ _).trans (teq (rfl : (0 : Int32) = (0 : Int32))).1) (by decide) (by decide) ?_
    show Steps p.tables e below (T15.setTop (mkF m 34 #[.val (.ref a1), .val (.ref b2_1), .val (.int (4 : Int32)), .val (.int (0 : Int32)), .val (.ref k_RUNNING)] [])) _
    refine XS.iinc X15.here hx rfl (hb hby own_d_prog_13_method_5_34) rfl (l' := #[.val (.ref a1), .val (.ref b2_1), .val (.int (4 : Int32)), .val (.int (1 : Int32)), .val (.ref k_RUNNING)]) rfl ?_
    show Steps p.tables e below (T15.setTop (mkF m 37 #[.val (.ref a1), .val (.ref b2_1), .val (.int (4 : Int32)), .val (.int (1 : Int32)), .val (.ref k_RUNNING)] [])) _
    refine XS.goto X15.here hx rfl (pc0 := 37) (pc' := 9) rfl (hb hby own_d_prog_13_method_5_37) (by decide) (by decide) ?_
    show Steps p.tables e below (T15.setTop (mkF m 9 #[.val (.ref a1), .val (.ref b2_1), .val (.int (4 : Int32)), .val (.int (1 : Int32)), .val (.ref k_RUNNING)] [])) _
    refine XS.iloadN X15.here hx rfl (hb hby own_d_prog_13_method_5_9) rfl ?_
    show Steps p.tables e below (T15.setTop (mkF m 10 #[.val (.ref a1), .val (.ref b2_1), .val (.int (4 : Int32)), .val (.int (1 : Int32)), .val (.ref k_RUNNING)] [(.int (1 : Int32))])) _
    refine XS.iloadN X15.here hx rfl (hb hby own_d_prog_13_method_5_10) rfl ?_
    show Steps p.tables e below (T15.setTop (mkF m 11 #[.val (.ref a1), .val (.ref b2_1), .val (.int (4 : Int32)), .val (.int (1 : Int32)), .val (.ref k_RUNNING)] [(.int (4 : Int32)), (.int (1 : Int32))])) _
    refine XS.icmpNo X15.here hx rfl (hb hby own_d_prog_13_method_5_11) rfl (tlt (by decide : (1 : Int32) < (4 : Int32))).2.1 ?_
    show Steps p.tables e below (T15.setTop (mkF m 14 #[.val (.ref a1), .val (.ref b2_1), .val (.int (4 : Int32)), .val (.int (1 : Int32)), .val (.ref k_RUNNING)] [])) _
    refine XS.aloadN X15.here hx rfl (hb hby own_d_prog_13_method_5_14) rfl rfl ?_
    show Steps p.tables e below (T15.setTop (mkF m 15 #[.val (.ref a1), .val (.ref b2_1), .val (.int (4 : Int32)), .val (.int (1 : Int32)), .val (.ref k_RUNNING)] [(.ref b2_1)])) _
    refine XS.iloadN X15.here hx rfl (hb hby own_d_prog_13_method_5_15) rfl ?_
    show Steps p.tables e below (T15.setTop (mkF m 16 #[.val (.ref a1), .val (.ref b2_1), .val (.int (4 : Int32)), .val (.int (1 : Int32)), .val (.ref k_RUNNING)] [(.int (1 : Int32)), (.ref b2_1)])) _
    refine X15.aaload hx (j := (1 : Int32)) (v := (.ref k_QUIET)) (by rw [e15]; exact Ar16.1) (State.isArrayOf_alike hZ.alike Ar16.2.1) rfl Ar16.2.2 hin16 hat16 (g := (mkF m 16 #[.val (.ref a1), .val (.ref b2_1), .val (.int (4 : Int32)), .val (.int (1 : Int32)), .val (.ref k_RUNNING)] [(.int (1 : Int32)), (.ref b2_1)])) rfl rfl (hb hby own_d_prog_13_method_5_16) _ ?_
    show Steps p.tables e below (T15.setTop (mkF m 17 #[.val (.ref a1), .val (.ref b2_1), .val (.int (4 : Int32)), .val (.int (1 : Int32)), .val (.ref k_RUNNING)] [(.ref k_QUIET)])) _
    refine XS.astore X15.here hx rfl (hb hby own_d_prog_13_method_5_17) rfl rfl (l' := #[.val (.ref a1), .val (.ref b2_1), .val (.int (4 : Int32)), .val (.int (1 : Int32)), .val (.ref k_QUIET)]) rfl ?_
    show Steps p.tables e below (T15.setTop (mkF m 19 #[.val (.ref a1), .val (.ref b2_1), .val (.int (4 : Int32)), .val (.int (1 : Int32)), .val (.ref k_QUIET)] [])) _
    refine XS.aload X15.here hx rfl (hb hby own_d_prog_13_method_5_19) rfl rfl ?_
    show Steps p.tables e below (T15.setTop (mkF m 21 #[.val (.ref a1), .val (.ref b2_1), .val (.int (4 : Int32)), .val (.int (1 : Int32)), .val (.ref k_QUIET)] [(.ref k_QUIET)])) _
    refine st17 _ ?_
    show Steps p.tables e below (T17.setTop (mkF m 24 #[.val (.ref a1), .val (.ref b2_1), .val (.int (4 : Int32)), .val (.int (1 : Int32)), .val (.ref k_QUIET)] [(.ref s_QUIET)])) _
    refine XS.aloadN X17.here hx rfl (hb hby own_d_prog_13_method_5_24) rfl rfl ?_
    show Steps p.tables e below (T17.setTop (mkF m 25 #[.val (.ref a1), .val (.ref b2_1), .val (.int (4 : Int32)), .val (.int (1 : Int32)), .val (.ref k_QUIET)] [(.ref a1), (.ref s_QUIET)])) _
    refine st20.trans ?_
    show Steps p.tables e below (T20.setTop (mkF m 28 #[.val (.ref a1), .val (.ref b2_1), .val (.int (4 : Int32)), .val (.int (1 : Int32)), .val (.ref k_QUIET)] [(.int (1 : Int32))])) _
    refine XS.ifNo X20.here hx rfl (hb hby own_d_prog_13_method_5_28) rfl ((if0 _ _).trans (feq (by decide : ¬ ((1 : Int32) = (0 : Int32)))).1) ?_
    show Steps p.tables e below (T20.setTop (mkF m 31 #[.val (.ref a1), .val (.ref b2_1), .val (.int (4 : Int32)), .val (.int (1 : Int32)), .val (.ref k_QUIET)] [])) _
    refine XS.aload X20.here hx rfl (hb hby own_d_prog_13_method_5_31) rfl rfl ?_
    show Steps p.tables e below (T20.setTop (mkF m 33 #[.val (.ref a1), .val (.ref b2_1), .val (.int (4 : Int32)), .val (.int (1 : Int32)), .val (.ref k_QUIET)] [(.ref k_QUIET)])) _
    jvm_step X20.here [X20.here.top, hx, (hb hby own_d_prog_13_method_5_33), X20.method', Bd.returns, Value.isRef, FieldType.isReference]
    first | (intro acts; rw [hr _ acts rfl rfl rfl]) | rw [hr _ _ rfl rfl rfl]
    exact Steps.refl _
  · show own_Qrm_from_QUIET Z G1 k_RUNNING s_RUNNING t_RUNNING kb_RUNNING k_QUIET s_QUIET t_QUIET kb_QUIET k_TERMINATE s_TERMINATE t_TERMINATE kb_TERMINATE k_TERMINATED s_TERMINATED t_TERMINATED kb_TERMINATED k_VALUES kv_VALUES a1 t2 kb3 h0 n0 _ T20.heap _
    rw [e20]
    exact ⟨rfl, N20, Kp2⟩
def own_Qrm_from_TERMINATE (Z : State) (G1 : Int32) (k_RUNNING : Addr) (s_RUNNING : Addr) (t_RUNNING : Addr) (kb_RUNNING : ClassId) (k_QUIET : Addr) (s_QUIET : Addr) (t_QUIET : Addr) (kb_QUIET : ClassId) (k_TERMINATE : Addr) (s_TERMINATE : Addr) (t_TERMINATE : Addr) (kb_TERMINATE : ClassId) (k_TERMINATED : Addr) (s_TERMINATED : Addr) (t_TERMINATED : Addr) (kb_TERMINATED : ClassId) (k_VALUES : Addr) (kv_VALUES : ClassId) (a1 : Addr) (t2 : Addr) (kb3 : ClassId) (h0 : Heap) (n0 : Nat) (v : Option Value) (h : Heap) (L : List Loc) : Prop := (v = some (.ref k_TERMINATE)) ∧ (Fr n0 L) ∧ (Keep h0 h [])
theorem own_efrm_from_TERMINATE (m : MethodId) (a1 : Addr) : entryFrame m #[(.ref a1)] 5 = mkF m 0 #[.val (.ref a1), .unset, .unset, .unset, .unset] [] := by first | (simp [entryFrame, mkF, argsToLocals, Value.category]; done) | rfl
set_option maxRecDepth 65536 in
set_option maxHeartbeats 40000000 in
theorem own_rm_from_TERMINATE (l : Launch) (Z : State) (a0 : Array Value) (hw : ∀ d ∈ tables_1, d.before a0 Z = true) (ws : List Jvm.Cond) (G1 : Int32) (k_RUNNING : Addr) (s_RUNNING : Addr) (t_RUNNING : Addr) (kb_RUNNING : ClassId) (k_QUIET : Addr) (s_QUIET : Addr) (t_QUIET : Addr) (kb_QUIET : ClassId) (k_TERMINATE : Addr) (s_TERMINATE : Addr) (t_TERMINATE : Addr) (kb_TERMINATE : ClassId) (k_TERMINATED : Addr) (s_TERMINATED : Addr) (t_TERMINATED : Addr) (kb_TERMINATED : ClassId) (k_VALUES : Addr) (kv_VALUES : ClassId) (gl : own_Glob Z G1 k_RUNNING s_RUNNING t_RUNNING kb_RUNNING k_QUIET s_QUIET t_QUIET kb_QUIET k_TERMINATE s_TERMINATE t_TERMINATE kb_TERMINATE k_TERMINATED s_TERMINATED t_TERMINATED kb_TERMINATED k_VALUES kv_VALUES) (a1 : Addr) (t2 : Addr) (kb3 : ClassId) (h0 : Heap) (n0 : Nat) (Z0 : n0 ≤ h0.size) (X00 : Old Z n0 h0) (P1 : Exa Z h0 a1 "java/lang/String") (P2 : Fld Z h0 a1 "java/lang/String" "value" "[B" (.ref t2)) (P3 : Fld Z h0 a1 "java/lang/String" "coder" "B" (.int (0 : Int32))) (P4 : Arv Z h0 t2 kb3 .byte (9 : Int32) ((([(116 : Int32), (101 : Int32), (114 : Int32), (109 : Int32), (105 : Int32), (110 : Int32), (97 : Int32), (116 : Int32), (101 : Int32)] : List Int32).map (fun c => c.toInt8.toInt32)).map Value.int) (.int (0 : Int32))) :
    MetFree l (⟨"com/example/dagsverke/dagsverke/job/WorkerState", "fromWireName", "(Ljava/lang/String;)Lcom/example/dagsverke/dagsverke/job/WorkerState;"⟩ : MethodName) (head1 (Jvm.Cond.code (⟨"com/example/dagsverke/dagsverke/job/WorkerState", "fromWireName", "(Ljava/lang/String;)Lcom/example/dagsverke/dagsverke/job/WorkerState;"⟩ : MethodName) prog_13_method_5_code 5 (some (.object "com/example/dagsverke/dagsverke/job/WorkerState")) :: ws) ({ frames := 2, cells := 1, slots := 4, locals := 28 } : Room)) (fun a U => a = #[(.ref a1)] ∧ Z.Warmed39 U.vm ∧ U.heap = h0) (fun _ _ _ _ _ => True) (fun _ U o U' => ∃ v L, o = .returned v ∧ own_Qrm_from_TERMINATE Z G1 k_RUNNING s_RUNNING t_RUNNING kb_RUNNING k_QUIET s_QUIET t_QUIET kb_QUIET k_TERMINATE s_TERMINATE t_TERMINATE kb_TERMINATE k_TERMINATED s_TERMINATED t_TERMINATED kb_TERMINATED k_VALUES kv_VALUES a1 t2 kb3 h0 n0 v U'.heap L ∧ FrameEnd U o U' L ({ frames := 2, cells := 1, slots := 4, locals := 28 } : Room).cells ({ frames := 2, cells := 1, slots := 4, locals := 28 } : Room).slots) := by
  refine MetFree.of_bodySF (plainFor_of_name own_pn0) hisR ?_
  intro p e s m args below meth c s₁ Bd hml0 hP hK
  obtain ⟨rfl, hZ, hh⟩ := hP
  obtain ⟨O_CS, P_CS, O_RUNNING, E_RUNNING, Fs_RUNNING, Es_RUNNING, Fc_RUNNING, Fv_RUNNING, V_RUNNING, O_QUIET, E_QUIET, Fs_QUIET, Es_QUIET, Fc_QUIET, Fv_QUIET, V_QUIET, O_TERMINATE, E_TERMINATE, Fs_TERMINATE, Es_TERMINATE, Fc_TERMINATE, Fv_TERMINATE, V_TERMINATE, O_TERMINATED, E_TERMINATED, Fs_TERMINATED, Es_TERMINATED, Fc_TERMINATED, Fv_TERMINATED, V_TERMINATED, O_VALUES, E_VALUES, V_VALUES⟩ := id gl
  have hx := Bd.exec
  have hby := Bd.bytes
  have hml : c.maxLocals = 5 := hml0
  have hown : s.vm.findClass "com/example/dagsverke/dagsverke/job/WorkerState" = some m.cls := findClass_of_methodNamed Bd.named
  have hnm := (name_of_methodNamed Bd.named Bd.method).1
  have X0 : Stand p l e ({ frames := 2, cells := 1, slots := 4, locals := 28 } : Room) s m #[(.ref a1)] below meth c s₁ [] 0 0 := Stand.of_body Bd
  have e0 : s₁.heap = h0 := by rw [← hh, Bd.state]; rfl
  have N0 := Fr.nil n0
  have pre0 : ∀ t, Steps p.tables e below (s₁.setTop (mkF m 0 #[.val (.ref a1), .unset, .unset, .unset, .unset] [])) t → Steps p.tables e below (s₁.setTop (entryFrame m #[(.ref a1)] 5)) t := fun t k => castTop (own_efrm_from_TERMINATE m a1) k
  obtain ⟨_, _, ⟨T1, L1, k1, n1⟩, -, X1, ⟨Lc1, hQ1, l1, y1, z1⟩, st1⟩ := Jvm.LawKit.callS X0 hx (y := (⟨"com/example/dagsverke/dagsverke/job/WorkerState", "values", "()[Lcom/example/dagsverke/dagsverke/job/WorkerState;"⟩ : MethodName)) hown (mvT hZ (hw _ (List.mem_of_getElem? (i := 36) rfl))) (mvT hZ (hw _ (List.mem_of_getElem? (i := 37) rfl))) (mvT hZ (hw _ (List.mem_of_getElem? (i := 2) rfl))) (mvT hZ (hw _ (List.mem_of_getElem? (i := 38) rfl))) (by decide) (backOf (W := 0) (own_rm_values l Z a0 hw [] G1 k_RUNNING s_RUNNING t_RUNNING kb_RUNNING k_QUIET s_QUIET t_QUIET kb_QUIET k_TERMINATE s_TERMINATE t_TERMINATE kb_TERMINATE k_TERMINATED s_TERMINATED t_TERMINATED kb_TERMINATED k_VALUES kv_VALUES gl  h0 n0 Z0 X00 ) hZ (hw _ (List.mem_of_getElem? (i := 38) rfl)) (hw _ (List.mem_of_getElem? (i := 2) rfl)) (by decide) (by decide)) (g := (mkF m 0 #[.val (.ref a1), .unset, .unset, .unset, .unset] [])) rfl (by rw [hml]; rfl) (argsL := []) (rest := []) (lenOf own_pd1 rfl) rfl (by show 2 * 0 + _ ≤ _; exact Nat.le_of_eq rfl) (hb hby own_d_prog_13_method_5_0) (fun _ _ => ⟨rfl, e0, (by decide : 0 + 1 ≤ _), (by decide : 0 + 4 ≤ _)⟩)
  dsimp only [Pt.U, Pt.locs, Pt.cells, Pt.slots] at X1 l1 y1 z1 st1 hQ1
  subst y1 z1
  obtain ⟨b2_1, rfl, Nq1, Kq1, f1_0, f1_1, f1_2⟩ := hQ1
  have N1 : Fr n0 L1 := by rw [l1]; exact Fr.app N0 Nq1
  have Kp2 : Keep h0 T1.heap [] := (Keep.refl h0 []).trans Kq1 all0
  obtain ⟨cl3, Ar3, -, Sz3, Ng3, -, -⟩ := id f1_1
  obtain ⟨cl4, Ar4, qc4, Sz4, Ng4, Hs4, Gs4⟩ := id f1_1
  have hin4 : ¬ ((0 : Int32) < 0 ∨ cl4.slots.size ≤ ((0 : Int32)).toNatClampNeg) := inb_of Sz4 ⟨(by decide), (by decide)⟩
  have hat4 : cl4.slots[((0 : Int32)).toNatClampNeg]? = some (.ref k_RUNNING) := Has.at Hs4 hin4 rfl
  have Old5 : Old Z n0 T1.heap := X00.keep Kq1 all0
  obtain ⟨T6, X6, e6, st6⟩ := getF X1 hx hZ hown (host := "") (Or.inl (hw _ (List.mem_of_getElem? (i := 54) rfl))) Via.refl rfl (Fs_RUNNING.ext Old5.2) (g := (mkF m 21 #[.val (.ref a1), .val (.ref b2_1), .val (.int (4 : Int32)), .val (.int (0 : Int32)), .val (.ref k_RUNNING)] [(.ref k_RUNNING)])) rfl rfl (hb hby own_d_prog_13_method_5_21)
  have hph7 : ∀ c ∈ ([(114 : Int32), (117 : Int32), (110 : Int32), (110 : Int32), (105 : Int32), (110 : Int32), (103 : Int32)] : List Int32), ¬ c < 0 ∧ ¬ (255 : Int32) < c := (own_cS (by decide) (own_cS (by decide) (own_cS (by decide) (own_cS (by decide) (own_cS (by decide) (own_cS (by decide) (own_cS (by decide) own_c0)))))))
  have cdh8 : StrChars.Road.CodA ([(114 : Int32), (117 : Int32), (110 : Int32), (110 : Int32), (105 : Int32), (110 : Int32), (103 : Int32)] : List Int32) 0 (7 : Int32) ((([(114 : Int32), (117 : Int32), (110 : Int32), (110 : Int32), (105 : Int32), (110 : Int32), (103 : Int32)] : List Int32).map (fun c => c.toInt8.toInt32)).map Value.int) := (StrChars.Road.codOf (cs := ([(114 : Int32), (117 : Int32), (110 : Int32), (110 : Int32), (105 : Int32), (110 : Int32), (103 : Int32)] : List Int32)) (n := 7) rfl (fun c hc => (hph7 c hc).2))
  have hws_wordsEq : ∀ d ∈ StrChars.Road.wordsEq, d.before a0 Z = true := fun d hd => hw d (own_hws_wordsEq d hd)
  have Eh9 : Exa Z T1.heap a1 "java/lang/String" := (P1.keep Kq1)
  have Fh10 : Fld Z T1.heap a1 "java/lang/String" "value" "[B" (.ref t2) := (P2.keep Kq1 nin0)
  have Fh11 : Fld Z T1.heap a1 "java/lang/String" "coder" "B" (.int (0 : Int32)) := (P3.keep Kq1 nin0)
  have Vh12 : Arv Z T1.heap t2 kb3 .byte (9 : Int32) ((([(116 : Int32), (101 : Int32), (114 : Int32), (109 : Int32), (105 : Int32), (110 : Int32), (97 : Int32), (116 : Int32), (101 : Int32)] : List Int32).map (fun c => c.toInt8.toInt32)).map Value.int) (.int (0 : Int32)) := (P4.keep Kq1 nin0)
  have hph13 : ∀ c ∈ ([(116 : Int32), (101 : Int32), (114 : Int32), (109 : Int32), (105 : Int32), (110 : Int32), (97 : Int32), (116 : Int32), (101 : Int32)] : List Int32), ¬ c < 0 ∧ ¬ (255 : Int32) < c := (own_cS (by decide) (own_cS (by decide) (own_cS (by decide) (own_cS (by decide) (own_cS (by decide) (own_cS (by decide) (own_cS (by decide) (own_cS (by decide) (own_cS (by decide) own_c0)))))))))
  have cdh14 : StrChars.Road.CodA ([(116 : Int32), (101 : Int32), (114 : Int32), (109 : Int32), (105 : Int32), (110 : Int32), (97 : Int32), (116 : Int32), (101 : Int32)] : List Int32) 0 (9 : Int32) ((([(116 : Int32), (101 : Int32), (114 : Int32), (109 : Int32), (105 : Int32), (110 : Int32), (97 : Int32), (116 : Int32), (101 : Int32)] : List Int32).map (fun c => c.toInt8.toInt32)).map Value.int) := (StrChars.Road.codOf (cs := ([(116 : Int32), (101 : Int32), (114 : Int32), (109 : Int32), (105 : Int32), (110 : Int32), (97 : Int32), (116 : Int32), (101 : Int32)] : List Int32)) (n := 9) rfl (fun c hc => (hph13 c hc).2))
  obtain ⟨cq15, kq15, q15a, q15b, q15c⟩ := isOf hZ e6 (Es_RUNNING.ext Old5.2)
  obtain ⟨_, _, ⟨T15, L15, k15, n15⟩, -, X15, ⟨Lc15, hQ15, l15, y15, z15⟩, st15⟩ := X6.virtualBack hx (y := (⟨"java/lang/String", "equals", "(Ljava/lang/Object;)Z"⟩ : MethodName)) (z := (⟨"java/lang/String", "equals", "(Ljava/lang/Object;)Z"⟩ : MethodName)) hown (mvT hZ (hw _ (List.mem_of_getElem? (i := 56) rfl))) (mvT hZ (hw _ (List.mem_of_getElem? (i := 57) rfl))) (notFace_of_selects (args := #[]) (mvT hZ (hw _ (List.mem_of_getElem? (i := 59) rfl)))) (mvT hZ (hw _ (List.mem_of_getElem? (i := 59) rfl))) (mvT hZ (hw _ (List.mem_of_getElem? (i := 58) rfl))) (by decide) (StrChars.Road.eqW (W := 0) hZ hws_wordsEq (kI := 4) (hw _ (List.mem_of_getElem? (i := 5) rfl)) (Es_RUNNING.ext Old5.2) (Fv_RUNNING.ext Old5.2) (Fc_RUNNING.ext Old5.2) (V_RUNNING.ext Old5.2) cdh8 (own_up _ hph7) (Nat.le_of_ble_eq_true rfl) Eh9 Fh10 Fh11 Vh12 cdh14 (own_up _ hph13) (Nat.le_of_ble_eq_true rfl) (O_CS.ext Old5.2) P_CS (by decide) (by decide)) q15a q15c (g := (mkF m 25 #[.val (.ref a1), .val (.ref b2_1), .val (.int (4 : Int32)), .val (.int (0 : Int32)), .val (.ref k_RUNNING)] [(.ref a1), (.ref s_RUNNING)])) rfl (by rw [hml]; rfl) (Steps.refl _) (argsL := [(.ref a1)]) (rest := []) (lenOf own_pd2 rfl) rfl (by show 2 * 0 + _ ≤ _; exact Nat.le_of_eq rfl) (hb hby own_d_prog_13_method_5_25) (fun _ _ => ⟨rfl, e6, (by decide : 1 + 0 ≤ _), (by decide : 4 + 0 ≤ _)⟩)
  dsimp only [Pt.U, Pt.locs, Pt.cells, Pt.slots] at X15 l15 y15 z15 st15 hQ15
  subst y15 z15
  obtain ⟨hcase, rfl, e15⟩ := hQ15
  have hv15 : _ = some (Value.int 0) := hcase.elim (fun q => absurd q.2 ((fun q => absurd (congrArg List.length q) (by decide)) : ¬ (([(114 : Int32), (117 : Int32), (110 : Int32), (110 : Int32), (105 : Int32), (110 : Int32), (103 : Int32)] : List Int32) = ([(116 : Int32), (101 : Int32), (114 : Int32), (109 : Int32), (105 : Int32), (110 : Int32), (97 : Int32), (116 : Int32), (101 : Int32)] : List Int32)))) (fun q => q.1)
  subst hv15
  have N15 : Fr n0 L15 := by rw [l15]; exact Fr.app N1 (Fr.nil n0)
  obtain ⟨cl16, Ar16, qc16, Sz16, Ng16, Hs16, Gs16⟩ := id f1_1
  have hin16 : ¬ ((1 : Int32) < 0 ∨ cl16.slots.size ≤ ((1 : Int32)).toNatClampNeg) := inb_of Sz16 ⟨(by decide), (by decide)⟩
  have hat16 : cl16.slots[((1 : Int32)).toNatClampNeg]? = some (.ref k_QUIET) := Has.at Hs16 hin16 rfl
  obtain ⟨T17, X17, e17, st17⟩ := getF X15 hx hZ hown (host := "") (Or.inl (hw _ (List.mem_of_getElem? (i := 54) rfl))) Via.refl e15 (Fs_QUIET.ext Old5.2) (g := (mkF m 21 #[.val (.ref a1), .val (.ref b2_1), .val (.int (4 : Int32)), .val (.int (1 : Int32)), .val (.ref k_QUIET)] [(.ref k_QUIET)])) rfl rfl (hb hby own_d_prog_13_method_5_21)
  have hph18 : ∀ c ∈ ([(113 : Int32), (117 : Int32), (105 : Int32), (101 : Int32), (116 : Int32)] : List Int32), ¬ c < 0 ∧ ¬ (255 : Int32) < c := (own_cS (by decide) (own_cS (by decide) (own_cS (by decide) (own_cS (by decide) (own_cS (by decide) own_c0)))))
  have cdh19 : StrChars.Road.CodA ([(113 : Int32), (117 : Int32), (105 : Int32), (101 : Int32), (116 : Int32)] : List Int32) 0 (5 : Int32) ((([(113 : Int32), (117 : Int32), (105 : Int32), (101 : Int32), (116 : Int32)] : List Int32).map (fun c => c.toInt8.toInt32)).map Value.int) := (StrChars.Road.codOf (cs := ([(113 : Int32), (117 : Int32), (105 : Int32), (101 : Int32), (116 : Int32)] : List Int32)) (n := 5) rfl (fun c hc => (hph18 c hc).2))
  have cdh20 : StrChars.Road.CodA ([(116 : Int32), (101 : Int32), (114 : Int32), (109 : Int32), (105 : Int32), (110 : Int32), (97 : Int32), (116 : Int32), (101 : Int32)] : List Int32) 0 (9 : Int32) ((([(116 : Int32), (101 : Int32), (114 : Int32), (109 : Int32), (105 : Int32), (110 : Int32), (97 : Int32), (116 : Int32), (101 : Int32)] : List Int32).map (fun c => c.toInt8.toInt32)).map Value.int) := (StrChars.Road.codOf (cs := ([(116 : Int32), (101 : Int32), (114 : Int32), (109 : Int32), (105 : Int32), (110 : Int32), (97 : Int32), (116 : Int32), (101 : Int32)] : List Int32)) (n := 9) rfl (fun c hc => (hph13 c hc).2))
  obtain ⟨cq21, kq21, q21a, q21b, q21c⟩ := isOf hZ e17 (Es_QUIET.ext Old5.2)
  obtain ⟨_, _, ⟨T21, L21, k21, n21⟩, -, X21, ⟨Lc21, hQ21, l21, y21, z21⟩, st21⟩ := X17.virtualBack hx (y := (⟨"java/lang/String", "equals", "(Ljava/lang/Object;)Z"⟩ : MethodName)) (z := (⟨"java/lang/String", "equals", "(Ljava/lang/Object;)Z"⟩ : MethodName)) hown (mvT hZ (hw _ (List.mem_of_getElem? (i := 56) rfl))) (mvT hZ (hw _ (List.mem_of_getElem? (i := 57) rfl))) (notFace_of_selects (args := #[]) (mvT hZ (hw _ (List.mem_of_getElem? (i := 59) rfl)))) (mvT hZ (hw _ (List.mem_of_getElem? (i := 59) rfl))) (mvT hZ (hw _ (List.mem_of_getElem? (i := 58) rfl))) (by decide) (StrChars.Road.eqW (W := 0) hZ hws_wordsEq (kI := 4) (hw _ (List.mem_of_getElem? (i := 5) rfl)) (Es_QUIET.ext Old5.2) (Fv_QUIET.ext Old5.2) (Fc_QUIET.ext Old5.2) (V_QUIET.ext Old5.2) cdh19 (own_up _ hph18) (Nat.le_of_ble_eq_true rfl) Eh9 Fh10 Fh11 Vh12 cdh20 (own_up _ hph13) (Nat.le_of_ble_eq_true rfl) (O_CS.ext Old5.2) P_CS (by decide) (by decide)) q21a q21c (g := (mkF m 25 #[.val (.ref a1), .val (.ref b2_1), .val (.int (4 : Int32)), .val (.int (1 : Int32)), .val (.ref k_QUIET)] [(.ref a1), (.ref s_QUIET)])) rfl (by rw [hml]; rfl) (Steps.refl _) (argsL := [(.ref a1)]) (rest := []) (lenOf own_pd2 rfl) rfl (by show 2 * 0 + _ ≤ _; exact Nat.le_of_eq rfl) (hb hby own_d_prog_13_method_5_25) (fun _ _ => ⟨rfl, e17, (by decide : 1 + 0 ≤ _), (by decide : 4 + 0 ≤ _)⟩)
  dsimp only [Pt.U, Pt.locs, Pt.cells, Pt.slots] at X21 l21 y21 z21 st21 hQ21
  subst y21 z21
  obtain ⟨hcase, rfl, e21⟩ := hQ21
  have hv21 : _ = some (Value.int 0) := hcase.elim (fun q => absurd q.2 ((fun q => absurd (congrArg List.length q) (by decide)) : ¬ (([(113 : Int32), (117 : Int32), (105 : Int32), (101 : Int32), (116 : Int32)] : List Int32) = ([(116 : Int32), (101 : Int32), (114 : Int32), (109 : Int32), (105 : Int32), (110 : Int32), (97 : Int32), (116 : Int32), (101 : Int32)] : List Int32)))) (fun q => q.1)
  subst hv21
  have N21 : Fr n0 L21 := by rw [l21]; exact Fr.app N15 (Fr.nil n0)
  obtain ⟨cl22, Ar22, qc22, Sz22, Ng22, Hs22, Gs22⟩ := id f1_1
  have hin22 : ¬ ((2 : Int32) < 0 ∨ cl22.slots.size ≤ ((2 : Int32)).toNatClampNeg) := inb_of Sz22 ⟨(by decide), (by decide)⟩
  have hat22 : cl22.slots[((2 : Int32)).toNatClampNeg]? = some (.ref k_TERMINATE) := Has.at Hs22 hin22 rfl
  obtain ⟨T23, X23, e23, st23⟩ := getF X21 hx hZ hown (host := "") (Or.inl (hw _ (List.mem_of_getElem? (i := 54) rfl))) Via.refl e21 (Fs_TERMINATE.ext Old5.2) (g := (mkF m 21 #[.val (.ref a1), .val (.ref b2_1), .val (.int (4 : Int32)), .val (.int (2 : Int32)), .val (.ref k_TERMINATE)] [(.ref k_TERMINATE)])) rfl rfl (hb hby own_d_prog_13_method_5_21)
  have cdh24 : StrChars.Road.CodA ([(116 : Int32), (101 : Int32), (114 : Int32), (109 : Int32), (105 : Int32), (110 : Int32), (97 : Int32), (116 : Int32), (101 : Int32)] : List Int32) 0 (9 : Int32) ((([(116 : Int32), (101 : Int32), (114 : Int32), (109 : Int32), (105 : Int32), (110 : Int32), (97 : Int32), (116 : Int32), (101 : Int32)] : List Int32).map (fun c => c.toInt8.toInt32)).map Value.int) := (StrChars.Road.codOf (cs := ([(116 : Int32), (101 : Int32), (114 : Int32), (109 : Int32), (105 : Int32), (110 : Int32), (97 : Int32), (116 : Int32), (101 : Int32)] : List Int32)) (n := 9) rfl (fun c hc => (hph13 c hc).2))
  have cdh25 : StrChars.Road.CodA ([(116 : Int32), (101 : Int32), (114 : Int32), (109 : Int32), (105 : Int32), (110 : Int32), (97 : Int32), (116 : Int32), (101 : Int32)] : List Int32) 0 (9 : Int32) ((([(116 : Int32), (101 : Int32), (114 : Int32), (109 : Int32), (105 : Int32), (110 : Int32), (97 : Int32), (116 : Int32), (101 : Int32)] : List Int32).map (fun c => c.toInt8.toInt32)).map Value.int) := (StrChars.Road.codOf (cs := ([(116 : Int32), (101 : Int32), (114 : Int32), (109 : Int32), (105 : Int32), (110 : Int32), (97 : Int32), (116 : Int32), (101 : Int32)] : List Int32)) (n := 9) rfl (fun c hc => (hph13 c hc).2))
  obtain ⟨cq26, kq26, q26a, q26b, q26c⟩ := isOf hZ e23 (Es_TERMINATE.ext Old5.2)
  obtain ⟨_, _, ⟨T26, L26, k26, n26⟩, -, X26, ⟨Lc26, hQ26, l26, y26, z26⟩, st26⟩ := X23.virtualBack hx (y := (⟨"java/lang/String", "equals", "(Ljava/lang/Object;)Z"⟩ : MethodName)) (z := (⟨"java/lang/String", "equals", "(Ljava/lang/Object;)Z"⟩ : MethodName)) hown (mvT hZ (hw _ (List.mem_of_getElem? (i := 56) rfl))) (mvT hZ (hw _ (List.mem_of_getElem? (i := 57) rfl))) (notFace_of_selects (args := #[]) (mvT hZ (hw _ (List.mem_of_getElem? (i := 59) rfl)))) (mvT hZ (hw _ (List.mem_of_getElem? (i := 59) rfl))) (mvT hZ (hw _ (List.mem_of_getElem? (i := 58) rfl))) (by decide) (StrChars.Road.eqW (W := 0) hZ hws_wordsEq (kI := 4) (hw _ (List.mem_of_getElem? (i := 5) rfl)) (Es_TERMINATE.ext Old5.2) (Fv_TERMINATE.ext Old5.2) (Fc_TERMINATE.ext Old5.2) (V_TERMINATE.ext Old5.2) cdh24 (own_up _ hph13) (Nat.le_of_ble_eq_true rfl) Eh9 Fh10 Fh11 Vh12 cdh25 (own_up _ hph13) (Nat.le_of_ble_eq_true rfl) (O_CS.ext Old5.2) P_CS (by decide) (by decide)) q26a q26c (g := (mkF m 25 #[.val (.ref a1), .val (.ref b2_1), .val (.int (4 : Int32)), .val (.int (2 : Int32)), .val (.ref k_TERMINATE)] [(.ref a1), (.ref s_TERMINATE)])) rfl (by rw [hml]; rfl) (Steps.refl _) (argsL := [(.ref a1)]) (rest := []) (lenOf own_pd2 rfl) rfl (by show 2 * 0 + _ ≤ _; exact Nat.le_of_eq rfl) (hb hby own_d_prog_13_method_5_25) (fun _ _ => ⟨rfl, e23, (by decide : 1 + 0 ≤ _), (by decide : 4 + 0 ≤ _)⟩)
  dsimp only [Pt.U, Pt.locs, Pt.cells, Pt.slots] at X26 l26 y26 z26 st26 hQ26
  subst y26 z26
  obtain ⟨hcase, rfl, e26⟩ := hQ26
  have hv26 : _ = some (Value.int 1) := hcase.elim (fun q => q.1) (fun q => absurd (rfl : ([(116 : Int32), (101 : Int32), (114 : Int32), (109 : Int32), (105 : Int32), (110 : Int32), (97 : Int32), (116 : Int32), (101 : Int32)] : List Int32) = ([(116 : Int32), (101 : Int32), (114 : Int32), (109 : Int32), (105 : Int32), (110 : Int32), (97 : Int32), (116 : Int32), (101 : Int32)] : List Int32)) q.2)
  subst hv26
  have N26 : Fr n0 L26 := by rw [l26]; exact Fr.app N21 (Fr.nil n0)
  obtain ⟨fs, hr, hrun, hended, hW, hsame⟩ := X26.leave (v := some (.ref k_TERMINATE)) (fun h => by rw [Bd.returns] at h; cases h)
  refine ⟨_, _, pre0 _ ?_, hrun, hended, _, _, rfl, ?_, ⟨_, rfl⟩, hW, hsame.mono (by decide) (by decide)⟩
  · show Steps p.tables e below (s₁.setTop (mkF m 0 #[.val (.ref a1), .unset, .unset, .unset, .unset] [])) _
    refine st1 _ ?_
    show Steps p.tables e below (T1.setTop (mkF m 3 #[.val (.ref a1), .unset, .unset, .unset, .unset] [(.ref b2_1)])) _
    refine XS.astoreN X1.here hx rfl (hb hby own_d_prog_13_method_5_3) rfl rfl (l' := #[.val (.ref a1), .val (.ref b2_1), .unset, .unset, .unset]) rfl ?_
    show Steps p.tables e below (T1.setTop (mkF m 4 #[.val (.ref a1), .val (.ref b2_1), .unset, .unset, .unset] [])) _
    refine XS.aloadN X1.here hx rfl (hb hby own_d_prog_13_method_5_4) rfl rfl ?_
    show Steps p.tables e below (T1.setTop (mkF m 5 #[.val (.ref a1), .val (.ref b2_1), .unset, .unset, .unset] [(.ref b2_1)])) _
    refine X1.arraylength hx Ar3.1 (State.isArrayOf_alike hZ.alike Ar3.2.1) (g := (mkF m 5 #[.val (.ref a1), .val (.ref b2_1), .unset, .unset, .unset] [(.ref b2_1)])) rfl rfl (hb hby own_d_prog_13_method_5_5) _ ?_
    rw [len_of Sz3 Ng3]
    show Steps p.tables e below (T1.setTop (mkF m 6 #[.val (.ref a1), .val (.ref b2_1), .unset, .unset, .unset] [(.int (4 : Int32))])) _
    refine XS.istoreN X1.here hx rfl (hb hby own_d_prog_13_method_5_6) rfl (l' := #[.val (.ref a1), .val (.ref b2_1), .val (.int (4 : Int32)), .unset, .unset]) rfl ?_
    show Steps p.tables e below (T1.setTop (mkF m 7 #[.val (.ref a1), .val (.ref b2_1), .val (.int (4 : Int32)), .unset, .unset] [])) _
    refine XS.iconst X1.here hx rfl (hb hby own_d_prog_13_method_5_7) ?_
    show Steps p.tables e below (T1.setTop (mkF m 8 #[.val (.ref a1), .val (.ref b2_1), .val (.int (4 : Int32)), .unset, .unset] [(.int (0 : Int32))])) _
    refine XS.istoreN X1.here hx rfl (hb hby own_d_prog_13_method_5_8) rfl (l' := #[.val (.ref a1), .val (.ref b2_1), .val (.int (4 : Int32)), .val (.int (0 : Int32)), .unset]) rfl ?_
    show Steps p.tables e below (T1.setTop (mkF m 9 #[.val (.ref a1), .val (.ref b2_1), .val (.int (4 : Int32)), .val (.int (0 : Int32)), .unset] [])) _
    refine XS.iloadN X1.here hx rfl (hb hby own_d_prog_13_method_5_9) rfl ?_
    show Steps p.tables e below (T1.setTop (mkF m 10 #[.val (.ref a1), .val (.ref b2_1), .val (.int (4 : Int32)), .val (.int (0 : Int32)), .unset] [(.int (0 : Int32))])) _
    refine XS.iloadN X1.here hx rfl (hb hby own_d_prog_13_method_5_10) rfl ?_
    show Steps p.tables e below (T1.setTop (mkF m 11 #[.val (.ref a1), .val (.ref b2_1), .val (.int (4 : Int32)), .val (.int (0 : Int32)), .unset] [(.int (4 : Int32)), (.int (0 : Int32))])) _
    refine XS.icmpNo X1.here hx rfl (hb hby own_d_prog_13_method_5_11) rfl (tlt (by decide : (0 : Int32) < (4 : Int32))).2.1 ?_
    show Steps p.tables e below (T1.setTop (mkF m 14 #[.val (.ref a1), .val (.ref b2_1), .val (.int (4 : Int32)), .val (.int (0 : Int32)), .unset] [])) _
    refine XS.aloadN X1.here hx rfl (hb hby own_d_prog_13_method_5_14) rfl rfl ?_
    show Steps p.tables e below (T1.setTop (mkF m 15 #[.val (.ref a1), .val (.ref b2_1), .val (.int (4 : Int32)), .val (.int (0 : Int32)), .unset] [(.ref b2_1)])) _
    refine XS.iloadN X1.here hx rfl (hb hby own_d_prog_13_method_5_15) rfl ?_
    show Steps p.tables e below (T1.setTop (mkF m 16 #[.val (.ref a1), .val (.ref b2_1), .val (.int (4 : Int32)), .val (.int (0 : Int32)), .unset] [(.int (0 : Int32)), (.ref b2_1)])) _
    refine X1.aaload hx (j := (0 : Int32)) (v := (.ref k_RUNNING)) Ar4.1 (State.isArrayOf_alike hZ.alike Ar4.2.1) rfl Ar4.2.2 hin4 hat4 (g := (mkF m 16 #[.val (.ref a1), .val (.ref b2_1), .val (.int (4 : Int32)), .val (.int (0 : Int32)), .unset] [(.int (0 : Int32)), (.ref b2_1)])) rfl rfl (hb hby own_d_prog_13_method_5_16) _ ?_
    show Steps p.tables e below (T1.setTop (mkF m 17 #[.val (.ref a1), .val (.ref b2_1), .val (.int (4 : Int32)), .val (.int (0 : Int32)), .unset] [(.ref k_RUNNING)])) _
    refine XS.astore X1.here hx rfl (hb hby own_d_prog_13_method_5_17) rfl rfl (l' := #[.val (.ref a1), .val (.ref b2_1), .val (.int (4 : Int32)), .val (.int (0 : Int32)), .val (.ref k_RUNNING)]) rfl ?_
    show Steps p.tables e below (T1.setTop (mkF m 19 #[.val (.ref a1), .val (.ref b2_1), .val (.int (4 : Int32)), .val (.int (0 : Int32)), .val (.ref k_RUNNING)] [])) _
    refine XS.aload X1.here hx rfl (hb hby own_d_prog_13_method_5_19) rfl rfl ?_
    show Steps p.tables e below (T1.setTop (mkF m 21 #[.val (.ref a1), .val (.ref b2_1), .val (.int (4 : Int32)), .val (.int (0 : Int32)), .val (.ref k_RUNNING)] [(.ref k_RUNNING)])) _
    refine st6 _ ?_
    show Steps p.tables e below (T6.setTop (mkF m 24 #[.val (.ref a1), .val (.ref b2_1), .val (.int (4 : Int32)), .val (.int (0 : Int32)), .val (.ref k_RUNNING)] [(.ref s_RUNNING)])) _
    refine XS.aloadN X6.here hx rfl (hb hby own_d_prog_13_method_5_24) rfl rfl ?_
    show Steps p.tables e below (T6.setTop (mkF m 25 #[.val (.ref a1), .val (.ref b2_1), .val (.int (4 : Int32)), .val (.int (0 : Int32)), .val (.ref k_RUNNING)] [(.ref a1), (.ref s_RUNNING)])) _
    refine st15.trans ?_
    show Steps p.tables e below (T15.setTop (mkF m 28 #[.val (.ref a1), .val (.ref b2_1), .val (.int (4 : Int32)), .val (.int (0 : Int32)), .val (.ref k_RUNNING)] [(.int (0 : Int32))])) _
    refine XS.ifYes X15.here hx rfl (pc0 := 28) (pc' := 34) rfl (hb hby own_d_prog_13_method_5_28) rfl ((if0 _ _).trans (teq (rfl : (0 : Int32) = (0 : Int32))).1) (by decide) (by decide) ?_
    show Steps p.tables e below (T15.setTop (mkF m 34 #[.val (.ref a1), .val (.ref b2_1), .val (.int (4 : Int32)), .val (.int (0 : Int32)), .val (.ref k_RUNNING)] [])) _
    refine XS.iinc X15.here hx rfl (hb hby own_d_prog_13_method_5_34) rfl (l' := #[.val (.ref a1), .val (.ref b2_1), .val (.int (4 : Int32)), .val (.int (1 : Int32)), .val (.ref k_RUNNING)]) rfl ?_
    show Steps p.tables e below (T15.setTop (mkF m 37 #[.val (.ref a1), .val (.ref b2_1), .val (.int (4 : Int32)), .val (.int (1 : Int32)), .val (.ref k_RUNNING)] [])) _
    refine XS.goto X15.here hx rfl (pc0 := 37) (pc' := 9) rfl (hb hby own_d_prog_13_method_5_37) (by decide) (by decide) ?_
    show Steps p.tables e below (T15.setTop (mkF m 9 #[.val (.ref a1), .val (.ref b2_1), .val (.int (4 : Int32)), .val (.int (1 : Int32)), .val (.ref k_RUNNING)] [])) _
    refine XS.iloadN X15.here hx rfl (hb hby own_d_prog_13_method_5_9) rfl ?_
    show Steps p.tables e below (T15.setTop (mkF m 10 #[.val (.ref a1), .val (.ref b2_1), .val (.int (4 : Int32)), .val (.int (1 : Int32)), .val (.ref k_RUNNING)] [(.int (1 : Int32))])) _
    refine XS.iloadN X15.here hx rfl (hb hby own_d_prog_13_method_5_10) rfl ?_
    show Steps p.tables e below (T15.setTop (mkF m 11 #[.val (.ref a1), .val (.ref b2_1), .val (.int (4 : Int32)), .val (.int (1 : Int32)), .val (.ref k_RUNNING)] [(.int (4 : Int32)), (.int (1 : Int32))])) _
    refine XS.icmpNo X15.here hx rfl (hb hby own_d_prog_13_method_5_11) rfl (tlt (by decide : (1 : Int32) < (4 : Int32))).2.1 ?_
    show Steps p.tables e below (T15.setTop (mkF m 14 #[.val (.ref a1), .val (.ref b2_1), .val (.int (4 : Int32)), .val (.int (1 : Int32)), .val (.ref k_RUNNING)] [])) _
    refine XS.aloadN X15.here hx rfl (hb hby own_d_prog_13_method_5_14) rfl rfl ?_
    show Steps p.tables e below (T15.setTop (mkF m 15 #[.val (.ref a1), .val (.ref b2_1), .val (.int (4 : Int32)), .val (.int (1 : Int32)), .val (.ref k_RUNNING)] [(.ref b2_1)])) _
    refine XS.iloadN X15.here hx rfl (hb hby own_d_prog_13_method_5_15) rfl ?_
    show Steps p.tables e below (T15.setTop (mkF m 16 #[.val (.ref a1), .val (.ref b2_1), .val (.int (4 : Int32)), .val (.int (1 : Int32)), .val (.ref k_RUNNING)] [(.int (1 : Int32)), (.ref b2_1)])) _
    refine X15.aaload hx (j := (1 : Int32)) (v := (.ref k_QUIET)) (by rw [e15]; exact Ar16.1) (State.isArrayOf_alike hZ.alike Ar16.2.1) rfl Ar16.2.2 hin16 hat16 (g := (mkF m 16 #[.val (.ref a1), .val (.ref b2_1), .val (.int (4 : Int32)), .val (.int (1 : Int32)), .val (.ref k_RUNNING)] [(.int (1 : Int32)), (.ref b2_1)])) rfl rfl (hb hby own_d_prog_13_method_5_16) _ ?_
    show Steps p.tables e below (T15.setTop (mkF m 17 #[.val (.ref a1), .val (.ref b2_1), .val (.int (4 : Int32)), .val (.int (1 : Int32)), .val (.ref k_RUNNING)] [(.ref k_QUIET)])) _
    refine XS.astore X15.here hx rfl (hb hby own_d_prog_13_method_5_17) rfl rfl (l' := #[.val (.ref a1), .val (.ref b2_1), .val (.int (4 : Int32)), .val (.int (1 : Int32)), .val (.ref k_QUIET)]) rfl ?_
    show Steps p.tables e below (T15.setTop (mkF m 19 #[.val (.ref a1), .val (.ref b2_1), .val (.int (4 : Int32)), .val (.int (1 : Int32)), .val (.ref k_QUIET)] [])) _
    refine XS.aload X15.here hx rfl (hb hby own_d_prog_13_method_5_19) rfl rfl ?_
    show Steps p.tables e below (T15.setTop (mkF m 21 #[.val (.ref a1), .val (.ref b2_1), .val (.int (4 : Int32)), .val (.int (1 : Int32)), .val (.ref k_QUIET)] [(.ref k_QUIET)])) _
    refine st17 _ ?_
    show Steps p.tables e below (T17.setTop (mkF m 24 #[.val (.ref a1), .val (.ref b2_1), .val (.int (4 : Int32)), .val (.int (1 : Int32)), .val (.ref k_QUIET)] [(.ref s_QUIET)])) _
    refine XS.aloadN X17.here hx rfl (hb hby own_d_prog_13_method_5_24) rfl rfl ?_
    show Steps p.tables e below (T17.setTop (mkF m 25 #[.val (.ref a1), .val (.ref b2_1), .val (.int (4 : Int32)), .val (.int (1 : Int32)), .val (.ref k_QUIET)] [(.ref a1), (.ref s_QUIET)])) _
    refine st21.trans ?_
    show Steps p.tables e below (T21.setTop (mkF m 28 #[.val (.ref a1), .val (.ref b2_1), .val (.int (4 : Int32)), .val (.int (1 : Int32)), .val (.ref k_QUIET)] [(.int (0 : Int32))])) _
    refine XS.ifYes X21.here hx rfl (pc0 := 28) (pc' := 34) rfl (hb hby own_d_prog_13_method_5_28) rfl ((if0 _ _).trans (teq (rfl : (0 : Int32) = (0 : Int32))).1) (by decide) (by decide) ?_
    show Steps p.tables e below (T21.setTop (mkF m 34 #[.val (.ref a1), .val (.ref b2_1), .val (.int (4 : Int32)), .val (.int (1 : Int32)), .val (.ref k_QUIET)] [])) _
    refine XS.iinc X21.here hx rfl (hb hby own_d_prog_13_method_5_34) rfl (l' := #[.val (.ref a1), .val (.ref b2_1), .val (.int (4 : Int32)), .val (.int (2 : Int32)), .val (.ref k_QUIET)]) rfl ?_
    show Steps p.tables e below (T21.setTop (mkF m 37 #[.val (.ref a1), .val (.ref b2_1), .val (.int (4 : Int32)), .val (.int (2 : Int32)), .val (.ref k_QUIET)] [])) _
    refine XS.goto X21.here hx rfl (pc0 := 37) (pc' := 9) rfl (hb hby own_d_prog_13_method_5_37) (by decide) (by decide) ?_
    show Steps p.tables e below (T21.setTop (mkF m 9 #[.val (.ref a1), .val (.ref b2_1), .val (.int (4 : Int32)), .val (.int (2 : Int32)), .val (.ref k_QUIET)] [])) _
    refine XS.iloadN X21.here hx rfl (hb hby own_d_prog_13_method_5_9) rfl ?_
    show Steps p.tables e below (T21.setTop (mkF m 10 #[.val (.ref a1), .val (.ref b2_1), .val (.int (4 : Int32)), .val (.int (2 : Int32)), .val (.ref k_QUIET)] [(.int (2 : Int32))])) _
    refine XS.iloadN X21.here hx rfl (hb hby own_d_prog_13_method_5_10) rfl ?_
    show Steps p.tables e below (T21.setTop (mkF m 11 #[.val (.ref a1), .val (.ref b2_1), .val (.int (4 : Int32)), .val (.int (2 : Int32)), .val (.ref k_QUIET)] [(.int (4 : Int32)), (.int (2 : Int32))])) _
    refine XS.icmpNo X21.here hx rfl (hb hby own_d_prog_13_method_5_11) rfl (tlt (by decide : (2 : Int32) < (4 : Int32))).2.1 ?_
    show Steps p.tables e below (T21.setTop (mkF m 14 #[.val (.ref a1), .val (.ref b2_1), .val (.int (4 : Int32)), .val (.int (2 : Int32)), .val (.ref k_QUIET)] [])) _
    refine XS.aloadN X21.here hx rfl (hb hby own_d_prog_13_method_5_14) rfl rfl ?_
    show Steps p.tables e below (T21.setTop (mkF m 15 #[.val (.ref a1), .val (.ref b2_1), .val (.int (4 : Int32)), .val (.int (2 : Int32)), .val (.ref k_QUIET)] [(.ref b2_1)])) _
    refine XS.iloadN X21.here hx rfl (hb hby own_d_prog_13_method_5_15) rfl ?_
    show Steps p.tables e below (T21.setTop (mkF m 16 #[.val (.ref a1), .val (.ref b2_1), .val (.int (4 : Int32)), .val (.int (2 : Int32)), .val (.ref k_QUIET)] [(.int (2 : Int32)), (.ref b2_1)])) _
    refine X21.aaload hx (j := (2 : Int32)) (v := (.ref k_TERMINATE)) (by rw [e21]; exact Ar22.1) (State.isArrayOf_alike hZ.alike Ar22.2.1) rfl Ar22.2.2 hin22 hat22 (g := (mkF m 16 #[.val (.ref a1), .val (.ref b2_1), .val (.int (4 : Int32)), .val (.int (2 : Int32)), .val (.ref k_QUIET)] [(.int (2 : Int32)), (.ref b2_1)])) rfl rfl (hb hby own_d_prog_13_method_5_16) _ ?_
    show Steps p.tables e below (T21.setTop (mkF m 17 #[.val (.ref a1), .val (.ref b2_1), .val (.int (4 : Int32)), .val (.int (2 : Int32)), .val (.ref k_QUIET)] [(.ref k_TERMINATE)])) _
    refine XS.astore X21.here hx rfl (hb hby own_d_prog_13_method_5_17) rfl rfl (l' := #[.val (.ref a1), .val (.ref b2_1), .val (.int (4 : Int32)), .val (.int (2 : Int32)), .val (.ref k_TERMINATE)]) rfl ?_
    show Steps p.tables e below (T21.setTop (mkF m 19 #[.val (.ref a1), .val (.ref b2_1), .val (.int (4 : Int32)), .val (.int (2 : Int32)), .val (.ref k_TERMINATE)] [])) _
    refine XS.aload X21.here hx rfl (hb hby own_d_prog_13_method_5_19) rfl rfl ?_
    show Steps p.tables e below (T21.setTop (mkF m 21 #[.val (.ref a1), .val (.ref b2_1), .val (.int (4 : Int32)), .val (.int (2 : Int32)), .val (.ref k_TERMINATE)] [(.ref k_TERMINATE)])) _
    refine st23 _ ?_
    show Steps p.tables e below (T23.setTop (mkF m 24 #[.val (.ref a1), .val (.ref b2_1), .val (.int (4 : Int32)), .val (.int (2 : Int32)), .val (.ref k_TERMINATE)] [(.ref s_TERMINATE)])) _
    refine XS.aloadN X23.here hx rfl (hb hby own_d_prog_13_method_5_24) rfl rfl ?_
    show Steps p.tables e below (T23.setTop (mkF m 25 #[.val (.ref a1), .val (.ref b2_1), .val (.int (4 : Int32)), .val (.int (2 : Int32)), .val (.ref k_TERMINATE)] [(.ref a1), (.ref s_TERMINATE)])) _
    refine st26.trans ?_
    show Steps p.tables e below (T26.setTop (mkF m 28 #[.val (.ref a1), .val (.ref b2_1), .val (.int (4 : Int32)), .val (.int (2 : Int32)), .val (.ref k_TERMINATE)] [(.int (1 : Int32))])) _
    refine XS.ifNo X26.here hx rfl (hb hby own_d_prog_13_method_5_28) rfl ((if0 _ _).trans (feq (by decide : ¬ ((1 : Int32) = (0 : Int32)))).1) ?_
    show Steps p.tables e below (T26.setTop (mkF m 31 #[.val (.ref a1), .val (.ref b2_1), .val (.int (4 : Int32)), .val (.int (2 : Int32)), .val (.ref k_TERMINATE)] [])) _
    refine XS.aload X26.here hx rfl (hb hby own_d_prog_13_method_5_31) rfl rfl ?_
    show Steps p.tables e below (T26.setTop (mkF m 33 #[.val (.ref a1), .val (.ref b2_1), .val (.int (4 : Int32)), .val (.int (2 : Int32)), .val (.ref k_TERMINATE)] [(.ref k_TERMINATE)])) _
    jvm_step X26.here [X26.here.top, hx, (hb hby own_d_prog_13_method_5_33), X26.method', Bd.returns, Value.isRef, FieldType.isReference]
    first | (intro acts; rw [hr _ acts rfl rfl rfl]) | rw [hr _ _ rfl rfl rfl]
    exact Steps.refl _
  · show own_Qrm_from_TERMINATE Z G1 k_RUNNING s_RUNNING t_RUNNING kb_RUNNING k_QUIET s_QUIET t_QUIET kb_QUIET k_TERMINATE s_TERMINATE t_TERMINATE kb_TERMINATE k_TERMINATED s_TERMINATED t_TERMINATED kb_TERMINATED k_VALUES kv_VALUES a1 t2 kb3 h0 n0 _ T26.heap _
    rw [e26]
    exact ⟨rfl, N26, Kp2⟩
def own_Qrm_from_TERMINATED (Z : State) (G1 : Int32) (k_RUNNING : Addr) (s_RUNNING : Addr) (t_RUNNING : Addr) (kb_RUNNING : ClassId) (k_QUIET : Addr) (s_QUIET : Addr) (t_QUIET : Addr) (kb_QUIET : ClassId) (k_TERMINATE : Addr) (s_TERMINATE : Addr) (t_TERMINATE : Addr) (kb_TERMINATE : ClassId) (k_TERMINATED : Addr) (s_TERMINATED : Addr) (t_TERMINATED : Addr) (kb_TERMINATED : ClassId) (k_VALUES : Addr) (kv_VALUES : ClassId) (a1 : Addr) (t2 : Addr) (kb3 : ClassId) (h0 : Heap) (n0 : Nat) (v : Option Value) (h : Heap) (L : List Loc) : Prop := (v = some (.ref k_TERMINATED)) ∧ (Fr n0 L) ∧ (Keep h0 h [])
theorem own_efrm_from_TERMINATED (m : MethodId) (a1 : Addr) : entryFrame m #[(.ref a1)] 5 = mkF m 0 #[.val (.ref a1), .unset, .unset, .unset, .unset] [] := by first | (simp [entryFrame, mkF, argsToLocals, Value.category]; done) | rfl
set_option maxRecDepth 65536 in
set_option maxHeartbeats 40000000 in
theorem own_rm_from_TERMINATED (l : Launch) (Z : State) (a0 : Array Value) (hw : ∀ d ∈ tables_1, d.before a0 Z = true) (ws : List Jvm.Cond) (G1 : Int32) (k_RUNNING : Addr) (s_RUNNING : Addr) (t_RUNNING : Addr) (kb_RUNNING : ClassId) (k_QUIET : Addr) (s_QUIET : Addr) (t_QUIET : Addr) (kb_QUIET : ClassId) (k_TERMINATE : Addr) (s_TERMINATE : Addr) (t_TERMINATE : Addr) (kb_TERMINATE : ClassId) (k_TERMINATED : Addr) (s_TERMINATED : Addr) (t_TERMINATED : Addr) (kb_TERMINATED : ClassId) (k_VALUES : Addr) (kv_VALUES : ClassId) (gl : own_Glob Z G1 k_RUNNING s_RUNNING t_RUNNING kb_RUNNING k_QUIET s_QUIET t_QUIET kb_QUIET k_TERMINATE s_TERMINATE t_TERMINATE kb_TERMINATE k_TERMINATED s_TERMINATED t_TERMINATED kb_TERMINATED k_VALUES kv_VALUES) (a1 : Addr) (t2 : Addr) (kb3 : ClassId) (h0 : Heap) (n0 : Nat) (Z0 : n0 ≤ h0.size) (X00 : Old Z n0 h0) (P1 : Exa Z h0 a1 "java/lang/String") (P2 : Fld Z h0 a1 "java/lang/String" "value" "[B" (.ref t2)) (P3 : Fld Z h0 a1 "java/lang/String" "coder" "B" (.int (0 : Int32))) (P4 : Arv Z h0 t2 kb3 .byte (10 : Int32) ((([(116 : Int32), (101 : Int32), (114 : Int32), (109 : Int32), (105 : Int32), (110 : Int32), (97 : Int32), (116 : Int32), (101 : Int32), (100 : Int32)] : List Int32).map (fun c => c.toInt8.toInt32)).map Value.int) (.int (0 : Int32))) :
    MetFree l (⟨"com/example/dagsverke/dagsverke/job/WorkerState", "fromWireName", "(Ljava/lang/String;)Lcom/example/dagsverke/dagsverke/job/WorkerState;"⟩ : MethodName) (head1 (Jvm.Cond.code (⟨"com/example/dagsverke/dagsverke/job/WorkerState", "fromWireName", "(Ljava/lang/String;)Lcom/example/dagsverke/dagsverke/job/WorkerState;"⟩ : MethodName) prog_13_method_5_code 5 (some (.object "com/example/dagsverke/dagsverke/job/WorkerState")) :: ws) ({ frames := 2, cells := 1, slots := 4, locals := 28 } : Room)) (fun a U => a = #[(.ref a1)] ∧ Z.Warmed39 U.vm ∧ U.heap = h0) (fun _ _ _ _ _ => True) (fun _ U o U' => ∃ v L, o = .returned v ∧ own_Qrm_from_TERMINATED Z G1 k_RUNNING s_RUNNING t_RUNNING kb_RUNNING k_QUIET s_QUIET t_QUIET kb_QUIET k_TERMINATE s_TERMINATE t_TERMINATE kb_TERMINATE k_TERMINATED s_TERMINATED t_TERMINATED kb_TERMINATED k_VALUES kv_VALUES a1 t2 kb3 h0 n0 v U'.heap L ∧ FrameEnd U o U' L ({ frames := 2, cells := 1, slots := 4, locals := 28 } : Room).cells ({ frames := 2, cells := 1, slots := 4, locals := 28 } : Room).slots) := by
  refine MetFree.of_bodySF (plainFor_of_name own_pn0) hisR ?_
  intro p e s m args below meth c s₁ Bd hml0 hP hK
  obtain ⟨rfl, hZ, hh⟩ := hP
  obtain ⟨O_CS, P_CS, O_RUNNING, E_RUNNING, Fs_RUNNING, Es_RUNNING, Fc_RUNNING, Fv_RUNNING, V_RUNNING, O_QUIET, E_QUIET, Fs_QUIET, Es_QUIET, Fc_QUIET, Fv_QUIET, V_QUIET, O_TERMINATE, E_TERMINATE, Fs_TERMINATE, Es_TERMINATE, Fc_TERMINATE, Fv_TERMINATE, V_TERMINATE, O_TERMINATED, E_TERMINATED, Fs_TERMINATED, Es_TERMINATED, Fc_TERMINATED, Fv_TERMINATED, V_TERMINATED, O_VALUES, E_VALUES, V_VALUES⟩ := id gl
  have hx := Bd.exec
  have hby := Bd.bytes
  have hml : c.maxLocals = 5 := hml0
  have hown : s.vm.findClass "com/example/dagsverke/dagsverke/job/WorkerState" = some m.cls := findClass_of_methodNamed Bd.named
  have hnm := (name_of_methodNamed Bd.named Bd.method).1
  have X0 : Stand p l e ({ frames := 2, cells := 1, slots := 4, locals := 28 } : Room) s m #[(.ref a1)] below meth c s₁ [] 0 0 := Stand.of_body Bd
  have e0 : s₁.heap = h0 := by rw [← hh, Bd.state]; rfl
  have N0 := Fr.nil n0
  have pre0 : ∀ t, Steps p.tables e below (s₁.setTop (mkF m 0 #[.val (.ref a1), .unset, .unset, .unset, .unset] [])) t → Steps p.tables e below (s₁.setTop (entryFrame m #[(.ref a1)] 5)) t := fun t k => castTop (own_efrm_from_TERMINATED m a1) k
  obtain ⟨_, _, ⟨T1, L1, k1, n1⟩, -, X1, ⟨Lc1, hQ1, l1, y1, z1⟩, st1⟩ := Jvm.LawKit.callS X0 hx (y := (⟨"com/example/dagsverke/dagsverke/job/WorkerState", "values", "()[Lcom/example/dagsverke/dagsverke/job/WorkerState;"⟩ : MethodName)) hown (mvT hZ (hw _ (List.mem_of_getElem? (i := 36) rfl))) (mvT hZ (hw _ (List.mem_of_getElem? (i := 37) rfl))) (mvT hZ (hw _ (List.mem_of_getElem? (i := 2) rfl))) (mvT hZ (hw _ (List.mem_of_getElem? (i := 38) rfl))) (by decide) (backOf (W := 0) (own_rm_values l Z a0 hw [] G1 k_RUNNING s_RUNNING t_RUNNING kb_RUNNING k_QUIET s_QUIET t_QUIET kb_QUIET k_TERMINATE s_TERMINATE t_TERMINATE kb_TERMINATE k_TERMINATED s_TERMINATED t_TERMINATED kb_TERMINATED k_VALUES kv_VALUES gl  h0 n0 Z0 X00 ) hZ (hw _ (List.mem_of_getElem? (i := 38) rfl)) (hw _ (List.mem_of_getElem? (i := 2) rfl)) (by decide) (by decide)) (g := (mkF m 0 #[.val (.ref a1), .unset, .unset, .unset, .unset] [])) rfl (by rw [hml]; rfl) (argsL := []) (rest := []) (lenOf own_pd1 rfl) rfl (by show 2 * 0 + _ ≤ _; exact Nat.le_of_eq rfl) (hb hby own_d_prog_13_method_5_0) (fun _ _ => ⟨rfl, e0, (by decide : 0 + 1 ≤ _), (by decide : 0 + 4 ≤ _)⟩)
  dsimp only [Pt.U, Pt.locs, Pt.cells, Pt.slots] at X1 l1 y1 z1 st1 hQ1
  subst y1 z1
  obtain ⟨b2_1, rfl, Nq1, Kq1, f1_0, f1_1, f1_2⟩ := hQ1
  have N1 : Fr n0 L1 := by rw [l1]; exact Fr.app N0 Nq1
  have Kp2 : Keep h0 T1.heap [] := (Keep.refl h0 []).trans Kq1 all0
  obtain ⟨cl3, Ar3, -, Sz3, Ng3, -, -⟩ := id f1_1
  obtain ⟨cl4, Ar4, qc4, Sz4, Ng4, Hs4, Gs4⟩ := id f1_1
  have hin4 : ¬ ((0 : Int32) < 0 ∨ cl4.slots.size ≤ ((0 : Int32)).toNatClampNeg) := inb_of Sz4 ⟨(by decide), (by decide)⟩
  have hat4 : cl4.slots[((0 : Int32)).toNatClampNeg]? = some (.ref k_RUNNING) := Has.at Hs4 hin4 rfl
  have Old5 : Old Z n0 T1.heap := X00.keep Kq1 all0
  obtain ⟨T6, X6, e6, st6⟩ := getF X1 hx hZ hown (host := "") (Or.inl (hw _ (List.mem_of_getElem? (i := 54) rfl))) Via.refl rfl (Fs_RUNNING.ext Old5.2) (g := (mkF m 21 #[.val (.ref a1), .val (.ref b2_1), .val (.int (4 : Int32)), .val (.int (0 : Int32)), .val (.ref k_RUNNING)] [(.ref k_RUNNING)])) rfl rfl (hb hby own_d_prog_13_method_5_21)
  have hph7 : ∀ c ∈ ([(114 : Int32), (117 : Int32), (110 : Int32), (110 : Int32), (105 : Int32), (110 : Int32), (103 : Int32)] : List Int32), ¬ c < 0 ∧ ¬ (255 : Int32) < c := (own_cS (by decide) (own_cS (by decide) (own_cS (by decide) (own_cS (by decide) (own_cS (by decide) (own_cS (by decide) (own_cS (by decide) own_c0)))))))
  have cdh8 : StrChars.Road.CodA ([(114 : Int32), (117 : Int32), (110 : Int32), (110 : Int32), (105 : Int32), (110 : Int32), (103 : Int32)] : List Int32) 0 (7 : Int32) ((([(114 : Int32), (117 : Int32), (110 : Int32), (110 : Int32), (105 : Int32), (110 : Int32), (103 : Int32)] : List Int32).map (fun c => c.toInt8.toInt32)).map Value.int) := (StrChars.Road.codOf (cs := ([(114 : Int32), (117 : Int32), (110 : Int32), (110 : Int32), (105 : Int32), (110 : Int32), (103 : Int32)] : List Int32)) (n := 7) rfl (fun c hc => (hph7 c hc).2))
  have hws_wordsEq : ∀ d ∈ StrChars.Road.wordsEq, d.before a0 Z = true := fun d hd => hw d (own_hws_wordsEq d hd)
  have Eh9 : Exa Z T1.heap a1 "java/lang/String" := (P1.keep Kq1)
  have Fh10 : Fld Z T1.heap a1 "java/lang/String" "value" "[B" (.ref t2) := (P2.keep Kq1 nin0)
  have Fh11 : Fld Z T1.heap a1 "java/lang/String" "coder" "B" (.int (0 : Int32)) := (P3.keep Kq1 nin0)
  have Vh12 : Arv Z T1.heap t2 kb3 .byte (10 : Int32) ((([(116 : Int32), (101 : Int32), (114 : Int32), (109 : Int32), (105 : Int32), (110 : Int32), (97 : Int32), (116 : Int32), (101 : Int32), (100 : Int32)] : List Int32).map (fun c => c.toInt8.toInt32)).map Value.int) (.int (0 : Int32)) := (P4.keep Kq1 nin0)
  have hph13 : ∀ c ∈ ([(116 : Int32), (101 : Int32), (114 : Int32), (109 : Int32), (105 : Int32), (110 : Int32), (97 : Int32), (116 : Int32), (101 : Int32), (100 : Int32)] : List Int32), ¬ c < 0 ∧ ¬ (255 : Int32) < c := (own_cS (by decide) (own_cS (by decide) (own_cS (by decide) (own_cS (by decide) (own_cS (by decide) (own_cS (by decide) (own_cS (by decide) (own_cS (by decide) (own_cS (by decide) (own_cS (by decide) own_c0))))))))))
  have cdh14 : StrChars.Road.CodA ([(116 : Int32), (101 : Int32), (114 : Int32), (109 : Int32), (105 : Int32), (110 : Int32), (97 : Int32), (116 : Int32), (101 : Int32), (100 : Int32)] : List Int32) 0 (10 : Int32) ((([(116 : Int32), (101 : Int32), (114 : Int32), (109 : Int32), (105 : Int32), (110 : Int32), (97 : Int32), (116 : Int32), (101 : Int32), (100 : Int32)] : List Int32).map (fun c => c.toInt8.toInt32)).map Value.int) := (StrChars.Road.codOf (cs := ([(116 : Int32), (101 : Int32), (114 : Int32), (109 : Int32), (105 : Int32), (110 : Int32), (97 : Int32), (116 : Int32), (101 : Int32), (100 : Int32)] : List Int32)) (n := 10) rfl (fun c hc => (hph13 c hc).2))
  obtain ⟨cq15, kq15, q15a, q15b, q15c⟩ := isOf hZ e6 (Es_RUNNING.ext Old5.2)
  obtain ⟨_, _, ⟨T15, L15, k15, n15⟩, -, X15, ⟨Lc15, hQ15, l15, y15, z15⟩, st15⟩ := X6.virtualBack hx (y := (⟨"java/lang/String", "equals", "(Ljava/lang/Object;)Z"⟩ : MethodName)) (z := (⟨"java/lang/String", "equals", "(Ljava/lang/Object;)Z"⟩ : MethodName)) hown (mvT hZ (hw _ (List.mem_of_getElem? (i := 56) rfl))) (mvT hZ (hw _ (List.mem_of_getElem? (i := 57) rfl))) (notFace_of_selects (args := #[]) (mvT hZ (hw _ (List.mem_of_getElem? (i := 59) rfl)))) (mvT hZ (hw _ (List.mem_of_getElem? (i := 59) rfl))) (mvT hZ (hw _ (List.mem_of_getElem? (i := 58) rfl))) (by decide) (StrChars.Road.eqW (W := 0) hZ hws_wordsEq (kI := 4) (hw _ (List.mem_of_getElem? (i := 5) rfl)) (Es_RUNNING.ext Old5.2) (Fv_RUNNING.ext Old5.2) (Fc_RUNNING.ext Old5.2) (V_RUNNING.ext Old5.2) cdh8 (own_up _ hph7) (Nat.le_of_ble_eq_true rfl) Eh9 Fh10 Fh11 Vh12 cdh14 (own_up _ hph13) (Nat.le_of_ble_eq_true rfl) (O_CS.ext Old5.2) P_CS (by decide) (by decide)) q15a q15c (g := (mkF m 25 #[.val (.ref a1), .val (.ref b2_1), .val (.int (4 : Int32)), .val (.int (0 : Int32)), .val (.ref k_RUNNING)] [(.ref a1), (.ref s_RUNNING)])) rfl (by rw [hml]; rfl) (Steps.refl _) (argsL := [(.ref a1)]) (rest := []) (lenOf own_pd2 rfl) rfl (by show 2 * 0 + _ ≤ _; exact Nat.le_of_eq rfl) (hb hby own_d_prog_13_method_5_25) (fun _ _ => ⟨rfl, e6, (by decide : 1 + 0 ≤ _), (by decide : 4 + 0 ≤ _)⟩)
  dsimp only [Pt.U, Pt.locs, Pt.cells, Pt.slots] at X15 l15 y15 z15 st15 hQ15
  subst y15 z15
  obtain ⟨hcase, rfl, e15⟩ := hQ15
  have hv15 : _ = some (Value.int 0) := hcase.elim (fun q => absurd q.2 ((fun q => absurd (congrArg List.length q) (by decide)) : ¬ (([(114 : Int32), (117 : Int32), (110 : Int32), (110 : Int32), (105 : Int32), (110 : Int32), (103 : Int32)] : List Int32) = ([(116 : Int32), (101 : Int32), (114 : Int32), (109 : Int32), (105 : Int32), (110 : Int32), (97 : Int32), (116 : Int32), (101 : Int32), (100 : Int32)] : List Int32)))) (fun q => q.1)
  subst hv15
  have N15 : Fr n0 L15 := by rw [l15]; exact Fr.app N1 (Fr.nil n0)
  obtain ⟨cl16, Ar16, qc16, Sz16, Ng16, Hs16, Gs16⟩ := id f1_1
  have hin16 : ¬ ((1 : Int32) < 0 ∨ cl16.slots.size ≤ ((1 : Int32)).toNatClampNeg) := inb_of Sz16 ⟨(by decide), (by decide)⟩
  have hat16 : cl16.slots[((1 : Int32)).toNatClampNeg]? = some (.ref k_QUIET) := Has.at Hs16 hin16 rfl
  obtain ⟨T17, X17, e17, st17⟩ := getF X15 hx hZ hown (host := "") (Or.inl (hw _ (List.mem_of_getElem? (i := 54) rfl))) Via.refl e15 (Fs_QUIET.ext Old5.2) (g := (mkF m 21 #[.val (.ref a1), .val (.ref b2_1), .val (.int (4 : Int32)), .val (.int (1 : Int32)), .val (.ref k_QUIET)] [(.ref k_QUIET)])) rfl rfl (hb hby own_d_prog_13_method_5_21)
  have hph18 : ∀ c ∈ ([(113 : Int32), (117 : Int32), (105 : Int32), (101 : Int32), (116 : Int32)] : List Int32), ¬ c < 0 ∧ ¬ (255 : Int32) < c := (own_cS (by decide) (own_cS (by decide) (own_cS (by decide) (own_cS (by decide) (own_cS (by decide) own_c0)))))
  have cdh19 : StrChars.Road.CodA ([(113 : Int32), (117 : Int32), (105 : Int32), (101 : Int32), (116 : Int32)] : List Int32) 0 (5 : Int32) ((([(113 : Int32), (117 : Int32), (105 : Int32), (101 : Int32), (116 : Int32)] : List Int32).map (fun c => c.toInt8.toInt32)).map Value.int) := (StrChars.Road.codOf (cs := ([(113 : Int32), (117 : Int32), (105 : Int32), (101 : Int32), (116 : Int32)] : List Int32)) (n := 5) rfl (fun c hc => (hph18 c hc).2))
  have cdh20 : StrChars.Road.CodA ([(116 : Int32), (101 : Int32), (114 : Int32), (109 : Int32), (105 : Int32), (110 : Int32), (97 : Int32), (116 : Int32), (101 : Int32), (100 : Int32)] : List Int32) 0 (10 : Int32) ((([(116 : Int32), (101 : Int32), (114 : Int32), (109 : Int32), (105 : Int32), (110 : Int32), (97 : Int32), (116 : Int32), (101 : Int32), (100 : Int32)] : List Int32).map (fun c => c.toInt8.toInt32)).map Value.int) := (StrChars.Road.codOf (cs := ([(116 : Int32), (101 : Int32), (114 : Int32), (109 : Int32), (105 : Int32), (110 : Int32), (97 : Int32), (116 : Int32), (101 : Int32), (100 : Int32)] : List Int32)) (n := 10) rfl (fun c hc => (hph13 c hc).2))
  obtain ⟨cq21, kq21, q21a, q21b, q21c⟩ := isOf hZ e17 (Es_QUIET.ext Old5.2)
  obtain ⟨_, _, ⟨T21, L21, k21, n21⟩, -, X21, ⟨Lc21, hQ21, l21, y21, z21⟩, st21⟩ := X17.virtualBack hx (y := (⟨"java/lang/String", "equals", "(Ljava/lang/Object;)Z"⟩ : MethodName)) (z := (⟨"java/lang/String", "equals", "(Ljava/lang/Object;)Z"⟩ : MethodName)) hown (mvT hZ (hw _ (List.mem_of_getElem? (i := 56) rfl))) (mvT hZ (hw _ (List.mem_of_getElem? (i := 57) rfl))) (notFace_of_selects (args := #[]) (mvT hZ (hw _ (List.mem_of_getElem? (i := 59) rfl)))) (mvT hZ (hw _ (List.mem_of_getElem? (i := 59) rfl))) (mvT hZ (hw _ (List.mem_of_getElem? (i := 58) rfl))) (by decide) (StrChars.Road.eqW (W := 0) hZ hws_wordsEq (kI := 4) (hw _ (List.mem_of_getElem? (i := 5) rfl)) (Es_QUIET.ext Old5.2) (Fv_QUIET.ext Old5.2) (Fc_QUIET.ext Old5.2) (V_QUIET.ext Old5.2) cdh19 (own_up _ hph18) (Nat.le_of_ble_eq_true rfl) Eh9 Fh10 Fh11 Vh12 cdh20 (own_up _ hph13) (Nat.le_of_ble_eq_true rfl) (O_CS.ext Old5.2) P_CS (by decide) (by decide)) q21a q21c (g := (mkF m 25 #[.val (.ref a1), .val (.ref b2_1), .val (.int (4 : Int32)), .val (.int (1 : Int32)), .val (.ref k_QUIET)] [(.ref a1), (.ref s_QUIET)])) rfl (by rw [hml]; rfl) (Steps.refl _) (argsL := [(.ref a1)]) (rest := []) (lenOf own_pd2 rfl) rfl (by show 2 * 0 + _ ≤ _; exact Nat.le_of_eq rfl) (hb hby own_d_prog_13_method_5_25) (fun _ _ => ⟨rfl, e17, (by decide : 1 + 0 ≤ _), (by decide : 4 + 0 ≤ _)⟩)
  dsimp only [Pt.U, Pt.locs, Pt.cells, Pt.slots] at X21 l21 y21 z21 st21 hQ21
  subst y21 z21
  obtain ⟨hcase, rfl, e21⟩ := hQ21
  have hv21 : _ = some (Value.int 0) := hcase.elim (fun q => absurd q.2 ((fun q => absurd (congrArg List.length q) (by decide)) : ¬ (([(113 : Int32), (117 : Int32), (105 : Int32), (101 : Int32), (116 : Int32)] : List Int32) = ([(116 : Int32), (101 : Int32), (114 : Int32), (109 : Int32), (105 : Int32), (110 : Int32), (97 : Int32), (116 : Int32), (101 : Int32), (100 : Int32)] : List Int32)))) (fun q => q.1)
  subst hv21
  have N21 : Fr n0 L21 := by rw [l21]; exact Fr.app N15 (Fr.nil n0)
  obtain ⟨cl22, Ar22, qc22, Sz22, Ng22, Hs22, Gs22⟩ := id f1_1
  have hin22 : ¬ ((2 : Int32) < 0 ∨ cl22.slots.size ≤ ((2 : Int32)).toNatClampNeg) := inb_of Sz22 ⟨(by decide), (by decide)⟩
  have hat22 : cl22.slots[((2 : Int32)).toNatClampNeg]? = some (.ref k_TERMINATE) := Has.at Hs22 hin22 rfl
  obtain ⟨T23, X23, e23, st23⟩ := getF X21 hx hZ hown (host := "") (Or.inl (hw _ (List.mem_of_getElem? (i := 54) rfl))) Via.refl e21 (Fs_TERMINATE.ext Old5.2) (g := (mkF m 21 #[.val (.ref a1), .val (.ref b2_1), .val (.int (4 : Int32)), .val (.int (2 : Int32)), .val (.ref k_TERMINATE)] [(.ref k_TERMINATE)])) rfl rfl (hb hby own_d_prog_13_method_5_21)
  have hph24 : ∀ c ∈ ([(116 : Int32), (101 : Int32), (114 : Int32), (109 : Int32), (105 : Int32), (110 : Int32), (97 : Int32), (116 : Int32), (101 : Int32)] : List Int32), ¬ c < 0 ∧ ¬ (255 : Int32) < c := (own_cS (by decide) (own_cS (by decide) (own_cS (by decide) (own_cS (by decide) (own_cS (by decide) (own_cS (by decide) (own_cS (by decide) (own_cS (by decide) (own_cS (by decide) own_c0)))))))))
  have cdh25 : StrChars.Road.CodA ([(116 : Int32), (101 : Int32), (114 : Int32), (109 : Int32), (105 : Int32), (110 : Int32), (97 : Int32), (116 : Int32), (101 : Int32)] : List Int32) 0 (9 : Int32) ((([(116 : Int32), (101 : Int32), (114 : Int32), (109 : Int32), (105 : Int32), (110 : Int32), (97 : Int32), (116 : Int32), (101 : Int32)] : List Int32).map (fun c => c.toInt8.toInt32)).map Value.int) := (StrChars.Road.codOf (cs := ([(116 : Int32), (101 : Int32), (114 : Int32), (109 : Int32), (105 : Int32), (110 : Int32), (97 : Int32), (116 : Int32), (101 : Int32)] : List Int32)) (n := 9) rfl (fun c hc => (hph24 c hc).2))
  have cdh26 : StrChars.Road.CodA ([(116 : Int32), (101 : Int32), (114 : Int32), (109 : Int32), (105 : Int32), (110 : Int32), (97 : Int32), (116 : Int32), (101 : Int32), (100 : Int32)] : List Int32) 0 (10 : Int32) ((([(116 : Int32), (101 : Int32), (114 : Int32), (109 : Int32), (105 : Int32), (110 : Int32), (97 : Int32), (116 : Int32), (101 : Int32), (100 : Int32)] : List Int32).map (fun c => c.toInt8.toInt32)).map Value.int) := (StrChars.Road.codOf (cs := ([(116 : Int32), (101 : Int32), (114 : Int32), (109 : Int32), (105 : Int32), (110 : Int32), (97 : Int32), (116 : Int32), (101 : Int32), (100 : Int32)] : List Int32)) (n := 10) rfl (fun c hc => (hph13 c hc).2))
  obtain ⟨cq27, kq27, q27a, q27b, q27c⟩ := isOf hZ e23 (Es_TERMINATE.ext Old5.2)
  obtain ⟨_, _, ⟨T27, L27, k27, n27⟩, -, X27, ⟨Lc27, hQ27, l27, y27, z27⟩, st27⟩ := X23.virtualBack hx (y := (⟨"java/lang/String", "equals", "(Ljava/lang/Object;)Z"⟩ : MethodName)) (z := (⟨"java/lang/String", "equals", "(Ljava/lang/Object;)Z"⟩ : MethodName)) hown (mvT hZ (hw _ (List.mem_of_getElem? (i := 56) rfl))) (mvT hZ (hw _ (List.mem_of_getElem? (i := 57) rfl))) (notFace_of_selects (args := #[]) (mvT hZ (hw _ (List.mem_of_getElem? (i := 59) rfl)))) (mvT hZ (hw _ (List.mem_of_getElem? (i := 59) rfl))) (mvT hZ (hw _ (List.mem_of_getElem? (i := 58) rfl))) (by decide) (StrChars.Road.eqW (W := 0) hZ hws_wordsEq (kI := 4) (hw _ (List.mem_of_getElem? (i := 5) rfl)) (Es_TERMINATE.ext Old5.2) (Fv_TERMINATE.ext Old5.2) (Fc_TERMINATE.ext Old5.2) (V_TERMINATE.ext Old5.2) cdh25 (own_up _ hph24) (Nat.le_of_ble_eq_true rfl) Eh9 Fh10 Fh11 Vh12 cdh26 (own_up _ hph13) (Nat.le_of_ble_eq_true rfl) (O_CS.ext Old5.2) P_CS (by decide) (by decide)) q27a q27c (g := (mkF m 25 #[.val (.ref a1), .val (.ref b2_1), .val (.int (4 : Int32)), .val (.int (2 : Int32)), .val (.ref k_TERMINATE)] [(.ref a1), (.ref s_TERMINATE)])) rfl (by rw [hml]; rfl) (Steps.refl _) (argsL := [(.ref a1)]) (rest := []) (lenOf own_pd2 rfl) rfl (by show 2 * 0 + _ ≤ _; exact Nat.le_of_eq rfl) (hb hby own_d_prog_13_method_5_25) (fun _ _ => ⟨rfl, e23, (by decide : 1 + 0 ≤ _), (by decide : 4 + 0 ≤ _)⟩)
  dsimp only [Pt.U, Pt.locs, Pt.cells, Pt.slots] at X27 l27 y27 z27 st27 hQ27
  subst y27 z27
  obtain ⟨hcase, rfl, e27⟩ := hQ27
  have hv27 : _ = some (Value.int 0) := hcase.elim (fun q => absurd q.2 ((fun q => absurd (congrArg List.length q) (by decide)) : ¬ (([(116 : Int32), (101 : Int32), (114 : Int32), (109 : Int32), (105 : Int32), (110 : Int32), (97 : Int32), (116 : Int32), (101 : Int32)] : List Int32) = ([(116 : Int32), (101 : Int32), (114 : Int32), (109 : Int32), (105 : Int32), (110 : Int32), (97 : Int32), (116 : Int32), (101 : Int32), (100 : Int32)] : List Int32)))) (fun q => q.1)
  subst hv27
  have N27 : Fr n0 L27 := by rw [l27]; exact Fr.app N21 (Fr.nil n0)
  obtain ⟨cl28, Ar28, qc28, Sz28, Ng28, Hs28, Gs28⟩ := id f1_1
  have hin28 : ¬ ((3 : Int32) < 0 ∨ cl28.slots.size ≤ ((3 : Int32)).toNatClampNeg) := inb_of Sz28 ⟨(by decide), (by decide)⟩
  have hat28 : cl28.slots[((3 : Int32)).toNatClampNeg]? = some (.ref k_TERMINATED) := Has.at Hs28 hin28 rfl
  obtain ⟨T29, X29, e29, st29⟩ := getF X27 hx hZ hown (host := "") (Or.inl (hw _ (List.mem_of_getElem? (i := 54) rfl))) Via.refl e27 (Fs_TERMINATED.ext Old5.2) (g := (mkF m 21 #[.val (.ref a1), .val (.ref b2_1), .val (.int (4 : Int32)), .val (.int (3 : Int32)), .val (.ref k_TERMINATED)] [(.ref k_TERMINATED)])) rfl rfl (hb hby own_d_prog_13_method_5_21)
  have cdh30 : StrChars.Road.CodA ([(116 : Int32), (101 : Int32), (114 : Int32), (109 : Int32), (105 : Int32), (110 : Int32), (97 : Int32), (116 : Int32), (101 : Int32), (100 : Int32)] : List Int32) 0 (10 : Int32) ((([(116 : Int32), (101 : Int32), (114 : Int32), (109 : Int32), (105 : Int32), (110 : Int32), (97 : Int32), (116 : Int32), (101 : Int32), (100 : Int32)] : List Int32).map (fun c => c.toInt8.toInt32)).map Value.int) := (StrChars.Road.codOf (cs := ([(116 : Int32), (101 : Int32), (114 : Int32), (109 : Int32), (105 : Int32), (110 : Int32), (97 : Int32), (116 : Int32), (101 : Int32), (100 : Int32)] : List Int32)) (n := 10) rfl (fun c hc => (hph13 c hc).2))
  have cdh31 : StrChars.Road.CodA ([(116 : Int32), (101 : Int32), (114 : Int32), (109 : Int32), (105 : Int32), (110 : Int32), (97 : Int32), (116 : Int32), (101 : Int32), (100 : Int32)] : List Int32) 0 (10 : Int32) ((([(116 : Int32), (101 : Int32), (114 : Int32), (109 : Int32), (105 : Int32), (110 : Int32), (97 : Int32), (116 : Int32), (101 : Int32), (100 : Int32)] : List Int32).map (fun c => c.toInt8.toInt32)).map Value.int) := (StrChars.Road.codOf (cs := ([(116 : Int32), (101 : Int32), (114 : Int32), (109 : Int32), (105 : Int32), (110 : Int32), (97 : Int32), (116 : Int32), (101 : Int32), (100 : Int32)] : List Int32)) (n := 10) rfl (fun c hc => (hph13 c hc).2))
  obtain ⟨cq32, kq32, q32a, q32b, q32c⟩ := isOf hZ e29 (Es_TERMINATED.ext Old5.2)
  obtain ⟨_, _, ⟨T32, L32, k32, n32⟩, -, X32, ⟨Lc32, hQ32, l32, y32, z32⟩, st32⟩ := X29.virtualBack hx (y := (⟨"java/lang/String", "equals", "(Ljava/lang/Object;)Z"⟩ : MethodName)) (z := (⟨"java/lang/String", "equals", "(Ljava/lang/Object;)Z"⟩ : MethodName)) hown (mvT hZ (hw _ (List.mem_of_getElem? (i := 56) rfl))) (mvT hZ (hw _ (List.mem_of_getElem? (i := 57) rfl))) (notFace_of_selects (args := #[]) (mvT hZ (hw _ (List.mem_of_getElem? (i := 59) rfl)))) (mvT hZ (hw _ (List.mem_of_getElem? (i := 59) rfl))) (mvT hZ (hw _ (List.mem_of_getElem? (i := 58) rfl))) (by decide) (StrChars.Road.eqW (W := 0) hZ hws_wordsEq (kI := 4) (hw _ (List.mem_of_getElem? (i := 5) rfl)) (Es_TERMINATED.ext Old5.2) (Fv_TERMINATED.ext Old5.2) (Fc_TERMINATED.ext Old5.2) (V_TERMINATED.ext Old5.2) cdh30 (own_up _ hph13) (Nat.le_of_ble_eq_true rfl) Eh9 Fh10 Fh11 Vh12 cdh31 (own_up _ hph13) (Nat.le_of_ble_eq_true rfl) (O_CS.ext Old5.2) P_CS (by decide) (by decide)) q32a q32c (g := (mkF m 25 #[.val (.ref a1), .val (.ref b2_1), .val (.int (4 : Int32)), .val (.int (3 : Int32)), .val (.ref k_TERMINATED)] [(.ref a1), (.ref s_TERMINATED)])) rfl (by rw [hml]; rfl) (Steps.refl _) (argsL := [(.ref a1)]) (rest := []) (lenOf own_pd2 rfl) rfl (by show 2 * 0 + _ ≤ _; exact Nat.le_of_eq rfl) (hb hby own_d_prog_13_method_5_25) (fun _ _ => ⟨rfl, e29, (by decide : 1 + 0 ≤ _), (by decide : 4 + 0 ≤ _)⟩)
  dsimp only [Pt.U, Pt.locs, Pt.cells, Pt.slots] at X32 l32 y32 z32 st32 hQ32
  subst y32 z32
  obtain ⟨hcase, rfl, e32⟩ := hQ32
  have hv32 : _ = some (Value.int 1) := hcase.elim (fun q => q.1) (fun q => absurd (rfl : ([(116 : Int32), (101 : Int32), (114 : Int32), (109 : Int32), (105 : Int32), (110 : Int32), (97 : Int32), (116 : Int32), (101 : Int32), (100 : Int32)] : List Int32) = ([(116 : Int32), (101 : Int32), (114 : Int32), (109 : Int32), (105 : Int32), (110 : Int32), (97 : Int32), (116 : Int32), (101 : Int32), (100 : Int32)] : List Int32)) q.2)
  subst hv32
  have N32 : Fr n0 L32 := by rw [l32]; exact Fr.app N27 (Fr.nil n0)
  obtain ⟨fs, hr, hrun, hended, hW, hsame⟩ := X32.leave (v := some (.ref k_TERMINATED)) (fun h => by rw [Bd.returns] at h; cases h)
  refine ⟨_, _, pre0 _ ?_, hrun, hended, _, _, rfl, ?_, ⟨_, rfl⟩, hW, hsame.mono (by decide) (by decide)⟩
  · show Steps p.tables e below (s₁.setTop (mkF m 0 #[.val (.ref a1), .unset, .unset, .unset, .unset] [])) _
    refine st1 _ ?_
    show Steps p.tables e below (T1.setTop (mkF m 3 #[.val (.ref a1), .unset, .unset, .unset, .unset] [(.ref b2_1)])) _
    refine XS.astoreN X1.here hx rfl (hb hby own_d_prog_13_method_5_3) rfl rfl (l' := #[.val (.ref a1), .val (.ref b2_1), .unset, .unset, .unset]) rfl ?_
    show Steps p.tables e below (T1.setTop (mkF m 4 #[.val (.ref a1), .val (.ref b2_1), .unset, .unset, .unset] [])) _
    refine XS.aloadN X1.here hx rfl (hb hby own_d_prog_13_method_5_4) rfl rfl ?_
    show Steps p.tables e below (T1.setTop (mkF m 5 #[.val (.ref a1), .val (.ref b2_1), .unset, .unset, .unset] [(.ref b2_1)])) _
    refine X1.arraylength hx Ar3.1 (State.isArrayOf_alike hZ.alike Ar3.2.1) (g := (mkF m 5 #[.val (.ref a1), .val (.ref b2_1), .unset, .unset, .unset] [(.ref b2_1)])) rfl rfl (hb hby own_d_prog_13_method_5_5) _ ?_
    rw [len_of Sz3 Ng3]
    show Steps p.tables e below (T1.setTop (mkF m 6 #[.val (.ref a1), .val (.ref b2_1), .unset, .unset, .unset] [(.int (4 : Int32))])) _
    refine XS.istoreN X1.here hx rfl (hb hby own_d_prog_13_method_5_6) rfl (l' := #[.val (.ref a1), .val (.ref b2_1), .val (.int (4 : Int32)), .unset, .unset]) rfl ?_
    show Steps p.tables e below (T1.setTop (mkF m 7 #[.val (.ref a1), .val (.ref b2_1), .val (.int (4 : Int32)), .unset, .unset] [])) _
    refine XS.iconst X1.here hx rfl (hb hby own_d_prog_13_method_5_7) ?_
    show Steps p.tables e below (T1.setTop (mkF m 8 #[.val (.ref a1), .val (.ref b2_1), .val (.int (4 : Int32)), .unset, .unset] [(.int (0 : Int32))])) _
    refine XS.istoreN X1.here hx rfl (hb hby own_d_prog_13_method_5_8) rfl (l' := #[.val (.ref a1), .val (.ref b2_1), .val (.int (4 : Int32)), .val (.int (0 : Int32)), .unset]) rfl ?_
    show Steps p.tables e below (T1.setTop (mkF m 9 #[.val (.ref a1), .val (.ref b2_1), .val (.int (4 : Int32)), .val (.int (0 : Int32)), .unset] [])) _
    refine XS.iloadN X1.here hx rfl (hb hby own_d_prog_13_method_5_9) rfl ?_
    show Steps p.tables e below (T1.setTop (mkF m 10 #[.val (.ref a1), .val (.ref b2_1), .val (.int (4 : Int32)), .val (.int (0 : Int32)), .unset] [(.int (0 : Int32))])) _
    refine XS.iloadN X1.here hx rfl (hb hby own_d_prog_13_method_5_10) rfl ?_
    show Steps p.tables e below (T1.setTop (mkF m 11 #[.val (.ref a1), .val (.ref b2_1), .val (.int (4 : Int32)), .val (.int (0 : Int32)), .unset] [(.int (4 : Int32)), (.int (0 : Int32))])) _
    refine XS.icmpNo X1.here hx rfl (hb hby own_d_prog_13_method_5_11) rfl (tlt (by decide : (0 : Int32) < (4 : Int32))).2.1 ?_
    show Steps p.tables e below (T1.setTop (mkF m 14 #[.val (.ref a1), .val (.ref b2_1), .val (.int (4 : Int32)), .val (.int (0 : Int32)), .unset] [])) _
    refine XS.aloadN X1.here hx rfl (hb hby own_d_prog_13_method_5_14) rfl rfl ?_
    show Steps p.tables e below (T1.setTop (mkF m 15 #[.val (.ref a1), .val (.ref b2_1), .val (.int (4 : Int32)), .val (.int (0 : Int32)), .unset] [(.ref b2_1)])) _
    refine XS.iloadN X1.here hx rfl (hb hby own_d_prog_13_method_5_15) rfl ?_
    show Steps p.tables e below (T1.setTop (mkF m 16 #[.val (.ref a1), .val (.ref b2_1), .val (.int (4 : Int32)), .val (.int (0 : Int32)), .unset] [(.int (0 : Int32)), (.ref b2_1)])) _
    refine X1.aaload hx (j := (0 : Int32)) (v := (.ref k_RUNNING)) Ar4.1 (State.isArrayOf_alike hZ.alike Ar4.2.1) rfl Ar4.2.2 hin4 hat4 (g := (mkF m 16 #[.val (.ref a1), .val (.ref b2_1), .val (.int (4 : Int32)), .val (.int (0 : Int32)), .unset] [(.int (0 : Int32)), (.ref b2_1)])) rfl rfl (hb hby own_d_prog_13_method_5_16) _ ?_
    show Steps p.tables e below (T1.setTop (mkF m 17 #[.val (.ref a1), .val (.ref b2_1), .val (.int (4 : Int32)), .val (.int (0 : Int32)), .unset] [(.ref k_RUNNING)])) _
    refine XS.astore X1.here hx rfl (hb hby own_d_prog_13_method_5_17) rfl rfl (l' := #[.val (.ref a1), .val (.ref b2_1), .val (.int (4 : Int32)), .val (.int (0 : Int32)), .val (.ref k_RUNNING)]) rfl ?_
    show Steps p.tables e below (T1.setTop (mkF m 19 #[.val (.ref a1), .val (.ref b2_1), .val (.int (4 : Int32)), .val (.int (0 : Int32)), .val (.ref k_RUNNING)] [])) _
    refine XS.aload X1.here hx rfl (hb hby own_d_prog_13_method_5_19) rfl rfl ?_
    show Steps p.tables e below (T1.setTop (mkF m 21 #[.val (.ref a1), .val (.ref b2_1), .val (.int (4 : Int32)), .val (.int (0 : Int32)), .val (.ref k_RUNNING)] [(.ref k_RUNNING)])) _
    refine st6 _ ?_
    show Steps p.tables e below (T6.setTop (mkF m 24 #[.val (.ref a1), .val (.ref b2_1), .val (.int (4 : Int32)), .val (.int (0 : Int32)), .val (.ref k_RUNNING)] [(.ref s_RUNNING)])) _
    refine XS.aloadN X6.here hx rfl (hb hby own_d_prog_13_method_5_24) rfl rfl ?_
    show Steps p.tables e below (T6.setTop (mkF m 25 #[.val (.ref a1), .val (.ref b2_1), .val (.int (4 : Int32)), .val (.int (0 : Int32)), .val (.ref k_RUNNING)] [(.ref a1), (.ref s_RUNNING)])) _
    refine st15.trans ?_
    show Steps p.tables e below (T15.setTop (mkF m 28 #[.val (.ref a1), .val (.ref b2_1), .val (.int (4 : Int32)), .val (.int (0 : Int32)), .val (.ref k_RUNNING)] [(.int (0 : Int32))])) _
    refine XS.ifYes X15.here hx rfl (pc0 := 28) (pc' := 34) rfl (hb hby own_d_prog_13_method_5_28) rfl ((if0 _ _).trans (teq (rfl : (0 : Int32) = (0 : Int32))).1) (by decide) (by decide) ?_
    show Steps p.tables e below (T15.setTop (mkF m 34 #[.val (.ref a1), .val (.ref b2_1), .val (.int (4 : Int32)), .val (.int (0 : Int32)), .val (.ref k_RUNNING)] [])) _
    refine XS.iinc X15.here hx rfl (hb hby own_d_prog_13_method_5_34) rfl (l' := #[.val (.ref a1), .val (.ref b2_1), .val (.int (4 : Int32)), .val (.int (1 : Int32)), .val (.ref k_RUNNING)]) rfl ?_
    show Steps p.tables e below (T15.setTop (mkF m 37 #[.val (.ref a1), .val (.ref b2_1), .val (.int (4 : Int32)), .val (.int (1 : Int32)), .val (.ref k_RUNNING)] [])) _
    refine XS.goto X15.here hx rfl (pc0 := 37) (pc' := 9) rfl (hb hby own_d_prog_13_method_5_37) (by decide) (by decide) ?_
    show Steps p.tables e below (T15.setTop (mkF m 9 #[.val (.ref a1), .val (.ref b2_1), .val (.int (4 : Int32)), .val (.int (1 : Int32)), .val (.ref k_RUNNING)] [])) _
    refine XS.iloadN X15.here hx rfl (hb hby own_d_prog_13_method_5_9) rfl ?_
    show Steps p.tables e below (T15.setTop (mkF m 10 #[.val (.ref a1), .val (.ref b2_1), .val (.int (4 : Int32)), .val (.int (1 : Int32)), .val (.ref k_RUNNING)] [(.int (1 : Int32))])) _
    refine XS.iloadN X15.here hx rfl (hb hby own_d_prog_13_method_5_10) rfl ?_
    show Steps p.tables e below (T15.setTop (mkF m 11 #[.val (.ref a1), .val (.ref b2_1), .val (.int (4 : Int32)), .val (.int (1 : Int32)), .val (.ref k_RUNNING)] [(.int (4 : Int32)), (.int (1 : Int32))])) _
    refine XS.icmpNo X15.here hx rfl (hb hby own_d_prog_13_method_5_11) rfl (tlt (by decide : (1 : Int32) < (4 : Int32))).2.1 ?_
    show Steps p.tables e below (T15.setTop (mkF m 14 #[.val (.ref a1), .val (.ref b2_1), .val (.int (4 : Int32)), .val (.int (1 : Int32)), .val (.ref k_RUNNING)] [])) _
    refine XS.aloadN X15.here hx rfl (hb hby own_d_prog_13_method_5_14) rfl rfl ?_
    show Steps p.tables e below (T15.setTop (mkF m 15 #[.val (.ref a1), .val (.ref b2_1), .val (.int (4 : Int32)), .val (.int (1 : Int32)), .val (.ref k_RUNNING)] [(.ref b2_1)])) _
    refine XS.iloadN X15.here hx rfl (hb hby own_d_prog_13_method_5_15) rfl ?_
    show Steps p.tables e below (T15.setTop (mkF m 16 #[.val (.ref a1), .val (.ref b2_1), .val (.int (4 : Int32)), .val (.int (1 : Int32)), .val (.ref k_RUNNING)] [(.int (1 : Int32)), (.ref b2_1)])) _
    refine X15.aaload hx (j := (1 : Int32)) (v := (.ref k_QUIET)) (by rw [e15]; exact Ar16.1) (State.isArrayOf_alike hZ.alike Ar16.2.1) rfl Ar16.2.2 hin16 hat16 (g := (mkF m 16 #[.val (.ref a1), .val (.ref b2_1), .val (.int (4 : Int32)), .val (.int (1 : Int32)), .val (.ref k_RUNNING)] [(.int (1 : Int32)), (.ref b2_1)])) rfl rfl (hb hby own_d_prog_13_method_5_16) _ ?_
    show Steps p.tables e below (T15.setTop (mkF m 17 #[.val (.ref a1), .val (.ref b2_1), .val (.int (4 : Int32)), .val (.int (1 : Int32)), .val (.ref k_RUNNING)] [(.ref k_QUIET)])) _
    refine XS.astore X15.here hx rfl (hb hby own_d_prog_13_method_5_17) rfl rfl (l' := #[.val (.ref a1), .val (.ref b2_1), .val (.int (4 : Int32)), .val (.int (1 : Int32)), .val (.ref k_QUIET)]) rfl ?_
    show Steps p.tables e below (T15.setTop (mkF m 19 #[.val (.ref a1), .val (.ref b2_1), .val (.int (4 : Int32)), .val (.int (1 : Int32)), .val (.ref k_QUIET)] [])) _
    refine XS.aload X15.here hx rfl (hb hby own_d_prog_13_method_5_19) rfl rfl ?_
    show Steps p.tables e below (T15.setTop (mkF m 21 #[.val (.ref a1), .val (.ref b2_1), .val (.int (4 : Int32)), .val (.int (1 : Int32)), .val (.ref k_QUIET)] [(.ref k_QUIET)])) _
    refine st17 _ ?_
    show Steps p.tables e below (T17.setTop (mkF m 24 #[.val (.ref a1), .val (.ref b2_1), .val (.int (4 : Int32)), .val (.int (1 : Int32)), .val (.ref k_QUIET)] [(.ref s_QUIET)])) _
    refine XS.aloadN X17.here hx rfl (hb hby own_d_prog_13_method_5_24) rfl rfl ?_
    show Steps p.tables e below (T17.setTop (mkF m 25 #[.val (.ref a1), .val (.ref b2_1), .val (.int (4 : Int32)), .val (.int (1 : Int32)), .val (.ref k_QUIET)] [(.ref a1), (.ref s_QUIET)])) _
    refine st21.trans ?_
    show Steps p.tables e below (T21.setTop (mkF m 28 #[.val (.ref a1), .val (.ref b2_1), .val (.int (4 : Int32)), .val (.int (1 : Int32)), .val (.ref k_QUIET)] [(.int (0 : Int32))])) _
    refine XS.ifYes X21.here hx rfl (pc0 := 28) (pc' := 34) rfl (hb hby own_d_prog_13_method_5_28) rfl ((if0 _ _).trans (teq (rfl : (0 : Int32) = (0 : Int32))).1) (by decide) (by decide) ?_
    show Steps p.tables e below (T21.setTop (mkF m 34 #[.val (.ref a1), .val (.ref b2_1), .val (.int (4 : Int32)), .val (.int (1 : Int32)), .val (.ref k_QUIET)] [])) _
    refine XS.iinc X21.here hx rfl (hb hby own_d_prog_13_method_5_34) rfl (l' := #[.val (.ref a1), .val (.ref b2_1), .val (.int (4 : Int32)), .val (.int (2 : Int32)), .val (.ref k_QUIET)]) rfl ?_
    show Steps p.tables e below (T21.setTop (mkF m 37 #[.val (.ref a1), .val (.ref b2_1), .val (.int (4 : Int32)), .val (.int (2 : Int32)), .val (.ref k_QUIET)] [])) _
    refine XS.goto X21.here hx rfl (pc0 := 37) (pc' := 9) rfl (hb hby own_d_prog_13_method_5_37) (by decide) (by decide) ?_
    show Steps p.tables e below (T21.setTop (mkF m 9 #[.val (.ref a1), .val (.ref b2_1), .val (.int (4 : Int32)), .val (.int (2 : Int32)), .val (.ref k_QUIET)] [])) _
    refine XS.iloadN X21.here hx rfl (hb hby own_d_prog_13_method_5_9) rfl ?_
    show Steps p.tables e below (T21.setTop (mkF m 10 #[.val (.ref a1), .val (.ref b2_1), .val (.int (4 : Int32)), .val (.int (2 : Int32)), .val (.ref k_QUIET)] [(.int (2 : Int32))])) _
    refine XS.iloadN X21.here hx rfl (hb hby own_d_prog_13_method_5_10) rfl ?_
    show Steps p.tables e below (T21.setTop (mkF m 11 #[.val (.ref a1), .val (.ref b2_1), .val (.int (4 : Int32)), .val (.int (2 : Int32)), .val (.ref k_QUIET)] [(.int (4 : Int32)), (.int (2 : Int32))])) _
    refine XS.icmpNo X21.here hx rfl (hb hby own_d_prog_13_method_5_11) rfl (tlt (by decide : (2 : Int32) < (4 : Int32))).2.1 ?_
    show Steps p.tables e below (T21.setTop (mkF m 14 #[.val (.ref a1), .val (.ref b2_1), .val (.int (4 : Int32)), .val (.int (2 : Int32)), .val (.ref k_QUIET)] [])) _
    refine XS.aloadN X21.here hx rfl (hb hby own_d_prog_13_method_5_14) rfl rfl ?_
    show Steps p.tables e below (T21.setTop (mkF m 15 #[.val (.ref a1), .val (.ref b2_1), .val (.int (4 : Int32)), .val (.int (2 : Int32)), .val (.ref k_QUIET)] [(.ref b2_1)])) _
    refine XS.iloadN X21.here hx rfl (hb hby own_d_prog_13_method_5_15) rfl ?_
    show Steps p.tables e below (T21.setTop (mkF m 16 #[.val (.ref a1), .val (.ref b2_1), .val (.int (4 : Int32)), .val (.int (2 : Int32)), .val (.ref k_QUIET)] [(.int (2 : Int32)), (.ref b2_1)])) _
    refine X21.aaload hx (j := (2 : Int32)) (v := (.ref k_TERMINATE)) (by rw [e21]; exact Ar22.1) (State.isArrayOf_alike hZ.alike Ar22.2.1) rfl Ar22.2.2 hin22 hat22 (g := (mkF m 16 #[.val (.ref a1), .val (.ref b2_1), .val (.int (4 : Int32)), .val (.int (2 : Int32)), .val (.ref k_QUIET)] [(.int (2 : Int32)), (.ref b2_1)])) rfl rfl (hb hby own_d_prog_13_method_5_16) _ ?_
    show Steps p.tables e below (T21.setTop (mkF m 17 #[.val (.ref a1), .val (.ref b2_1), .val (.int (4 : Int32)), .val (.int (2 : Int32)), .val (.ref k_QUIET)] [(.ref k_TERMINATE)])) _
    refine XS.astore X21.here hx rfl (hb hby own_d_prog_13_method_5_17) rfl rfl (l' := #[.val (.ref a1), .val (.ref b2_1), .val (.int (4 : Int32)), .val (.int (2 : Int32)), .val (.ref k_TERMINATE)]) rfl ?_
    show Steps p.tables e below (T21.setTop (mkF m 19 #[.val (.ref a1), .val (.ref b2_1), .val (.int (4 : Int32)), .val (.int (2 : Int32)), .val (.ref k_TERMINATE)] [])) _
    refine XS.aload X21.here hx rfl (hb hby own_d_prog_13_method_5_19) rfl rfl ?_
    show Steps p.tables e below (T21.setTop (mkF m 21 #[.val (.ref a1), .val (.ref b2_1), .val (.int (4 : Int32)), .val (.int (2 : Int32)), .val (.ref k_TERMINATE)] [(.ref k_TERMINATE)])) _
    refine st23 _ ?_
    show Steps p.tables e below (T23.setTop (mkF m 24 #[.val (.ref a1), .val (.ref b2_1), .val (.int (4 : Int32)), .val (.int (2 : Int32)), .val (.ref k_TERMINATE)] [(.ref s_TERMINATE)])) _
    refine XS.aloadN X23.here hx rfl (hb hby own_d_prog_13_method_5_24) rfl rfl ?_
    show Steps p.tables e below (T23.setTop (mkF m 25 #[.val (.ref a1), .val (.ref b2_1), .val (.int (4 : Int32)), .val (.int (2 : Int32)), .val (.ref k_TERMINATE)] [(.ref a1), (.ref s_TERMINATE)])) _
    refine st27.trans ?_
    show Steps p.tables e below (T27.setTop (mkF m 28 #[.val (.ref a1), .val (.ref b2_1), .val (.int (4 : Int32)), .val (.int (2 : Int32)), .val (.ref k_TERMINATE)] [(.int (0 : Int32))])) _
    refine XS.ifYes X27.here hx rfl (pc0 := 28) (pc' := 34) rfl (hb hby own_d_prog_13_method_5_28) rfl ((if0 _ _).trans (teq (rfl : (0 : Int32) = (0 : Int32))).1) (by decide) (by decide) ?_
    show Steps p.tables e below (T27.setTop (mkF m 34 #[.val (.ref a1), .val (.ref b2_1), .val (.int (4 : Int32)), .val (.int (2 : Int32)), .val (.ref k_TERMINATE)] [])) _
    refine XS.iinc X27.here hx rfl (hb hby own_d_prog_13_method_5_34) rfl (l' := #[.val (.ref a1), .val (.ref b2_1), .val (.int (4 : Int32)), .val (.int (3 : Int32)), .val (.ref k_TERMINATE)]) rfl ?_
    show Steps p.tables e below (T27.setTop (mkF m 37 #[.val (.ref a1), .val (.ref b2_1), .val (.int (4 : Int32)), .val (.int (3 : Int32)), .val (.ref k_TERMINATE)] [])) _
    refine XS.goto X27.here hx rfl (pc0 := 37) (pc' := 9) rfl (hb hby own_d_prog_13_method_5_37) (by decide) (by decide) ?_
    show Steps p.tables e below (T27.setTop (mkF m 9 #[.val (.ref a1), .val (.ref b2_1), .val (.int (4 : Int32)), .val (.int (3 : Int32)), .val (.ref k_TERMINATE)] [])) _
    refine XS.iloadN X27.here hx rfl (hb hby own_d_prog_13_method_5_9) rfl ?_
    show Steps p.tables e below (T27.setTop (mkF m 10 #[.val (.ref a1), .val (.ref b2_1), .val (.int (4 : Int32)), .val (.int (3 : Int32)), .val (.ref k_TERMINATE)] [(.int (3 : Int32))])) _
    refine XS.iloadN X27.here hx rfl (hb hby own_d_prog_13_method_5_10) rfl ?_
    show Steps p.tables e below (T27.setTop (mkF m 11 #[.val (.ref a1), .val (.ref b2_1), .val (.int (4 : Int32)), .val (.int (3 : Int32)), .val (.ref k_TERMINATE)] [(.int (4 : Int32)), (.int (3 : Int32))])) _
    refine XS.icmpNo X27.here hx rfl (hb hby own_d_prog_13_method_5_11) rfl (tlt (by decide : (3 : Int32) < (4 : Int32))).2.1 ?_
    show Steps p.tables e below (T27.setTop (mkF m 14 #[.val (.ref a1), .val (.ref b2_1), .val (.int (4 : Int32)), .val (.int (3 : Int32)), .val (.ref k_TERMINATE)] [])) _
    refine XS.aloadN X27.here hx rfl (hb hby own_d_prog_13_method_5_14) rfl rfl ?_
    show Steps p.tables e below (T27.setTop (mkF m 15 #[.val (.ref a1), .val (.ref b2_1), .val (.int (4 : Int32)), .val (.int (3 : Int32)), .val (.ref k_TERMINATE)] [(.ref b2_1)])) _
    refine XS.iloadN X27.here hx rfl (hb hby own_d_prog_13_method_5_15) rfl ?_
    show Steps p.tables e below (T27.setTop (mkF m 16 #[.val (.ref a1), .val (.ref b2_1), .val (.int (4 : Int32)), .val (.int (3 : Int32)), .val (.ref k_TERMINATE)] [(.int (3 : Int32)), (.ref b2_1)])) _
    refine X27.aaload hx (j := (3 : Int32)) (v := (.ref k_TERMINATED)) (by rw [e27]; exact Ar28.1) (State.isArrayOf_alike hZ.alike Ar28.2.1) rfl Ar28.2.2 hin28 hat28 (g := (mkF m 16 #[.val (.ref a1), .val (.ref b2_1), .val (.int (4 : Int32)), .val (.int (3 : Int32)), .val (.ref k_TERMINATE)] [(.int (3 : Int32)), (.ref b2_1)])) rfl rfl (hb hby own_d_prog_13_method_5_16) _ ?_
    show Steps p.tables e below (T27.setTop (mkF m 17 #[.val (.ref a1), .val (.ref b2_1), .val (.int (4 : Int32)), .val (.int (3 : Int32)), .val (.ref k_TERMINATE)] [(.ref k_TERMINATED)])) _
    refine XS.astore X27.here hx rfl (hb hby own_d_prog_13_method_5_17) rfl rfl (l' := #[.val (.ref a1), .val (.ref b2_1), .val (.int (4 : Int32)), .val (.int (3 : Int32)), .val (.ref k_TERMINATED)]) rfl ?_
    show Steps p.tables e below (T27.setTop (mkF m 19 #[.val (.ref a1), .val (.ref b2_1), .val (.int (4 : Int32)), .val (.int (3 : Int32)), .val (.ref k_TERMINATED)] [])) _
    refine XS.aload X27.here hx rfl (hb hby own_d_prog_13_method_5_19) rfl rfl ?_
    show Steps p.tables e below (T27.setTop (mkF m 21 #[.val (.ref a1), .val (.ref b2_1), .val (.int (4 : Int32)), .val (.int (3 : Int32)), .val (.ref k_TERMINATED)] [(.ref k_TERMINATED)])) _
    refine st29 _ ?_
    show Steps p.tables e below (T29.setTop (mkF m 24 #[.val (.ref a1), .val (.ref b2_1), .val (.int (4 : Int32)), .val (.int (3 : Int32)), .val (.ref k_TERMINATED)] [(.ref s_TERMINATED)])) _
    refine XS.aloadN X29.here hx rfl (hb hby own_d_prog_13_method_5_24) rfl rfl ?_
    show Steps p.tables e below (T29.setTop (mkF m 25 #[.val (.ref a1), .val (.ref b2_1), .val (.int (4 : Int32)), .val (.int (3 : Int32)), .val (.ref k_TERMINATED)] [(.ref a1), (.ref s_TERMINATED)])) _
    refine st32.trans ?_
    show Steps p.tables e below (T32.setTop (mkF m 28 #[.val (.ref a1), .val (.ref b2_1), .val (.int (4 : Int32)), .val (.int (3 : Int32)), .val (.ref k_TERMINATED)] [(.int (1 : Int32))])) _
    refine XS.ifNo X32.here hx rfl (hb hby own_d_prog_13_method_5_28) rfl ((if0 _ _).trans (feq (by decide : ¬ ((1 : Int32) = (0 : Int32)))).1) ?_
    show Steps p.tables e below (T32.setTop (mkF m 31 #[.val (.ref a1), .val (.ref b2_1), .val (.int (4 : Int32)), .val (.int (3 : Int32)), .val (.ref k_TERMINATED)] [])) _
    refine XS.aload X32.here hx rfl (hb hby own_d_prog_13_method_5_31) rfl rfl ?_
    show Steps p.tables e below (T32.setTop (mkF m 33 #[.val (.ref a1), .val (.ref b2_1), .val (.int (4 : Int32)), .val (.int (3 : Int32)), .val (.ref k_TERMINATED)] [(.ref k_TERMINATED)])) _
    jvm_step X32.here [X32.here.top, hx, (hb hby own_d_prog_13_method_5_33), X32.method', Bd.returns, Value.isRef, FieldType.isReference]
    first | (intro acts; rw [hr _ acts rfl rfl rfl]) | rw [hr _ _ rfl rfl rfl]
    exact Steps.refl _
  · show own_Qrm_from_TERMINATED Z G1 k_RUNNING s_RUNNING t_RUNNING kb_RUNNING k_QUIET s_QUIET t_QUIET kb_QUIET k_TERMINATE s_TERMINATE t_TERMINATE kb_TERMINATE k_TERMINATED s_TERMINATED t_TERMINATED kb_TERMINATED k_VALUES kv_VALUES a1 t2 kb3 h0 n0 _ T32.heap _
    rw [e32]
    exact ⟨rfl, N32, Kp2⟩
theorem own_pd3 : parseMethodDescriptor "([C)V" = some ⟨[(.array .char)], none⟩ := by decide +kernel
theorem own_pd4 : parseMethodDescriptor "(Ljava/lang/String;)Lcom/example/dagsverke/dagsverke/job/WorkerState;" = some ⟨[(.object "java/lang/String")], some (.object "com/example/dagsverke/dagsverke/job/WorkerState")⟩ := by decide +kernel
theorem own_pd5 : parseMethodDescriptor "()Ljava/lang/String;" = some ⟨[], some (.object "java/lang/String")⟩ := by decide +kernel
theorem own_pn6 : plainName "com/example/dagsverke/dagsverke/job/WorkerStateFromWireNamePinLaw" = true := by first | (simp [plainName, overriddenIn]; done) | decide +kernel
theorem own_eflaw0 (m : MethodId) (p1 : Int32) : entryFrame m #[(.int p1)] maxLocals = mkF m 0 #[.val (.int p1), .unset, .unset, .unset, .unset, .unset] [] := by first | (simp [entryFrame, mkF, argsToLocals, Value.category, maxLocals]; done) | rfl
set_option maxRecDepth 65536 in
set_option maxHeartbeats 40000000 in
theorem own_law0 (l : Launch) (Z : State) (a0 : Array Value) (hw : ∀ d ∈ tables_1, d.before a0 Z = true) (ws : List Jvm.Cond) (G1 : Int32) (k_RUNNING : Addr) (s_RUNNING : Addr) (t_RUNNING : Addr) (kb_RUNNING : ClassId) (k_QUIET : Addr) (s_QUIET : Addr) (t_QUIET : Addr) (kb_QUIET : ClassId) (k_TERMINATE : Addr) (s_TERMINATE : Addr) (t_TERMINATE : Addr) (kb_TERMINATE : ClassId) (k_TERMINATED : Addr) (s_TERMINATED : Addr) (t_TERMINATED : Addr) (kb_TERMINATED : ClassId) (k_VALUES : Addr) (kv_VALUES : ClassId) (gl : own_Glob Z G1 k_RUNNING s_RUNNING t_RUNNING kb_RUNNING k_QUIET s_QUIET t_QUIET kb_QUIET k_TERMINATE s_TERMINATE t_TERMINATE kb_TERMINATE k_TERMINATED s_TERMINATED t_TERMINATED kb_TERMINATED k_VALUES kv_VALUES) (p1 : Int32) (h0 : Heap) (n0 : Nat) (Z0 : n0 ≤ h0.size) (X00 : Old Z n0 h0) (hk : own_a3 p1 = 0) :
    MetFree l x (head1 (Jvm.Cond.code x code maxLocals ret :: ws) room_1) (fun a U => a = #[(.int p1)] ∧ Z.Warmed39 U.vm ∧ U.heap = h0) (fun _ _ _ _ _ => True) (fun _ U o U' => ∃ v L, o = .returned v ∧ own_Qlaw h0 n0 v U'.heap L ∧ FrameEnd U o U' L room_1.cells room_1.slots) := by
  refine MetFree.of_bodySF (plainFor_of_name own_pn6) hisR ?_
  intro p e s m args below meth c s₁ Bd hml0 hP hK
  obtain ⟨rfl, hZ, hh⟩ := hP
  obtain ⟨O_CS, P_CS, O_RUNNING, E_RUNNING, Fs_RUNNING, Es_RUNNING, Fc_RUNNING, Fv_RUNNING, V_RUNNING, O_QUIET, E_QUIET, Fs_QUIET, Es_QUIET, Fc_QUIET, Fv_QUIET, V_QUIET, O_TERMINATE, E_TERMINATE, Fs_TERMINATE, Es_TERMINATE, Fc_TERMINATE, Fv_TERMINATE, V_TERMINATE, O_TERMINATED, E_TERMINATED, Fs_TERMINATED, Es_TERMINATED, Fc_TERMINATED, Fv_TERMINATED, V_TERMINATED, O_VALUES, E_VALUES, V_VALUES⟩ := id gl
  have hx := Bd.exec
  have hby := Bd.bytes
  have hml : c.maxLocals = 6 := hml0
  have hown : s.vm.findClass "com/example/dagsverke/dagsverke/job/WorkerStateFromWireNamePinLaw" = some m.cls := findClass_of_methodNamed Bd.named
  have hnm := (name_of_methodNamed Bd.named Bd.method).1
  have X0 : Stand p l e room_1 s m #[(.int p1)] below meth c s₁ [] 0 0 := Stand.of_body Bd
  have e0 : s₁.heap = h0 := by rw [← hh, Bd.state]; rfl
  have N0 := Fr.nil n0
  have pre0 : ∀ t, Steps p.tables e below (s₁.setTop (mkF m 0 #[.val (.int p1), .unset, .unset, .unset, .unset, .unset] [])) t → Steps p.tables e below (s₁.setTop (entryFrame m #[(.int p1)] maxLocals)) t := fun t k => castTop (own_eflaw0 m p1) k
  obtain ⟨T1, h1, k1, X1, e1, E1, A1, st1⟩ := newP X0 hx hZ (hw _ (List.mem_of_getElem? (i := 0) rfl)) e0 (g := (mkF m 10 #[.val (.int p1), .val (.int (0 : Int32)), .unset, .unset, .unset, .unset] [(.int (7 : Int32))])) rfl (hb hby at_10) rfl (by decide) (cap := 7) (by decide) (by decide) (by decide) (by decide)
  obtain ⟨b1, g1⟩ : ∃ z, z = h0.size := ⟨_, rfl⟩
  rw [← g1] at A1 st1
  have Kp2 : Keep h0 h1 [] := (Keep.refl h0 []).ext E1
  have Vh3 : Arv Z h1 b1 k1 .char (7 : Int32) [(.int (0 : Int32)), (.int (0 : Int32)), (.int (0 : Int32)), (.int (0 : Int32)), (.int (0 : Int32)), (.int (0 : Int32)), (.int (0 : Int32))] (.int (0 : Int32)) := (Arv.new A1 (by decide)).pad (pad_rep [] (.int (0 : Int32)) 7)
  obtain ⟨cl4, Ar4, qc4, Sz4, Ng4, Hs4, Gs4⟩ := id Vh3
  have hin4 : ¬ ((0 : Int32) < 0 ∨ cl4.slots.size ≤ ((0 : Int32)).toNatClampNeg) := inb_of Sz4 ⟨(by decide), (by decide)⟩
  obtain ⟨T5, h5, X5, e5, W5, st5⟩ := stC X1 hx hZ e1 Ar4 (j := (0 : Int32)) hin4 (g := (mkF m 16 #[.val (.int p1), .val (.int (0 : Int32)), .unset, .unset, .unset, .unset] [(.int (114 : Int32)), (.int (0 : Int32)), (.ref b1), (.ref b1)])) rfl rfl (hb hby at_16)
  have Kp6 : Keep h0 h5 [] := Kp2.wr W5 (Or.inr (Nat.le_trans (Keep.refl h0 []).1 (Nat.le_of_eq g1.symm)))
  have gh7 : n0 ≤ b1 := Nat.le_trans Z0 (Nat.le_of_eq g1.symm)
  obtain ⟨Lp5, X5, N5⟩ := own_pack X5 (Fr.snoc X5 N0 gh7)
  have Vh8 : Arv Z h5 b1 k1 .char (7 : Int32) [(.int (114 : Int32)), (.int (0 : Int32)), (.int (0 : Int32)), (.int (0 : Int32)), (.int (0 : Int32)), (.int (0 : Int32)), (.int (0 : Int32))] (.int (0 : Int32)) := (Arv.set Ar4 qc4 Sz4 Ng4 Hs4 Gs4 rfl W5 0 rfl (Nat.le_of_ble_eq_true rfl))
  obtain ⟨cl9, Ar9, qc9, Sz9, Ng9, Hs9, Gs9⟩ := id Vh8
  have hin9 : ¬ ((1 : Int32) < 0 ∨ cl9.slots.size ≤ ((1 : Int32)).toNatClampNeg) := inb_of Sz9 ⟨(by decide), (by decide)⟩
  obtain ⟨T10, h10, X10, e10, W10, st10⟩ := stC X5 hx hZ e5 Ar9 (j := (1 : Int32)) hin9 (g := (mkF m 21 #[.val (.int p1), .val (.int (0 : Int32)), .unset, .unset, .unset, .unset] [(.int (117 : Int32)), (.int (1 : Int32)), (.ref b1), (.ref b1)])) rfl rfl (hb hby at_21)
  have Kp11 : Keep h0 h10 [] := Kp6.wr W10 (Or.inr (Nat.le_trans (Keep.refl h0 []).1 (Nat.le_of_eq g1.symm)))
  obtain ⟨Lp10, X10, N10⟩ := own_pack X10 (Fr.snoc X10 N5 gh7)
  have Vh12 : Arv Z h10 b1 k1 .char (7 : Int32) [(.int (114 : Int32)), (.int (117 : Int32)), (.int (0 : Int32)), (.int (0 : Int32)), (.int (0 : Int32)), (.int (0 : Int32)), (.int (0 : Int32))] (.int (0 : Int32)) := (Arv.set Ar9 qc9 Sz9 Ng9 Hs9 Gs9 rfl W10 1 rfl (Nat.le_of_ble_eq_true rfl))
  obtain ⟨cl13, Ar13, qc13, Sz13, Ng13, Hs13, Gs13⟩ := id Vh12
  have hin13 : ¬ ((2 : Int32) < 0 ∨ cl13.slots.size ≤ ((2 : Int32)).toNatClampNeg) := inb_of Sz13 ⟨(by decide), (by decide)⟩
  obtain ⟨T14, h14, X14, e14, W14, st14⟩ := stC X10 hx hZ e10 Ar13 (j := (2 : Int32)) hin13 (g := (mkF m 26 #[.val (.int p1), .val (.int (0 : Int32)), .unset, .unset, .unset, .unset] [(.int (110 : Int32)), (.int (2 : Int32)), (.ref b1), (.ref b1)])) rfl rfl (hb hby at_26)
  have Kp15 : Keep h0 h14 [] := Kp11.wr W14 (Or.inr (Nat.le_trans (Keep.refl h0 []).1 (Nat.le_of_eq g1.symm)))
  obtain ⟨Lp14, X14, N14⟩ := own_pack X14 (Fr.snoc X14 N10 gh7)
  have Vh16 : Arv Z h14 b1 k1 .char (7 : Int32) [(.int (114 : Int32)), (.int (117 : Int32)), (.int (110 : Int32)), (.int (0 : Int32)), (.int (0 : Int32)), (.int (0 : Int32)), (.int (0 : Int32))] (.int (0 : Int32)) := (Arv.set Ar13 qc13 Sz13 Ng13 Hs13 Gs13 rfl W14 2 rfl (Nat.le_of_ble_eq_true rfl))
  obtain ⟨cl17, Ar17, qc17, Sz17, Ng17, Hs17, Gs17⟩ := id Vh16
  have hin17 : ¬ ((3 : Int32) < 0 ∨ cl17.slots.size ≤ ((3 : Int32)).toNatClampNeg) := inb_of Sz17 ⟨(by decide), (by decide)⟩
  obtain ⟨T18, h18, X18, e18, W18, st18⟩ := stC X14 hx hZ e14 Ar17 (j := (3 : Int32)) hin17 (g := (mkF m 31 #[.val (.int p1), .val (.int (0 : Int32)), .unset, .unset, .unset, .unset] [(.int (110 : Int32)), (.int (3 : Int32)), (.ref b1), (.ref b1)])) rfl rfl (hb hby at_31)
  have Kp19 : Keep h0 h18 [] := Kp15.wr W18 (Or.inr (Nat.le_trans (Keep.refl h0 []).1 (Nat.le_of_eq g1.symm)))
  obtain ⟨Lp18, X18, N18⟩ := own_pack X18 (Fr.snoc X18 N14 gh7)
  have Vh20 : Arv Z h18 b1 k1 .char (7 : Int32) [(.int (114 : Int32)), (.int (117 : Int32)), (.int (110 : Int32)), (.int (110 : Int32)), (.int (0 : Int32)), (.int (0 : Int32)), (.int (0 : Int32))] (.int (0 : Int32)) := (Arv.set Ar17 qc17 Sz17 Ng17 Hs17 Gs17 rfl W18 3 rfl (Nat.le_of_ble_eq_true rfl))
  obtain ⟨cl21, Ar21, qc21, Sz21, Ng21, Hs21, Gs21⟩ := id Vh20
  have hin21 : ¬ ((4 : Int32) < 0 ∨ cl21.slots.size ≤ ((4 : Int32)).toNatClampNeg) := inb_of Sz21 ⟨(by decide), (by decide)⟩
  obtain ⟨T22, h22, X22, e22, W22, st22⟩ := stC X18 hx hZ e18 Ar21 (j := (4 : Int32)) hin21 (g := (mkF m 36 #[.val (.int p1), .val (.int (0 : Int32)), .unset, .unset, .unset, .unset] [(.int (105 : Int32)), (.int (4 : Int32)), (.ref b1), (.ref b1)])) rfl rfl (hb hby at_36)
  have Kp23 : Keep h0 h22 [] := Kp19.wr W22 (Or.inr (Nat.le_trans (Keep.refl h0 []).1 (Nat.le_of_eq g1.symm)))
  obtain ⟨Lp22, X22, N22⟩ := own_pack X22 (Fr.snoc X22 N18 gh7)
  have Vh24 : Arv Z h22 b1 k1 .char (7 : Int32) [(.int (114 : Int32)), (.int (117 : Int32)), (.int (110 : Int32)), (.int (110 : Int32)), (.int (105 : Int32)), (.int (0 : Int32)), (.int (0 : Int32))] (.int (0 : Int32)) := (Arv.set Ar21 qc21 Sz21 Ng21 Hs21 Gs21 rfl W22 4 rfl (Nat.le_of_ble_eq_true rfl))
  obtain ⟨cl25, Ar25, qc25, Sz25, Ng25, Hs25, Gs25⟩ := id Vh24
  have hin25 : ¬ ((5 : Int32) < 0 ∨ cl25.slots.size ≤ ((5 : Int32)).toNatClampNeg) := inb_of Sz25 ⟨(by decide), (by decide)⟩
  obtain ⟨T26, h26, X26, e26, W26, st26⟩ := stC X22 hx hZ e22 Ar25 (j := (5 : Int32)) hin25 (g := (mkF m 41 #[.val (.int p1), .val (.int (0 : Int32)), .unset, .unset, .unset, .unset] [(.int (110 : Int32)), (.int (5 : Int32)), (.ref b1), (.ref b1)])) rfl rfl (hb hby at_41)
  have Kp27 : Keep h0 h26 [] := Kp23.wr W26 (Or.inr (Nat.le_trans (Keep.refl h0 []).1 (Nat.le_of_eq g1.symm)))
  obtain ⟨Lp26, X26, N26⟩ := own_pack X26 (Fr.snoc X26 N22 gh7)
  have Vh28 : Arv Z h26 b1 k1 .char (7 : Int32) [(.int (114 : Int32)), (.int (117 : Int32)), (.int (110 : Int32)), (.int (110 : Int32)), (.int (105 : Int32)), (.int (110 : Int32)), (.int (0 : Int32))] (.int (0 : Int32)) := (Arv.set Ar25 qc25 Sz25 Ng25 Hs25 Gs25 rfl W26 5 rfl (Nat.le_of_ble_eq_true rfl))
  obtain ⟨cl29, Ar29, qc29, Sz29, Ng29, Hs29, Gs29⟩ := id Vh28
  have hin29 : ¬ ((6 : Int32) < 0 ∨ cl29.slots.size ≤ ((6 : Int32)).toNatClampNeg) := inb_of Sz29 ⟨(by decide), (by decide)⟩
  obtain ⟨T30, h30, X30, e30, W30, st30⟩ := stC X26 hx hZ e26 Ar29 (j := (6 : Int32)) hin29 (g := (mkF m 47 #[.val (.int p1), .val (.int (0 : Int32)), .unset, .unset, .unset, .unset] [(.int (103 : Int32)), (.int (6 : Int32)), (.ref b1), (.ref b1)])) rfl rfl (hb hby at_47)
  have Kp31 : Keep h0 h30 [] := Kp27.wr W30 (Or.inr (Nat.le_trans (Keep.refl h0 []).1 (Nat.le_of_eq g1.symm)))
  obtain ⟨Lp30, X30, N30⟩ := own_pack X30 (Fr.snoc X30 N26 gh7)
  have Vh32 : Arv Z h30 b1 k1 .char (7 : Int32) [(.int (114 : Int32)), (.int (117 : Int32)), (.int (110 : Int32)), (.int (110 : Int32)), (.int (105 : Int32)), (.int (110 : Int32)), (.int (103 : Int32))] (.int (0 : Int32)) := (Arv.set Ar29 qc29 Sz29 Ng29 Hs29 Gs29 rfl W30 6 rfl (Nat.le_of_ble_eq_true rfl))
  have Old33 : Old Z n0 h1 := X00.ext E1
  have Old34 : Old Z n0 h5 := Old33.wr W5 gh7
  have Old35 : Old Z n0 h10 := Old34.wr W10 gh7
  have Old36 : Old Z n0 h14 := Old35.wr W14 gh7
  have Old37 : Old Z n0 h18 := Old36.wr W18 gh7
  have Old38 : Old Z n0 h22 := Old37.wr W22 gh7
  have Old39 : Old Z n0 h26 := Old38.wr W26 gh7
  have Old40 : Old Z n0 h30 := Old39.wr W30 gh7
  obtain ⟨T41, X41, e41, st41⟩ := getS2 X30 hx hZ hown (host := "") (Or.inl (hw _ (List.mem_of_getElem? (i := 1) rfl))) Via.refl e30 (O_RUNNING.ext Old40.2) (g := (mkF m 49 #[.val (.int p1), .val (.int (0 : Int32)), .val (.ref b1), .unset, .unset, .unset] [])) rfl (hb hby at_49)
  obtain ⟨T42, h42, X42, e42, E42, A42, D42, U42, st42⟩ := newO X41 hx hZ hown (hw _ (List.mem_of_getElem? (i := 4) rfl)) (hw _ (List.mem_of_getElem? (i := 5) rfl)) (hw _ (List.mem_of_getElem? (i := 6) rfl)) e41 (g := (mkF m 225 #[.val (.int p1), .val (.int (0 : Int32)), .val (.ref b1), .val (.ref k_RUNNING), .unset, .unset] [])) rfl (hb hby at_225) (by decide) (by decide)
  obtain ⟨b42, g42⟩ : ∃ z, z = h30.size := ⟨_, rfl⟩
  rw [← g42] at A42 D42 U42 st42
  have Kp43 : Keep h0 h42 [] := Kp31.ext E42
  have Fh44 : Fld Z h42 b42 "java/lang/String" "value" "[B" .null := (D42 (Or.inr (hw _ (List.mem_of_getElem? (i := 32) rfl))) (ty := (.array .byte)) (by decide))
  have Fh45 : Fld Z h42 b42 "java/lang/String" "coder" "B" (.int (0 : Int32)) := (D42 (Or.inr (hw _ (List.mem_of_getElem? (i := 30) rfl))) (ty := .byte) (by decide))
  have Vh46 : Arv Z h42 b1 k1 .char (7 : Int32) [(.int (114 : Int32)), (.int (117 : Int32)), (.int (110 : Int32)), (.int (110 : Int32)), (.int (105 : Int32)), (.int (110 : Int32)), (.int (103 : Int32))] (.int (0 : Int32)) := (Vh32.ext E42)
  have hph47 : ∀ c ∈ ([(114 : Int32), (117 : Int32), (110 : Int32), (110 : Int32), (105 : Int32), (110 : Int32), (103 : Int32)] : List Int32), ¬ c < 0 ∧ ¬ (255 : Int32) < c := (own_cS (by decide) (own_cS (by decide) (own_cS (by decide) (own_cS (by decide) (own_cS (by decide) (own_cS (by decide) (own_cS (by decide) own_c0)))))))
  have hws_words : ∀ d ∈ StrChars.Road.words, d.before a0 Z = true := fun d hd => hw d (own_hws_words d hd)
  have Zh48 : n0 ≤ h42.size := (Nat.le_trans Z0 Kp43.1)
  have gh49 : n0 ≤ b42 := Nat.le_trans (Nat.le_trans Z0 Kp31.1) (Nat.le_of_eq g42.symm)
  have Old50 : Old Z n0 h42 := Old40.ext E42
  obtain ⟨_, _, ⟨T51, L51, k51, n51⟩, -, X51, ⟨Lc51, hQ51, l51, y51, z51⟩, st51⟩ := X42.specialBack hx (y := (⟨"java/lang/String", "<init>", "([C)V"⟩ : MethodName)) rfl hown (mvT hZ (hw _ (List.mem_of_getElem? (i := 7) rfl))) (mvT hZ (hw _ (List.mem_of_getElem? (i := 8) rfl))) (mvT hZ (hw _ (List.mem_of_getElem? (i := 9) rfl))) (by decide) (StrChars.Road.backV (W := 1) hZ hws_words (kI := 4) (hw _ (List.mem_of_getElem? (i := 5) rfl)) (cs := ([(114 : Int32), (117 : Int32), (110 : Int32), (110 : Int32), (105 : Int32), (110 : Int32), (103 : Int32)] : List Int32)) (bs := ([(114 : Int32), (117 : Int32), (110 : Int32), (110 : Int32), (105 : Int32), (110 : Int32), (103 : Int32)] : List Int32).map (fun c => c.toInt8.toInt32)) (n := 7) gh49 Zh48 A42 Fh44 Fh45 Vh46 (O_CS.ext Old50.2) P_CS rfl rfl (by decide) (by decide) hph47 rfl (by decide) (by decide)) (g := (mkF m 230 #[.val (.int p1), .val (.int (0 : Int32)), .val (.ref b1), .val (.ref k_RUNNING), .unset, .unset] [(.ref b1), (.ref b42), (.ref b42)])) rfl (by rw [hml]; rfl) (Steps.refl _) (a := b42) (argsL := [(.ref b1)]) (rest := [(.ref b42)]) (lenOf own_pd3 rfl) rfl (by show 2 * 0 + _ ≤ _; exact Nat.le_of_eq rfl) (hb hby at_230) (fun _ _ => ⟨rfl, e42, (by decide : 2 + 1 ≤ _), (by decide : 11 + 7 ≤ _)⟩)
  dsimp only [Pt.U, Pt.locs, Pt.cells, Pt.slots] at X51 l51 y51 z51 st51 hQ51
  subst y51 z51
  obtain ⟨rfl, Nq51, Kq51, Eq51, Cq51, t51, kb51, gt51, szt51, nt51, Vq51, Bq51⟩ := hQ51
  have N51 : Fr n0 L51 := by rw [l51]; exact Fr.app N30 Nq51
  have Kp52 : Keep h0 T51.heap [] := Kp43.trans Kq51 (allS (Or.inr (Nat.le_trans Kp31.1 (Nat.le_of_eq g42.symm))) all0)
  have Old53 : Old Z n0 T51.heap := Old50.keep Kq51 (allS gh49 all0)
  obtain ⟨_, _, ⟨T54, L54, k54, n54⟩, -, X54, ⟨Lc54, hQ54, l54, y54, z54⟩, st54⟩ := Jvm.LawKit.callS X51 hx (y := (⟨"com/example/dagsverke/dagsverke/job/WorkerState", "fromWireName", "(Ljava/lang/String;)Lcom/example/dagsverke/dagsverke/job/WorkerState;"⟩ : MethodName)) hown (mvT hZ (hw _ (List.mem_of_getElem? (i := 33) rfl))) (mvT hZ (hw _ (List.mem_of_getElem? (i := 34) rfl))) (mvT hZ (hw _ (List.mem_of_getElem? (i := 2) rfl))) (mvT hZ (hw _ (List.mem_of_getElem? (i := 35) rfl))) (by decide) (backOf (W := 0) (own_rm_from_RUNNING l Z a0 hw [] G1 k_RUNNING s_RUNNING t_RUNNING kb_RUNNING k_QUIET s_QUIET t_QUIET kb_QUIET k_TERMINATE s_TERMINATE t_TERMINATE kb_TERMINATE k_TERMINATED s_TERMINATED t_TERMINATED kb_TERMINATED k_VALUES kv_VALUES gl b42 t51 (kb51) T51.heap n0 (Nat.le_trans Z0 Kp52.1) Old53 Eq51 Vq51 Cq51 Bq51) hZ (hw _ (List.mem_of_getElem? (i := 35) rfl)) (hw _ (List.mem_of_getElem? (i := 2) rfl)) (by decide) (by decide)) (g := (mkF m 237 #[.val (.int p1), .val (.int (0 : Int32)), .val (.ref b1), .val (.ref k_RUNNING), .val (.ref b42), .unset] [(.ref b42)])) rfl (by rw [hml]; rfl) (argsL := [(.ref b42)]) (rest := []) (lenOf own_pd4 rfl) rfl (by show 2 * 0 + _ ≤ _; exact Nat.le_of_eq rfl) (hb hby at_237) (fun _ _ => ⟨rfl, rfl, (by decide : 3 + 1 ≤ _), (by decide : 18 + 4 ≤ _)⟩)
  dsimp only [Pt.U, Pt.locs, Pt.cells, Pt.slots] at X54 l54 y54 z54 st54 hQ54
  subst y54 z54
  obtain ⟨rfl, Nq54, Kq54⟩ := hQ54
  have N54 : Fr n0 L54 := by rw [l54]; exact Fr.app N51 Nq54
  have Kp55 : Keep h0 T54.heap [] := Kp52.trans Kq54 all0
  have Old56 : Old Z n0 T54.heap := Old53.keep Kq54 all0
  obtain ⟨cq57, kq57, q57a, q57b, q57c⟩ := isOf hZ rfl (E_RUNNING.ext Old56.2)
  obtain ⟨_, _, ⟨T57, L57, k57, n57⟩, -, X57, ⟨Lc57, hQ57, l57, y57, z57⟩, st57⟩ := X54.virtualBack hx (y := (⟨"com/example/dagsverke/dagsverke/job/WorkerState", "wireName", "()Ljava/lang/String;"⟩ : MethodName)) (z := (⟨"com/example/dagsverke/dagsverke/job/WorkerState", "wireName", "()Ljava/lang/String;"⟩ : MethodName)) hown (mvT hZ (hw _ (List.mem_of_getElem? (i := 66) rfl))) (mvT hZ (hw _ (List.mem_of_getElem? (i := 67) rfl))) (notFace_of_selects (args := #[]) (mvT hZ (hw _ (List.mem_of_getElem? (i := 69) rfl)))) (mvT hZ (hw _ (List.mem_of_getElem? (i := 69) rfl))) (mvT hZ (hw _ (List.mem_of_getElem? (i := 68) rfl))) (by decide) (backOf (W := 0) (own_rm_wn l Z a0 hw [] G1 k_RUNNING s_RUNNING t_RUNNING kb_RUNNING k_QUIET s_QUIET t_QUIET kb_QUIET k_TERMINATE s_TERMINATE t_TERMINATE kb_TERMINATE k_TERMINATED s_TERMINATED t_TERMINATED kb_TERMINATED k_VALUES kv_VALUES gl k_RUNNING s_RUNNING T54.heap n0 (Nat.le_trans Z0 Kp55.1) (Fs_RUNNING.ext Old56.2)) hZ (hw _ (List.mem_of_getElem? (i := 70) rfl)) (hw _ (List.mem_of_getElem? (i := 2) rfl)) (by decide) (by decide)) q57a q57c (g := (mkF m 250 #[.val (.int p1), .val (.int (0 : Int32)), .val (.ref b1), .val (.ref k_RUNNING), .val (.ref b42), .val (.ref k_RUNNING)] [(.ref k_RUNNING)])) rfl (by rw [hml]; rfl) (Steps.refl _) (argsL := []) (rest := []) (lenOf own_pd5 rfl) rfl (by show 2 * 0 + _ ≤ _; exact Nat.le_of_eq rfl) (hb hby at_250) (fun _ _ => ⟨rfl, rfl, (by decide : 4 + 0 ≤ _), (by decide : 22 + 0 ≤ _)⟩)
  dsimp only [Pt.U, Pt.locs, Pt.cells, Pt.slots] at X57 l57 y57 z57 st57 hQ57
  subst y57 z57
  obtain ⟨rfl, Nq57, e57⟩ := hQ57
  have N57 : Fr n0 L57 := by rw [l57]; exact Fr.app N54 Nq57
  have cdh58 : StrChars.Road.CodA ([(114 : Int32), (117 : Int32), (110 : Int32), (110 : Int32), (105 : Int32), (110 : Int32), (103 : Int32)] : List Int32) 0 (7 : Int32) ((([(114 : Int32), (117 : Int32), (110 : Int32), (110 : Int32), (105 : Int32), (110 : Int32), (103 : Int32)] : List Int32).map (fun c => c.toInt8.toInt32)).map Value.int) := (StrChars.Road.codOf (cs := ([(114 : Int32), (117 : Int32), (110 : Int32), (110 : Int32), (105 : Int32), (110 : Int32), (103 : Int32)] : List Int32)) (n := 7) rfl (fun c hc => (hph47 c hc).2))
  have hws_wordsEq : ∀ d ∈ StrChars.Road.wordsEq, d.before a0 Z = true := fun d hd => hw d (own_hws_wordsEq d hd)
  have Eh59 : Exa Z T54.heap b42 "java/lang/String" := (Eq51.keep Kq54)
  have Fh60 : Fld Z T54.heap b42 "java/lang/String" "value" "[B" (.ref t51) := (Vq51.keep Kq54 nin0)
  have Fh61 : Fld Z T54.heap b42 "java/lang/String" "coder" "B" (.int (0 : Int32)) := (Cq51.keep Kq54 nin0)
  have Vh62 : Arv Z T54.heap t51 kb51 .byte (7 : Int32) ((([(114 : Int32), (117 : Int32), (110 : Int32), (110 : Int32), (105 : Int32), (110 : Int32), (103 : Int32)] : List Int32).map (fun c => c.toInt8.toInt32)).map Value.int) (.int (0 : Int32)) := (Bq51.keep Kq54 nin0)
  have cdh63 : StrChars.Road.CodA ([(114 : Int32), (117 : Int32), (110 : Int32), (110 : Int32), (105 : Int32), (110 : Int32), (103 : Int32)] : List Int32) 0 (7 : Int32) ((([(114 : Int32), (117 : Int32), (110 : Int32), (110 : Int32), (105 : Int32), (110 : Int32), (103 : Int32)] : List Int32).map (fun c => c.toInt8.toInt32)).map Value.int) := (StrChars.Road.codOf (cs := ([(114 : Int32), (117 : Int32), (110 : Int32), (110 : Int32), (105 : Int32), (110 : Int32), (103 : Int32)] : List Int32)) (n := 7) rfl (fun c hc => (hph47 c hc).2))
  obtain ⟨cq64, kq64, q64a, q64b, q64c⟩ := isOf hZ e57 (Es_RUNNING.ext Old56.2)
  obtain ⟨_, _, ⟨T64, L64, k64, n64⟩, -, X64, ⟨Lc64, hQ64, l64, y64, z64⟩, st64⟩ := X57.virtualBack hx (y := (⟨"java/lang/String", "equals", "(Ljava/lang/Object;)Z"⟩ : MethodName)) (z := (⟨"java/lang/String", "equals", "(Ljava/lang/Object;)Z"⟩ : MethodName)) hown (mvT hZ (hw _ (List.mem_of_getElem? (i := 71) rfl))) (mvT hZ (hw _ (List.mem_of_getElem? (i := 57) rfl))) (notFace_of_selects (args := #[]) (mvT hZ (hw _ (List.mem_of_getElem? (i := 59) rfl)))) (mvT hZ (hw _ (List.mem_of_getElem? (i := 59) rfl))) (mvT hZ (hw _ (List.mem_of_getElem? (i := 58) rfl))) (by decide) (StrChars.Road.eqW (W := 0) hZ hws_wordsEq (kI := 4) (hw _ (List.mem_of_getElem? (i := 5) rfl)) (Es_RUNNING.ext Old56.2) (Fv_RUNNING.ext Old56.2) (Fc_RUNNING.ext Old56.2) (V_RUNNING.ext Old56.2) cdh58 (own_up _ hph47) (Nat.le_of_ble_eq_true rfl) Eh59 Fh60 Fh61 Vh62 cdh63 (own_up _ hph47) (Nat.le_of_ble_eq_true rfl) (O_CS.ext Old56.2) P_CS (by decide) (by decide)) q64a q64c (g := (mkF m 255 #[.val (.int p1), .val (.int (0 : Int32)), .val (.ref b1), .val (.ref k_RUNNING), .val (.ref b42), .val (.ref k_RUNNING)] [(.ref b42), (.ref s_RUNNING)])) rfl (by rw [hml]; rfl) (Steps.refl _) (argsL := [(.ref b42)]) (rest := []) (lenOf own_pd2 rfl) rfl (by show 2 * 0 + _ ≤ _; exact Nat.le_of_eq rfl) (hb hby at_255) (fun _ _ => ⟨rfl, e57, (by decide : 4 + 0 ≤ _), (by decide : 22 + 0 ≤ _)⟩)
  dsimp only [Pt.U, Pt.locs, Pt.cells, Pt.slots] at X64 l64 y64 z64 st64 hQ64
  subst y64 z64
  obtain ⟨hcase, rfl, e64⟩ := hQ64
  have hv64 : _ = some (Value.int 1) := hcase.elim (fun q => q.1) (fun q => absurd (rfl : ([(114 : Int32), (117 : Int32), (110 : Int32), (110 : Int32), (105 : Int32), (110 : Int32), (103 : Int32)] : List Int32) = ([(114 : Int32), (117 : Int32), (110 : Int32), (110 : Int32), (105 : Int32), (110 : Int32), (103 : Int32)] : List Int32)) q.2)
  subst hv64
  have N64 : Fr n0 L64 := by rw [l64]; exact Fr.app N57 (Fr.nil n0)
  obtain ⟨fs, hr, hrun, hended, hW, hsame⟩ := X64.leave (v := some (.int (1 : Int32))) (fun h => by rw [Bd.returns] at h; cases h)
  refine ⟨_, _, pre0 _ ?_, hrun, hended, _, _, rfl, ?_, ⟨_, rfl⟩, hW, hsame.mono (by decide) (by decide)⟩
  · show Steps p.tables e below (s₁.setTop (mkF m 0 #[.val (.int p1), .unset, .unset, .unset, .unset, .unset] [])) _
    refine XS.iloadN X0.here hx rfl (hb hby at_0) rfl ?_
    show Steps p.tables e below (s₁.setTop (mkF m 1 #[.val (.int p1), .unset, .unset, .unset, .unset, .unset] [(.int p1)])) _
    refine XS.iconst X0.here hx rfl (hb hby at_1) ?_
    show Steps p.tables e below (s₁.setTop (mkF m 2 #[.val (.int p1), .unset, .unset, .unset, .unset, .unset] [(.int (3 : Int32)), (.int p1)])) _
    refine XS.iand X0.here hx rfl (hb hby at_2) rfl ?_
    show Steps p.tables e below (s₁.setTop (mkF m 3 #[.val (.int p1), .unset, .unset, .unset, .unset, .unset] [(.int (own_a3 p1))])) _
    rw [hk]
    show Steps p.tables e below (s₁.setTop (mkF m 3 #[.val (.int p1), .unset, .unset, .unset, .unset, .unset] [(.int (0 : Int32))])) _
    refine XS.istoreN X0.here hx rfl (hb hby at_3) rfl (l' := #[.val (.int p1), .val (.int (0 : Int32)), .unset, .unset, .unset, .unset]) rfl ?_
    show Steps p.tables e below (s₁.setTop (mkF m 4 #[.val (.int p1), .val (.int (0 : Int32)), .unset, .unset, .unset, .unset] [])) _
    refine XS.iloadN X0.here hx rfl (hb hby at_4) rfl ?_
    show Steps p.tables e below (s₁.setTop (mkF m 5 #[.val (.int p1), .val (.int (0 : Int32)), .unset, .unset, .unset, .unset] [(.int (0 : Int32))])) _
    refine XS.ifNo X0.here hx rfl (hb hby at_5) rfl ((if0 _ _).trans (teq (rfl : (0 : Int32) = (0 : Int32))).2) ?_
    show Steps p.tables e below (s₁.setTop (mkF m 8 #[.val (.int p1), .val (.int (0 : Int32)), .unset, .unset, .unset, .unset] [])) _
    refine XS.bipush X0.here hx rfl (hb hby at_8) ?_
    show Steps p.tables e below (s₁.setTop (mkF m 10 #[.val (.int p1), .val (.int (0 : Int32)), .unset, .unset, .unset, .unset] [(.int (7 : Int32))])) _
    refine st1 _ ?_
    show Steps p.tables e below (T1.setTop (mkF m 12 #[.val (.int p1), .val (.int (0 : Int32)), .unset, .unset, .unset, .unset] [(.ref b1)])) _
    refine XS.dup X1.here hx rfl (hb hby at_12) rfl rfl ?_
    show Steps p.tables e below (T1.setTop (mkF m 13 #[.val (.int p1), .val (.int (0 : Int32)), .unset, .unset, .unset, .unset] [(.ref b1), (.ref b1)])) _
    refine XS.iconst X1.here hx rfl (hb hby at_13) ?_
    show Steps p.tables e below (T1.setTop (mkF m 14 #[.val (.int p1), .val (.int (0 : Int32)), .unset, .unset, .unset, .unset] [(.int (0 : Int32)), (.ref b1), (.ref b1)])) _
    refine XS.bipush X1.here hx rfl (hb hby at_14) ?_
    show Steps p.tables e below (T1.setTop (mkF m 16 #[.val (.int p1), .val (.int (0 : Int32)), .unset, .unset, .unset, .unset] [(.int (114 : Int32)), (.int (0 : Int32)), (.ref b1), (.ref b1)])) _
    refine st5 _ ?_
    show Steps p.tables e below (T5.setTop (mkF m 17 #[.val (.int p1), .val (.int (0 : Int32)), .unset, .unset, .unset, .unset] [(.ref b1)])) _
    refine XS.dup X5.here hx rfl (hb hby at_17) rfl rfl ?_
    show Steps p.tables e below (T5.setTop (mkF m 18 #[.val (.int p1), .val (.int (0 : Int32)), .unset, .unset, .unset, .unset] [(.ref b1), (.ref b1)])) _
    refine XS.iconst X5.here hx rfl (hb hby at_18) ?_
    show Steps p.tables e below (T5.setTop (mkF m 19 #[.val (.int p1), .val (.int (0 : Int32)), .unset, .unset, .unset, .unset] [(.int (1 : Int32)), (.ref b1), (.ref b1)])) _
    refine XS.bipush X5.here hx rfl (hb hby at_19) ?_
    show Steps p.tables e below (T5.setTop (mkF m 21 #[.val (.int p1), .val (.int (0 : Int32)), .unset, .unset, .unset, .unset] [(.int (117 : Int32)), (.int (1 : Int32)), (.ref b1), (.ref b1)])) _
    refine st10 _ ?_
    show Steps p.tables e below (T10.setTop (mkF m 22 #[.val (.int p1), .val (.int (0 : Int32)), .unset, .unset, .unset, .unset] [(.ref b1)])) _
    refine XS.dup X10.here hx rfl (hb hby at_22) rfl rfl ?_
    show Steps p.tables e below (T10.setTop (mkF m 23 #[.val (.int p1), .val (.int (0 : Int32)), .unset, .unset, .unset, .unset] [(.ref b1), (.ref b1)])) _
    refine XS.iconst X10.here hx rfl (hb hby at_23) ?_
    show Steps p.tables e below (T10.setTop (mkF m 24 #[.val (.int p1), .val (.int (0 : Int32)), .unset, .unset, .unset, .unset] [(.int (2 : Int32)), (.ref b1), (.ref b1)])) _
    refine XS.bipush X10.here hx rfl (hb hby at_24) ?_
    show Steps p.tables e below (T10.setTop (mkF m 26 #[.val (.int p1), .val (.int (0 : Int32)), .unset, .unset, .unset, .unset] [(.int (110 : Int32)), (.int (2 : Int32)), (.ref b1), (.ref b1)])) _
    refine st14 _ ?_
    show Steps p.tables e below (T14.setTop (mkF m 27 #[.val (.int p1), .val (.int (0 : Int32)), .unset, .unset, .unset, .unset] [(.ref b1)])) _
    refine XS.dup X14.here hx rfl (hb hby at_27) rfl rfl ?_
    show Steps p.tables e below (T14.setTop (mkF m 28 #[.val (.int p1), .val (.int (0 : Int32)), .unset, .unset, .unset, .unset] [(.ref b1), (.ref b1)])) _
    refine XS.iconst X14.here hx rfl (hb hby at_28) ?_
    show Steps p.tables e below (T14.setTop (mkF m 29 #[.val (.int p1), .val (.int (0 : Int32)), .unset, .unset, .unset, .unset] [(.int (3 : Int32)), (.ref b1), (.ref b1)])) _
    refine XS.bipush X14.here hx rfl (hb hby at_29) ?_
    show Steps p.tables e below (T14.setTop (mkF m 31 #[.val (.int p1), .val (.int (0 : Int32)), .unset, .unset, .unset, .unset] [(.int (110 : Int32)), (.int (3 : Int32)), (.ref b1), (.ref b1)])) _
    refine st18 _ ?_
    show Steps p.tables e below (T18.setTop (mkF m 32 #[.val (.int p1), .val (.int (0 : Int32)), .unset, .unset, .unset, .unset] [(.ref b1)])) _
    refine XS.dup X18.here hx rfl (hb hby at_32) rfl rfl ?_
    show Steps p.tables e below (T18.setTop (mkF m 33 #[.val (.int p1), .val (.int (0 : Int32)), .unset, .unset, .unset, .unset] [(.ref b1), (.ref b1)])) _
    refine XS.iconst X18.here hx rfl (hb hby at_33) ?_
    show Steps p.tables e below (T18.setTop (mkF m 34 #[.val (.int p1), .val (.int (0 : Int32)), .unset, .unset, .unset, .unset] [(.int (4 : Int32)), (.ref b1), (.ref b1)])) _
    refine XS.bipush X18.here hx rfl (hb hby at_34) ?_
    show Steps p.tables e below (T18.setTop (mkF m 36 #[.val (.int p1), .val (.int (0 : Int32)), .unset, .unset, .unset, .unset] [(.int (105 : Int32)), (.int (4 : Int32)), (.ref b1), (.ref b1)])) _
    refine st22 _ ?_
    show Steps p.tables e below (T22.setTop (mkF m 37 #[.val (.int p1), .val (.int (0 : Int32)), .unset, .unset, .unset, .unset] [(.ref b1)])) _
    refine XS.dup X22.here hx rfl (hb hby at_37) rfl rfl ?_
    show Steps p.tables e below (T22.setTop (mkF m 38 #[.val (.int p1), .val (.int (0 : Int32)), .unset, .unset, .unset, .unset] [(.ref b1), (.ref b1)])) _
    refine XS.iconst X22.here hx rfl (hb hby at_38) ?_
    show Steps p.tables e below (T22.setTop (mkF m 39 #[.val (.int p1), .val (.int (0 : Int32)), .unset, .unset, .unset, .unset] [(.int (5 : Int32)), (.ref b1), (.ref b1)])) _
    refine XS.bipush X22.here hx rfl (hb hby at_39) ?_
    show Steps p.tables e below (T22.setTop (mkF m 41 #[.val (.int p1), .val (.int (0 : Int32)), .unset, .unset, .unset, .unset] [(.int (110 : Int32)), (.int (5 : Int32)), (.ref b1), (.ref b1)])) _
    refine st26 _ ?_
    show Steps p.tables e below (T26.setTop (mkF m 42 #[.val (.int p1), .val (.int (0 : Int32)), .unset, .unset, .unset, .unset] [(.ref b1)])) _
    refine XS.dup X26.here hx rfl (hb hby at_42) rfl rfl ?_
    show Steps p.tables e below (T26.setTop (mkF m 43 #[.val (.int p1), .val (.int (0 : Int32)), .unset, .unset, .unset, .unset] [(.ref b1), (.ref b1)])) _
    refine XS.bipush X26.here hx rfl (hb hby at_43) ?_
    show Steps p.tables e below (T26.setTop (mkF m 45 #[.val (.int p1), .val (.int (0 : Int32)), .unset, .unset, .unset, .unset] [(.int (6 : Int32)), (.ref b1), (.ref b1)])) _
    refine XS.bipush X26.here hx rfl (hb hby at_45) ?_
    show Steps p.tables e below (T26.setTop (mkF m 47 #[.val (.int p1), .val (.int (0 : Int32)), .unset, .unset, .unset, .unset] [(.int (103 : Int32)), (.int (6 : Int32)), (.ref b1), (.ref b1)])) _
    refine st30 _ ?_
    show Steps p.tables e below (T30.setTop (mkF m 48 #[.val (.int p1), .val (.int (0 : Int32)), .unset, .unset, .unset, .unset] [(.ref b1)])) _
    refine XS.astoreN X30.here hx rfl (hb hby at_48) rfl rfl (l' := #[.val (.int p1), .val (.int (0 : Int32)), .val (.ref b1), .unset, .unset, .unset]) rfl ?_
    show Steps p.tables e below (T30.setTop (mkF m 49 #[.val (.int p1), .val (.int (0 : Int32)), .val (.ref b1), .unset, .unset, .unset] [])) _
    refine st41 _ ?_
    show Steps p.tables e below (T41.setTop (mkF m 52 #[.val (.int p1), .val (.int (0 : Int32)), .val (.ref b1), .unset, .unset, .unset] [(.ref k_RUNNING)])) _
    refine XS.astoreN X41.here hx rfl (hb hby at_52) rfl rfl (l' := #[.val (.int p1), .val (.int (0 : Int32)), .val (.ref b1), .val (.ref k_RUNNING), .unset, .unset]) rfl ?_
    show Steps p.tables e below (T41.setTop (mkF m 53 #[.val (.int p1), .val (.int (0 : Int32)), .val (.ref b1), .val (.ref k_RUNNING), .unset, .unset] [])) _
    refine XS.goto X41.here hx rfl (pc0 := 53) (pc' := 225) rfl (hb hby at_53) (by decide) (by decide) ?_
    show Steps p.tables e below (T41.setTop (mkF m 225 #[.val (.int p1), .val (.int (0 : Int32)), .val (.ref b1), .val (.ref k_RUNNING), .unset, .unset] [])) _
    refine st42 _ ?_
    show Steps p.tables e below (T42.setTop (mkF m 228 #[.val (.int p1), .val (.int (0 : Int32)), .val (.ref b1), .val (.ref k_RUNNING), .unset, .unset] [(.ref b42)])) _
    refine XS.dup X42.here hx rfl (hb hby at_228) rfl rfl ?_
    show Steps p.tables e below (T42.setTop (mkF m 229 #[.val (.int p1), .val (.int (0 : Int32)), .val (.ref b1), .val (.ref k_RUNNING), .unset, .unset] [(.ref b42), (.ref b42)])) _
    refine XS.aloadN X42.here hx rfl (hb hby at_229) rfl rfl ?_
    show Steps p.tables e below (T42.setTop (mkF m 230 #[.val (.int p1), .val (.int (0 : Int32)), .val (.ref b1), .val (.ref k_RUNNING), .unset, .unset] [(.ref b1), (.ref b42), (.ref b42)])) _
    refine st51.trans ?_
    show Steps p.tables e below (T51.setTop (mkF m 233 #[.val (.int p1), .val (.int (0 : Int32)), .val (.ref b1), .val (.ref k_RUNNING), .unset, .unset] [(.ref b42)])) _
    refine XS.astore X51.here hx rfl (hb hby at_233) rfl rfl (l' := #[.val (.int p1), .val (.int (0 : Int32)), .val (.ref b1), .val (.ref k_RUNNING), .val (.ref b42), .unset]) rfl ?_
    show Steps p.tables e below (T51.setTop (mkF m 235 #[.val (.int p1), .val (.int (0 : Int32)), .val (.ref b1), .val (.ref k_RUNNING), .val (.ref b42), .unset] [])) _
    refine XS.aload X51.here hx rfl (hb hby at_235) rfl rfl ?_
    show Steps p.tables e below (T51.setTop (mkF m 237 #[.val (.int p1), .val (.int (0 : Int32)), .val (.ref b1), .val (.ref k_RUNNING), .val (.ref b42), .unset] [(.ref b42)])) _
    refine st54 _ ?_
    show Steps p.tables e below (T54.setTop (mkF m 240 #[.val (.int p1), .val (.int (0 : Int32)), .val (.ref b1), .val (.ref k_RUNNING), .val (.ref b42), .unset] [(.ref k_RUNNING)])) _
    refine XS.astore X54.here hx rfl (hb hby at_240) rfl rfl (l' := #[.val (.int p1), .val (.int (0 : Int32)), .val (.ref b1), .val (.ref k_RUNNING), .val (.ref b42), .val (.ref k_RUNNING)]) rfl ?_
    show Steps p.tables e below (T54.setTop (mkF m 242 #[.val (.int p1), .val (.int (0 : Int32)), .val (.ref b1), .val (.ref k_RUNNING), .val (.ref b42), .val (.ref k_RUNNING)] [])) _
    refine XS.aload X54.here hx rfl (hb hby at_242) rfl rfl ?_
    show Steps p.tables e below (T54.setTop (mkF m 244 #[.val (.int p1), .val (.int (0 : Int32)), .val (.ref b1), .val (.ref k_RUNNING), .val (.ref b42), .val (.ref k_RUNNING)] [(.ref k_RUNNING)])) _
    refine XS.aloadN X54.here hx rfl (hb hby at_244) rfl rfl ?_
    show Steps p.tables e below (T54.setTop (mkF m 245 #[.val (.int p1), .val (.int (0 : Int32)), .val (.ref b1), .val (.ref k_RUNNING), .val (.ref b42), .val (.ref k_RUNNING)] [(.ref k_RUNNING), (.ref k_RUNNING)])) _
    refine Jvm.RoadKit.acmp (g := (mkF m 245 #[.val (.int p1), .val (.int (0 : Int32)), .val (.ref b1), .val (.ref k_RUNNING), .val (.ref b42), .val (.ref k_RUNNING)] [(.ref k_RUNNING), (.ref k_RUNNING)])) X54 hx rfl rfl rfl (pc0 := 245) (pc' := 248) (same := true) rfl (hb hby at_245) rfl (decide_eq_true rfl) (by decide) (by decide) ?_
    show Steps p.tables e below (T54.setTop (mkF m 248 #[.val (.int p1), .val (.int (0 : Int32)), .val (.ref b1), .val (.ref k_RUNNING), .val (.ref b42), .val (.ref k_RUNNING)] [])) _
    refine XS.aload X54.here hx rfl (hb hby at_248) rfl rfl ?_
    show Steps p.tables e below (T54.setTop (mkF m 250 #[.val (.int p1), .val (.int (0 : Int32)), .val (.ref b1), .val (.ref k_RUNNING), .val (.ref b42), .val (.ref k_RUNNING)] [(.ref k_RUNNING)])) _
    refine st57.trans ?_
    show Steps p.tables e below (T57.setTop (mkF m 253 #[.val (.int p1), .val (.int (0 : Int32)), .val (.ref b1), .val (.ref k_RUNNING), .val (.ref b42), .val (.ref k_RUNNING)] [(.ref s_RUNNING)])) _
    refine XS.aload X57.here hx rfl (hb hby at_253) rfl rfl ?_
    show Steps p.tables e below (T57.setTop (mkF m 255 #[.val (.int p1), .val (.int (0 : Int32)), .val (.ref b1), .val (.ref k_RUNNING), .val (.ref b42), .val (.ref k_RUNNING)] [(.ref b42), (.ref s_RUNNING)])) _
    refine st64.trans ?_
    show Steps p.tables e below (T64.setTop (mkF m 258 #[.val (.int p1), .val (.int (0 : Int32)), .val (.ref b1), .val (.ref k_RUNNING), .val (.ref b42), .val (.ref k_RUNNING)] [(.int (1 : Int32))])) _
    refine XS.ifNo X64.here hx rfl (hb hby at_258) rfl ((if0 _ _).trans (feq (by decide : ¬ ((1 : Int32) = (0 : Int32)))).1) ?_
    show Steps p.tables e below (T64.setTop (mkF m 261 #[.val (.int p1), .val (.int (0 : Int32)), .val (.ref b1), .val (.ref k_RUNNING), .val (.ref b42), .val (.ref k_RUNNING)] [])) _
    refine XS.iconst X64.here hx rfl (hb hby at_261) ?_
    show Steps p.tables e below (T64.setTop (mkF m 262 #[.val (.int p1), .val (.int (0 : Int32)), .val (.ref b1), .val (.ref k_RUNNING), .val (.ref b42), .val (.ref k_RUNNING)] [(.int (1 : Int32))])) _
    refine XS.goto X64.here hx rfl (pc0 := 262) (pc' := 266) rfl (hb hby at_262) (by decide) (by decide) ?_
    show Steps p.tables e below (T64.setTop (mkF m 266 #[.val (.int p1), .val (.int (0 : Int32)), .val (.ref b1), .val (.ref k_RUNNING), .val (.ref b42), .val (.ref k_RUNNING)] [(.int (1 : Int32))])) _
    exact retN X64 hx (t := .boolean) Bd.returns (by simp) (hb hby at_266) hr
  · show own_Qlaw h0 n0 _ T64.heap _
    exact ⟨rfl, N64⟩
theorem own_eflaw1 (m : MethodId) (p1 : Int32) : entryFrame m #[(.int p1)] maxLocals = mkF m 0 #[.val (.int p1), .unset, .unset, .unset, .unset, .unset] [] := by first | (simp [entryFrame, mkF, argsToLocals, Value.category, maxLocals]; done) | rfl
set_option maxRecDepth 65536 in
set_option maxHeartbeats 40000000 in
theorem own_law1 (l : Launch) (Z : State) (a0 : Array Value) (hw : ∀ d ∈ tables_1, d.before a0 Z = true) (ws : List Jvm.Cond) (G1 : Int32) (k_RUNNING : Addr) (s_RUNNING : Addr) (t_RUNNING : Addr) (kb_RUNNING : ClassId) (k_QUIET : Addr) (s_QUIET : Addr) (t_QUIET : Addr) (kb_QUIET : ClassId) (k_TERMINATE : Addr) (s_TERMINATE : Addr) (t_TERMINATE : Addr) (kb_TERMINATE : ClassId) (k_TERMINATED : Addr) (s_TERMINATED : Addr) (t_TERMINATED : Addr) (kb_TERMINATED : ClassId) (k_VALUES : Addr) (kv_VALUES : ClassId) (gl : own_Glob Z G1 k_RUNNING s_RUNNING t_RUNNING kb_RUNNING k_QUIET s_QUIET t_QUIET kb_QUIET k_TERMINATE s_TERMINATE t_TERMINATE kb_TERMINATE k_TERMINATED s_TERMINATED t_TERMINATED kb_TERMINATED k_VALUES kv_VALUES) (p1 : Int32) (h0 : Heap) (n0 : Nat) (Z0 : n0 ≤ h0.size) (X00 : Old Z n0 h0) (hk : own_a3 p1 = 1) :
    MetFree l x (head1 (Jvm.Cond.code x code maxLocals ret :: ws) room_1) (fun a U => a = #[(.int p1)] ∧ Z.Warmed39 U.vm ∧ U.heap = h0) (fun _ _ _ _ _ => True) (fun _ U o U' => ∃ v L, o = .returned v ∧ own_Qlaw h0 n0 v U'.heap L ∧ FrameEnd U o U' L room_1.cells room_1.slots) := by
  refine MetFree.of_bodySF (plainFor_of_name own_pn6) hisR ?_
  intro p e s m args below meth c s₁ Bd hml0 hP hK
  obtain ⟨rfl, hZ, hh⟩ := hP
  obtain ⟨O_CS, P_CS, O_RUNNING, E_RUNNING, Fs_RUNNING, Es_RUNNING, Fc_RUNNING, Fv_RUNNING, V_RUNNING, O_QUIET, E_QUIET, Fs_QUIET, Es_QUIET, Fc_QUIET, Fv_QUIET, V_QUIET, O_TERMINATE, E_TERMINATE, Fs_TERMINATE, Es_TERMINATE, Fc_TERMINATE, Fv_TERMINATE, V_TERMINATE, O_TERMINATED, E_TERMINATED, Fs_TERMINATED, Es_TERMINATED, Fc_TERMINATED, Fv_TERMINATED, V_TERMINATED, O_VALUES, E_VALUES, V_VALUES⟩ := id gl
  have hx := Bd.exec
  have hby := Bd.bytes
  have hml : c.maxLocals = 6 := hml0
  have hown : s.vm.findClass "com/example/dagsverke/dagsverke/job/WorkerStateFromWireNamePinLaw" = some m.cls := findClass_of_methodNamed Bd.named
  have hnm := (name_of_methodNamed Bd.named Bd.method).1
  have X0 : Stand p l e room_1 s m #[(.int p1)] below meth c s₁ [] 0 0 := Stand.of_body Bd
  have e0 : s₁.heap = h0 := by rw [← hh, Bd.state]; rfl
  have N0 := Fr.nil n0
  have pre0 : ∀ t, Steps p.tables e below (s₁.setTop (mkF m 0 #[.val (.int p1), .unset, .unset, .unset, .unset, .unset] [])) t → Steps p.tables e below (s₁.setTop (entryFrame m #[(.int p1)] maxLocals)) t := fun t k => castTop (own_eflaw1 m p1) k
  obtain ⟨T1, h1, k1, X1, e1, E1, A1, st1⟩ := newP X0 hx hZ (hw _ (List.mem_of_getElem? (i := 0) rfl)) e0 (g := (mkF m 62 #[.val (.int p1), .val (.int (1 : Int32)), .unset, .unset, .unset, .unset] [(.int (5 : Int32))])) rfl (hb hby at_62) rfl (by decide) (cap := 5) (by decide) (by decide) (by decide) (by decide)
  obtain ⟨b1, g1⟩ : ∃ z, z = h0.size := ⟨_, rfl⟩
  rw [← g1] at A1 st1
  have Kp2 : Keep h0 h1 [] := (Keep.refl h0 []).ext E1
  have Vh3 : Arv Z h1 b1 k1 .char (5 : Int32) [(.int (0 : Int32)), (.int (0 : Int32)), (.int (0 : Int32)), (.int (0 : Int32)), (.int (0 : Int32))] (.int (0 : Int32)) := (Arv.new A1 (by decide)).pad (pad_rep [] (.int (0 : Int32)) 5)
  obtain ⟨cl4, Ar4, qc4, Sz4, Ng4, Hs4, Gs4⟩ := id Vh3
  have hin4 : ¬ ((0 : Int32) < 0 ∨ cl4.slots.size ≤ ((0 : Int32)).toNatClampNeg) := inb_of Sz4 ⟨(by decide), (by decide)⟩
  obtain ⟨T5, h5, X5, e5, W5, st5⟩ := stC X1 hx hZ e1 Ar4 (j := (0 : Int32)) hin4 (g := (mkF m 68 #[.val (.int p1), .val (.int (1 : Int32)), .unset, .unset, .unset, .unset] [(.int (113 : Int32)), (.int (0 : Int32)), (.ref b1), (.ref b1)])) rfl rfl (hb hby at_68)
  have Kp6 : Keep h0 h5 [] := Kp2.wr W5 (Or.inr (Nat.le_trans (Keep.refl h0 []).1 (Nat.le_of_eq g1.symm)))
  have gh7 : n0 ≤ b1 := Nat.le_trans Z0 (Nat.le_of_eq g1.symm)
  obtain ⟨Lp5, X5, N5⟩ := own_pack X5 (Fr.snoc X5 N0 gh7)
  have Vh8 : Arv Z h5 b1 k1 .char (5 : Int32) [(.int (113 : Int32)), (.int (0 : Int32)), (.int (0 : Int32)), (.int (0 : Int32)), (.int (0 : Int32))] (.int (0 : Int32)) := (Arv.set Ar4 qc4 Sz4 Ng4 Hs4 Gs4 rfl W5 0 rfl (Nat.le_of_ble_eq_true rfl))
  obtain ⟨cl9, Ar9, qc9, Sz9, Ng9, Hs9, Gs9⟩ := id Vh8
  have hin9 : ¬ ((1 : Int32) < 0 ∨ cl9.slots.size ≤ ((1 : Int32)).toNatClampNeg) := inb_of Sz9 ⟨(by decide), (by decide)⟩
  obtain ⟨T10, h10, X10, e10, W10, st10⟩ := stC X5 hx hZ e5 Ar9 (j := (1 : Int32)) hin9 (g := (mkF m 73 #[.val (.int p1), .val (.int (1 : Int32)), .unset, .unset, .unset, .unset] [(.int (117 : Int32)), (.int (1 : Int32)), (.ref b1), (.ref b1)])) rfl rfl (hb hby at_73)
  have Kp11 : Keep h0 h10 [] := Kp6.wr W10 (Or.inr (Nat.le_trans (Keep.refl h0 []).1 (Nat.le_of_eq g1.symm)))
  obtain ⟨Lp10, X10, N10⟩ := own_pack X10 (Fr.snoc X10 N5 gh7)
  have Vh12 : Arv Z h10 b1 k1 .char (5 : Int32) [(.int (113 : Int32)), (.int (117 : Int32)), (.int (0 : Int32)), (.int (0 : Int32)), (.int (0 : Int32))] (.int (0 : Int32)) := (Arv.set Ar9 qc9 Sz9 Ng9 Hs9 Gs9 rfl W10 1 rfl (Nat.le_of_ble_eq_true rfl))
  obtain ⟨cl13, Ar13, qc13, Sz13, Ng13, Hs13, Gs13⟩ := id Vh12
  have hin13 : ¬ ((2 : Int32) < 0 ∨ cl13.slots.size ≤ ((2 : Int32)).toNatClampNeg) := inb_of Sz13 ⟨(by decide), (by decide)⟩
  obtain ⟨T14, h14, X14, e14, W14, st14⟩ := stC X10 hx hZ e10 Ar13 (j := (2 : Int32)) hin13 (g := (mkF m 78 #[.val (.int p1), .val (.int (1 : Int32)), .unset, .unset, .unset, .unset] [(.int (105 : Int32)), (.int (2 : Int32)), (.ref b1), (.ref b1)])) rfl rfl (hb hby at_78)
  have Kp15 : Keep h0 h14 [] := Kp11.wr W14 (Or.inr (Nat.le_trans (Keep.refl h0 []).1 (Nat.le_of_eq g1.symm)))
  obtain ⟨Lp14, X14, N14⟩ := own_pack X14 (Fr.snoc X14 N10 gh7)
  have Vh16 : Arv Z h14 b1 k1 .char (5 : Int32) [(.int (113 : Int32)), (.int (117 : Int32)), (.int (105 : Int32)), (.int (0 : Int32)), (.int (0 : Int32))] (.int (0 : Int32)) := (Arv.set Ar13 qc13 Sz13 Ng13 Hs13 Gs13 rfl W14 2 rfl (Nat.le_of_ble_eq_true rfl))
  obtain ⟨cl17, Ar17, qc17, Sz17, Ng17, Hs17, Gs17⟩ := id Vh16
  have hin17 : ¬ ((3 : Int32) < 0 ∨ cl17.slots.size ≤ ((3 : Int32)).toNatClampNeg) := inb_of Sz17 ⟨(by decide), (by decide)⟩
  obtain ⟨T18, h18, X18, e18, W18, st18⟩ := stC X14 hx hZ e14 Ar17 (j := (3 : Int32)) hin17 (g := (mkF m 83 #[.val (.int p1), .val (.int (1 : Int32)), .unset, .unset, .unset, .unset] [(.int (101 : Int32)), (.int (3 : Int32)), (.ref b1), (.ref b1)])) rfl rfl (hb hby at_83)
  have Kp19 : Keep h0 h18 [] := Kp15.wr W18 (Or.inr (Nat.le_trans (Keep.refl h0 []).1 (Nat.le_of_eq g1.symm)))
  obtain ⟨Lp18, X18, N18⟩ := own_pack X18 (Fr.snoc X18 N14 gh7)
  have Vh20 : Arv Z h18 b1 k1 .char (5 : Int32) [(.int (113 : Int32)), (.int (117 : Int32)), (.int (105 : Int32)), (.int (101 : Int32)), (.int (0 : Int32))] (.int (0 : Int32)) := (Arv.set Ar17 qc17 Sz17 Ng17 Hs17 Gs17 rfl W18 3 rfl (Nat.le_of_ble_eq_true rfl))
  obtain ⟨cl21, Ar21, qc21, Sz21, Ng21, Hs21, Gs21⟩ := id Vh20
  have hin21 : ¬ ((4 : Int32) < 0 ∨ cl21.slots.size ≤ ((4 : Int32)).toNatClampNeg) := inb_of Sz21 ⟨(by decide), (by decide)⟩
  obtain ⟨T22, h22, X22, e22, W22, st22⟩ := stC X18 hx hZ e18 Ar21 (j := (4 : Int32)) hin21 (g := (mkF m 88 #[.val (.int p1), .val (.int (1 : Int32)), .unset, .unset, .unset, .unset] [(.int (116 : Int32)), (.int (4 : Int32)), (.ref b1), (.ref b1)])) rfl rfl (hb hby at_88)
  have Kp23 : Keep h0 h22 [] := Kp19.wr W22 (Or.inr (Nat.le_trans (Keep.refl h0 []).1 (Nat.le_of_eq g1.symm)))
  obtain ⟨Lp22, X22, N22⟩ := own_pack X22 (Fr.snoc X22 N18 gh7)
  have Vh24 : Arv Z h22 b1 k1 .char (5 : Int32) [(.int (113 : Int32)), (.int (117 : Int32)), (.int (105 : Int32)), (.int (101 : Int32)), (.int (116 : Int32))] (.int (0 : Int32)) := (Arv.set Ar21 qc21 Sz21 Ng21 Hs21 Gs21 rfl W22 4 rfl (Nat.le_of_ble_eq_true rfl))
  have Old25 : Old Z n0 h1 := X00.ext E1
  have Old26 : Old Z n0 h5 := Old25.wr W5 gh7
  have Old27 : Old Z n0 h10 := Old26.wr W10 gh7
  have Old28 : Old Z n0 h14 := Old27.wr W14 gh7
  have Old29 : Old Z n0 h18 := Old28.wr W18 gh7
  have Old30 : Old Z n0 h22 := Old29.wr W22 gh7
  obtain ⟨T31, X31, e31, st31⟩ := getS2 X22 hx hZ hown (host := "") (Or.inl (hw _ (List.mem_of_getElem? (i := 74) rfl))) Via.refl e22 (O_QUIET.ext Old30.2) (g := (mkF m 90 #[.val (.int p1), .val (.int (1 : Int32)), .val (.ref b1), .unset, .unset, .unset] [])) rfl (hb hby at_90)
  obtain ⟨T32, h32, X32, e32, E32, A32, D32, U32, st32⟩ := newO X31 hx hZ hown (hw _ (List.mem_of_getElem? (i := 4) rfl)) (hw _ (List.mem_of_getElem? (i := 5) rfl)) (hw _ (List.mem_of_getElem? (i := 6) rfl)) e31 (g := (mkF m 225 #[.val (.int p1), .val (.int (1 : Int32)), .val (.ref b1), .val (.ref k_QUIET), .unset, .unset] [])) rfl (hb hby at_225) (by decide) (by decide)
  obtain ⟨b32, g32⟩ : ∃ z, z = h22.size := ⟨_, rfl⟩
  rw [← g32] at A32 D32 U32 st32
  have Kp33 : Keep h0 h32 [] := Kp23.ext E32
  have Fh34 : Fld Z h32 b32 "java/lang/String" "value" "[B" .null := (D32 (Or.inr (hw _ (List.mem_of_getElem? (i := 32) rfl))) (ty := (.array .byte)) (by decide))
  have Fh35 : Fld Z h32 b32 "java/lang/String" "coder" "B" (.int (0 : Int32)) := (D32 (Or.inr (hw _ (List.mem_of_getElem? (i := 30) rfl))) (ty := .byte) (by decide))
  have Vh36 : Arv Z h32 b1 k1 .char (5 : Int32) [(.int (113 : Int32)), (.int (117 : Int32)), (.int (105 : Int32)), (.int (101 : Int32)), (.int (116 : Int32))] (.int (0 : Int32)) := (Vh24.ext E32)
  have hph37 : ∀ c ∈ ([(113 : Int32), (117 : Int32), (105 : Int32), (101 : Int32), (116 : Int32)] : List Int32), ¬ c < 0 ∧ ¬ (255 : Int32) < c := (own_cS (by decide) (own_cS (by decide) (own_cS (by decide) (own_cS (by decide) (own_cS (by decide) own_c0)))))
  have hws_words : ∀ d ∈ StrChars.Road.words, d.before a0 Z = true := fun d hd => hw d (own_hws_words d hd)
  have Zh38 : n0 ≤ h32.size := (Nat.le_trans Z0 Kp33.1)
  have gh39 : n0 ≤ b32 := Nat.le_trans (Nat.le_trans Z0 Kp23.1) (Nat.le_of_eq g32.symm)
  have Old40 : Old Z n0 h32 := Old30.ext E32
  obtain ⟨_, _, ⟨T41, L41, k41, n41⟩, -, X41, ⟨Lc41, hQ41, l41, y41, z41⟩, st41⟩ := X32.specialBack hx (y := (⟨"java/lang/String", "<init>", "([C)V"⟩ : MethodName)) rfl hown (mvT hZ (hw _ (List.mem_of_getElem? (i := 7) rfl))) (mvT hZ (hw _ (List.mem_of_getElem? (i := 8) rfl))) (mvT hZ (hw _ (List.mem_of_getElem? (i := 9) rfl))) (by decide) (StrChars.Road.backV (W := 1) hZ hws_words (kI := 4) (hw _ (List.mem_of_getElem? (i := 5) rfl)) (cs := ([(113 : Int32), (117 : Int32), (105 : Int32), (101 : Int32), (116 : Int32)] : List Int32)) (bs := ([(113 : Int32), (117 : Int32), (105 : Int32), (101 : Int32), (116 : Int32)] : List Int32).map (fun c => c.toInt8.toInt32)) (n := 5) gh39 Zh38 A32 Fh34 Fh35 Vh36 (O_CS.ext Old40.2) P_CS rfl rfl (by decide) (by decide) hph37 rfl (by decide) (by decide)) (g := (mkF m 230 #[.val (.int p1), .val (.int (1 : Int32)), .val (.ref b1), .val (.ref k_QUIET), .unset, .unset] [(.ref b1), (.ref b32), (.ref b32)])) rfl (by rw [hml]; rfl) (Steps.refl _) (a := b32) (argsL := [(.ref b1)]) (rest := [(.ref b32)]) (lenOf own_pd3 rfl) rfl (by show 2 * 0 + _ ≤ _; exact Nat.le_of_eq rfl) (hb hby at_230) (fun _ _ => ⟨rfl, e32, (by decide : 2 + 1 ≤ _), (by decide : 9 + 5 ≤ _)⟩)
  dsimp only [Pt.U, Pt.locs, Pt.cells, Pt.slots] at X41 l41 y41 z41 st41 hQ41
  subst y41 z41
  obtain ⟨rfl, Nq41, Kq41, Eq41, Cq41, t41, kb41, gt41, szt41, nt41, Vq41, Bq41⟩ := hQ41
  have N41 : Fr n0 L41 := by rw [l41]; exact Fr.app N22 Nq41
  have Kp42 : Keep h0 T41.heap [] := Kp33.trans Kq41 (allS (Or.inr (Nat.le_trans Kp23.1 (Nat.le_of_eq g32.symm))) all0)
  have Old43 : Old Z n0 T41.heap := Old40.keep Kq41 (allS gh39 all0)
  obtain ⟨_, _, ⟨T44, L44, k44, n44⟩, -, X44, ⟨Lc44, hQ44, l44, y44, z44⟩, st44⟩ := Jvm.LawKit.callS X41 hx (y := (⟨"com/example/dagsverke/dagsverke/job/WorkerState", "fromWireName", "(Ljava/lang/String;)Lcom/example/dagsverke/dagsverke/job/WorkerState;"⟩ : MethodName)) hown (mvT hZ (hw _ (List.mem_of_getElem? (i := 33) rfl))) (mvT hZ (hw _ (List.mem_of_getElem? (i := 34) rfl))) (mvT hZ (hw _ (List.mem_of_getElem? (i := 2) rfl))) (mvT hZ (hw _ (List.mem_of_getElem? (i := 35) rfl))) (by decide) (backOf (W := 0) (own_rm_from_QUIET l Z a0 hw [] G1 k_RUNNING s_RUNNING t_RUNNING kb_RUNNING k_QUIET s_QUIET t_QUIET kb_QUIET k_TERMINATE s_TERMINATE t_TERMINATE kb_TERMINATE k_TERMINATED s_TERMINATED t_TERMINATED kb_TERMINATED k_VALUES kv_VALUES gl b32 t41 (kb41) T41.heap n0 (Nat.le_trans Z0 Kp42.1) Old43 Eq41 Vq41 Cq41 Bq41) hZ (hw _ (List.mem_of_getElem? (i := 35) rfl)) (hw _ (List.mem_of_getElem? (i := 2) rfl)) (by decide) (by decide)) (g := (mkF m 237 #[.val (.int p1), .val (.int (1 : Int32)), .val (.ref b1), .val (.ref k_QUIET), .val (.ref b32), .unset] [(.ref b32)])) rfl (by rw [hml]; rfl) (argsL := [(.ref b32)]) (rest := []) (lenOf own_pd4 rfl) rfl (by show 2 * 0 + _ ≤ _; exact Nat.le_of_eq rfl) (hb hby at_237) (fun _ _ => ⟨rfl, rfl, (by decide : 3 + 1 ≤ _), (by decide : 14 + 4 ≤ _)⟩)
  dsimp only [Pt.U, Pt.locs, Pt.cells, Pt.slots] at X44 l44 y44 z44 st44 hQ44
  subst y44 z44
  obtain ⟨rfl, Nq44, Kq44⟩ := hQ44
  have N44 : Fr n0 L44 := by rw [l44]; exact Fr.app N41 Nq44
  have Kp45 : Keep h0 T44.heap [] := Kp42.trans Kq44 all0
  have Old46 : Old Z n0 T44.heap := Old43.keep Kq44 all0
  obtain ⟨cq47, kq47, q47a, q47b, q47c⟩ := isOf hZ rfl (E_QUIET.ext Old46.2)
  obtain ⟨_, _, ⟨T47, L47, k47, n47⟩, -, X47, ⟨Lc47, hQ47, l47, y47, z47⟩, st47⟩ := X44.virtualBack hx (y := (⟨"com/example/dagsverke/dagsverke/job/WorkerState", "wireName", "()Ljava/lang/String;"⟩ : MethodName)) (z := (⟨"com/example/dagsverke/dagsverke/job/WorkerState", "wireName", "()Ljava/lang/String;"⟩ : MethodName)) hown (mvT hZ (hw _ (List.mem_of_getElem? (i := 66) rfl))) (mvT hZ (hw _ (List.mem_of_getElem? (i := 67) rfl))) (notFace_of_selects (args := #[]) (mvT hZ (hw _ (List.mem_of_getElem? (i := 69) rfl)))) (mvT hZ (hw _ (List.mem_of_getElem? (i := 69) rfl))) (mvT hZ (hw _ (List.mem_of_getElem? (i := 68) rfl))) (by decide) (backOf (W := 0) (own_rm_wn l Z a0 hw [] G1 k_RUNNING s_RUNNING t_RUNNING kb_RUNNING k_QUIET s_QUIET t_QUIET kb_QUIET k_TERMINATE s_TERMINATE t_TERMINATE kb_TERMINATE k_TERMINATED s_TERMINATED t_TERMINATED kb_TERMINATED k_VALUES kv_VALUES gl k_QUIET s_QUIET T44.heap n0 (Nat.le_trans Z0 Kp45.1) (Fs_QUIET.ext Old46.2)) hZ (hw _ (List.mem_of_getElem? (i := 70) rfl)) (hw _ (List.mem_of_getElem? (i := 2) rfl)) (by decide) (by decide)) q47a q47c (g := (mkF m 250 #[.val (.int p1), .val (.int (1 : Int32)), .val (.ref b1), .val (.ref k_QUIET), .val (.ref b32), .val (.ref k_QUIET)] [(.ref k_QUIET)])) rfl (by rw [hml]; rfl) (Steps.refl _) (argsL := []) (rest := []) (lenOf own_pd5 rfl) rfl (by show 2 * 0 + _ ≤ _; exact Nat.le_of_eq rfl) (hb hby at_250) (fun _ _ => ⟨rfl, rfl, (by decide : 4 + 0 ≤ _), (by decide : 18 + 0 ≤ _)⟩)
  dsimp only [Pt.U, Pt.locs, Pt.cells, Pt.slots] at X47 l47 y47 z47 st47 hQ47
  subst y47 z47
  obtain ⟨rfl, Nq47, e47⟩ := hQ47
  have N47 : Fr n0 L47 := by rw [l47]; exact Fr.app N44 Nq47
  have cdh48 : StrChars.Road.CodA ([(113 : Int32), (117 : Int32), (105 : Int32), (101 : Int32), (116 : Int32)] : List Int32) 0 (5 : Int32) ((([(113 : Int32), (117 : Int32), (105 : Int32), (101 : Int32), (116 : Int32)] : List Int32).map (fun c => c.toInt8.toInt32)).map Value.int) := (StrChars.Road.codOf (cs := ([(113 : Int32), (117 : Int32), (105 : Int32), (101 : Int32), (116 : Int32)] : List Int32)) (n := 5) rfl (fun c hc => (hph37 c hc).2))
  have hws_wordsEq : ∀ d ∈ StrChars.Road.wordsEq, d.before a0 Z = true := fun d hd => hw d (own_hws_wordsEq d hd)
  have Eh49 : Exa Z T44.heap b32 "java/lang/String" := (Eq41.keep Kq44)
  have Fh50 : Fld Z T44.heap b32 "java/lang/String" "value" "[B" (.ref t41) := (Vq41.keep Kq44 nin0)
  have Fh51 : Fld Z T44.heap b32 "java/lang/String" "coder" "B" (.int (0 : Int32)) := (Cq41.keep Kq44 nin0)
  have Vh52 : Arv Z T44.heap t41 kb41 .byte (5 : Int32) ((([(113 : Int32), (117 : Int32), (105 : Int32), (101 : Int32), (116 : Int32)] : List Int32).map (fun c => c.toInt8.toInt32)).map Value.int) (.int (0 : Int32)) := (Bq41.keep Kq44 nin0)
  have cdh53 : StrChars.Road.CodA ([(113 : Int32), (117 : Int32), (105 : Int32), (101 : Int32), (116 : Int32)] : List Int32) 0 (5 : Int32) ((([(113 : Int32), (117 : Int32), (105 : Int32), (101 : Int32), (116 : Int32)] : List Int32).map (fun c => c.toInt8.toInt32)).map Value.int) := (StrChars.Road.codOf (cs := ([(113 : Int32), (117 : Int32), (105 : Int32), (101 : Int32), (116 : Int32)] : List Int32)) (n := 5) rfl (fun c hc => (hph37 c hc).2))
  obtain ⟨cq54, kq54, q54a, q54b, q54c⟩ := isOf hZ e47 (Es_QUIET.ext Old46.2)
  obtain ⟨_, _, ⟨T54, L54, k54, n54⟩, -, X54, ⟨Lc54, hQ54, l54, y54, z54⟩, st54⟩ := X47.virtualBack hx (y := (⟨"java/lang/String", "equals", "(Ljava/lang/Object;)Z"⟩ : MethodName)) (z := (⟨"java/lang/String", "equals", "(Ljava/lang/Object;)Z"⟩ : MethodName)) hown (mvT hZ (hw _ (List.mem_of_getElem? (i := 71) rfl))) (mvT hZ (hw _ (List.mem_of_getElem? (i := 57) rfl))) (notFace_of_selects (args := #[]) (mvT hZ (hw _ (List.mem_of_getElem? (i := 59) rfl)))) (mvT hZ (hw _ (List.mem_of_getElem? (i := 59) rfl))) (mvT hZ (hw _ (List.mem_of_getElem? (i := 58) rfl))) (by decide) (StrChars.Road.eqW (W := 0) hZ hws_wordsEq (kI := 4) (hw _ (List.mem_of_getElem? (i := 5) rfl)) (Es_QUIET.ext Old46.2) (Fv_QUIET.ext Old46.2) (Fc_QUIET.ext Old46.2) (V_QUIET.ext Old46.2) cdh48 (own_up _ hph37) (Nat.le_of_ble_eq_true rfl) Eh49 Fh50 Fh51 Vh52 cdh53 (own_up _ hph37) (Nat.le_of_ble_eq_true rfl) (O_CS.ext Old46.2) P_CS (by decide) (by decide)) q54a q54c (g := (mkF m 255 #[.val (.int p1), .val (.int (1 : Int32)), .val (.ref b1), .val (.ref k_QUIET), .val (.ref b32), .val (.ref k_QUIET)] [(.ref b32), (.ref s_QUIET)])) rfl (by rw [hml]; rfl) (Steps.refl _) (argsL := [(.ref b32)]) (rest := []) (lenOf own_pd2 rfl) rfl (by show 2 * 0 + _ ≤ _; exact Nat.le_of_eq rfl) (hb hby at_255) (fun _ _ => ⟨rfl, e47, (by decide : 4 + 0 ≤ _), (by decide : 18 + 0 ≤ _)⟩)
  dsimp only [Pt.U, Pt.locs, Pt.cells, Pt.slots] at X54 l54 y54 z54 st54 hQ54
  subst y54 z54
  obtain ⟨hcase, rfl, e54⟩ := hQ54
  have hv54 : _ = some (Value.int 1) := hcase.elim (fun q => q.1) (fun q => absurd (rfl : ([(113 : Int32), (117 : Int32), (105 : Int32), (101 : Int32), (116 : Int32)] : List Int32) = ([(113 : Int32), (117 : Int32), (105 : Int32), (101 : Int32), (116 : Int32)] : List Int32)) q.2)
  subst hv54
  have N54 : Fr n0 L54 := by rw [l54]; exact Fr.app N47 (Fr.nil n0)
  obtain ⟨fs, hr, hrun, hended, hW, hsame⟩ := X54.leave (v := some (.int (1 : Int32))) (fun h => by rw [Bd.returns] at h; cases h)
  refine ⟨_, _, pre0 _ ?_, hrun, hended, _, _, rfl, ?_, ⟨_, rfl⟩, hW, hsame.mono (by decide) (by decide)⟩
  · show Steps p.tables e below (s₁.setTop (mkF m 0 #[.val (.int p1), .unset, .unset, .unset, .unset, .unset] [])) _
    refine XS.iloadN X0.here hx rfl (hb hby at_0) rfl ?_
    show Steps p.tables e below (s₁.setTop (mkF m 1 #[.val (.int p1), .unset, .unset, .unset, .unset, .unset] [(.int p1)])) _
    refine XS.iconst X0.here hx rfl (hb hby at_1) ?_
    show Steps p.tables e below (s₁.setTop (mkF m 2 #[.val (.int p1), .unset, .unset, .unset, .unset, .unset] [(.int (3 : Int32)), (.int p1)])) _
    refine XS.iand X0.here hx rfl (hb hby at_2) rfl ?_
    show Steps p.tables e below (s₁.setTop (mkF m 3 #[.val (.int p1), .unset, .unset, .unset, .unset, .unset] [(.int (own_a3 p1))])) _
    rw [hk]
    show Steps p.tables e below (s₁.setTop (mkF m 3 #[.val (.int p1), .unset, .unset, .unset, .unset, .unset] [(.int (1 : Int32))])) _
    refine XS.istoreN X0.here hx rfl (hb hby at_3) rfl (l' := #[.val (.int p1), .val (.int (1 : Int32)), .unset, .unset, .unset, .unset]) rfl ?_
    show Steps p.tables e below (s₁.setTop (mkF m 4 #[.val (.int p1), .val (.int (1 : Int32)), .unset, .unset, .unset, .unset] [])) _
    refine XS.iloadN X0.here hx rfl (hb hby at_4) rfl ?_
    show Steps p.tables e below (s₁.setTop (mkF m 5 #[.val (.int p1), .val (.int (1 : Int32)), .unset, .unset, .unset, .unset] [(.int (1 : Int32))])) _
    refine XS.ifYes X0.here hx rfl (pc0 := 5) (pc' := 56) rfl (hb hby at_5) rfl ((if0 _ _).trans (feq (by decide : ¬ ((1 : Int32) = (0 : Int32)))).2) (by decide) (by decide) ?_
    show Steps p.tables e below (s₁.setTop (mkF m 56 #[.val (.int p1), .val (.int (1 : Int32)), .unset, .unset, .unset, .unset] [])) _
    refine XS.iloadN X0.here hx rfl (hb hby at_56) rfl ?_
    show Steps p.tables e below (s₁.setTop (mkF m 57 #[.val (.int p1), .val (.int (1 : Int32)), .unset, .unset, .unset, .unset] [(.int (1 : Int32))])) _
    refine XS.iconst X0.here hx rfl (hb hby at_57) ?_
    show Steps p.tables e below (s₁.setTop (mkF m 58 #[.val (.int p1), .val (.int (1 : Int32)), .unset, .unset, .unset, .unset] [(.int (1 : Int32)), (.int (1 : Int32))])) _
    refine XS.icmpNo X0.here hx rfl (hb hby at_58) rfl (teq (rfl : (1 : Int32) = (1 : Int32))).2 ?_
    show Steps p.tables e below (s₁.setTop (mkF m 61 #[.val (.int p1), .val (.int (1 : Int32)), .unset, .unset, .unset, .unset] [])) _
    refine XS.iconst X0.here hx rfl (hb hby at_61) ?_
    show Steps p.tables e below (s₁.setTop (mkF m 62 #[.val (.int p1), .val (.int (1 : Int32)), .unset, .unset, .unset, .unset] [(.int (5 : Int32))])) _
    refine st1 _ ?_
    show Steps p.tables e below (T1.setTop (mkF m 64 #[.val (.int p1), .val (.int (1 : Int32)), .unset, .unset, .unset, .unset] [(.ref b1)])) _
    refine XS.dup X1.here hx rfl (hb hby at_64) rfl rfl ?_
    show Steps p.tables e below (T1.setTop (mkF m 65 #[.val (.int p1), .val (.int (1 : Int32)), .unset, .unset, .unset, .unset] [(.ref b1), (.ref b1)])) _
    refine XS.iconst X1.here hx rfl (hb hby at_65) ?_
    show Steps p.tables e below (T1.setTop (mkF m 66 #[.val (.int p1), .val (.int (1 : Int32)), .unset, .unset, .unset, .unset] [(.int (0 : Int32)), (.ref b1), (.ref b1)])) _
    refine XS.bipush X1.here hx rfl (hb hby at_66) ?_
    show Steps p.tables e below (T1.setTop (mkF m 68 #[.val (.int p1), .val (.int (1 : Int32)), .unset, .unset, .unset, .unset] [(.int (113 : Int32)), (.int (0 : Int32)), (.ref b1), (.ref b1)])) _
    refine st5 _ ?_
    show Steps p.tables e below (T5.setTop (mkF m 69 #[.val (.int p1), .val (.int (1 : Int32)), .unset, .unset, .unset, .unset] [(.ref b1)])) _
    refine XS.dup X5.here hx rfl (hb hby at_69) rfl rfl ?_
    show Steps p.tables e below (T5.setTop (mkF m 70 #[.val (.int p1), .val (.int (1 : Int32)), .unset, .unset, .unset, .unset] [(.ref b1), (.ref b1)])) _
    refine XS.iconst X5.here hx rfl (hb hby at_70) ?_
    show Steps p.tables e below (T5.setTop (mkF m 71 #[.val (.int p1), .val (.int (1 : Int32)), .unset, .unset, .unset, .unset] [(.int (1 : Int32)), (.ref b1), (.ref b1)])) _
    refine XS.bipush X5.here hx rfl (hb hby at_71) ?_
    show Steps p.tables e below (T5.setTop (mkF m 73 #[.val (.int p1), .val (.int (1 : Int32)), .unset, .unset, .unset, .unset] [(.int (117 : Int32)), (.int (1 : Int32)), (.ref b1), (.ref b1)])) _
    refine st10 _ ?_
    show Steps p.tables e below (T10.setTop (mkF m 74 #[.val (.int p1), .val (.int (1 : Int32)), .unset, .unset, .unset, .unset] [(.ref b1)])) _
    refine XS.dup X10.here hx rfl (hb hby at_74) rfl rfl ?_
    show Steps p.tables e below (T10.setTop (mkF m 75 #[.val (.int p1), .val (.int (1 : Int32)), .unset, .unset, .unset, .unset] [(.ref b1), (.ref b1)])) _
    refine XS.iconst X10.here hx rfl (hb hby at_75) ?_
    show Steps p.tables e below (T10.setTop (mkF m 76 #[.val (.int p1), .val (.int (1 : Int32)), .unset, .unset, .unset, .unset] [(.int (2 : Int32)), (.ref b1), (.ref b1)])) _
    refine XS.bipush X10.here hx rfl (hb hby at_76) ?_
    show Steps p.tables e below (T10.setTop (mkF m 78 #[.val (.int p1), .val (.int (1 : Int32)), .unset, .unset, .unset, .unset] [(.int (105 : Int32)), (.int (2 : Int32)), (.ref b1), (.ref b1)])) _
    refine st14 _ ?_
    show Steps p.tables e below (T14.setTop (mkF m 79 #[.val (.int p1), .val (.int (1 : Int32)), .unset, .unset, .unset, .unset] [(.ref b1)])) _
    refine XS.dup X14.here hx rfl (hb hby at_79) rfl rfl ?_
    show Steps p.tables e below (T14.setTop (mkF m 80 #[.val (.int p1), .val (.int (1 : Int32)), .unset, .unset, .unset, .unset] [(.ref b1), (.ref b1)])) _
    refine XS.iconst X14.here hx rfl (hb hby at_80) ?_
    show Steps p.tables e below (T14.setTop (mkF m 81 #[.val (.int p1), .val (.int (1 : Int32)), .unset, .unset, .unset, .unset] [(.int (3 : Int32)), (.ref b1), (.ref b1)])) _
    refine XS.bipush X14.here hx rfl (hb hby at_81) ?_
    show Steps p.tables e below (T14.setTop (mkF m 83 #[.val (.int p1), .val (.int (1 : Int32)), .unset, .unset, .unset, .unset] [(.int (101 : Int32)), (.int (3 : Int32)), (.ref b1), (.ref b1)])) _
    refine st18 _ ?_
    show Steps p.tables e below (T18.setTop (mkF m 84 #[.val (.int p1), .val (.int (1 : Int32)), .unset, .unset, .unset, .unset] [(.ref b1)])) _
    refine XS.dup X18.here hx rfl (hb hby at_84) rfl rfl ?_
    show Steps p.tables e below (T18.setTop (mkF m 85 #[.val (.int p1), .val (.int (1 : Int32)), .unset, .unset, .unset, .unset] [(.ref b1), (.ref b1)])) _
    refine XS.iconst X18.here hx rfl (hb hby at_85) ?_
    show Steps p.tables e below (T18.setTop (mkF m 86 #[.val (.int p1), .val (.int (1 : Int32)), .unset, .unset, .unset, .unset] [(.int (4 : Int32)), (.ref b1), (.ref b1)])) _
    refine XS.bipush X18.here hx rfl (hb hby at_86) ?_
    show Steps p.tables e below (T18.setTop (mkF m 88 #[.val (.int p1), .val (.int (1 : Int32)), .unset, .unset, .unset, .unset] [(.int (116 : Int32)), (.int (4 : Int32)), (.ref b1), (.ref b1)])) _
    refine st22 _ ?_
    show Steps p.tables e below (T22.setTop (mkF m 89 #[.val (.int p1), .val (.int (1 : Int32)), .unset, .unset, .unset, .unset] [(.ref b1)])) _
    refine XS.astoreN X22.here hx rfl (hb hby at_89) rfl rfl (l' := #[.val (.int p1), .val (.int (1 : Int32)), .val (.ref b1), .unset, .unset, .unset]) rfl ?_
    show Steps p.tables e below (T22.setTop (mkF m 90 #[.val (.int p1), .val (.int (1 : Int32)), .val (.ref b1), .unset, .unset, .unset] [])) _
    refine st31 _ ?_
    show Steps p.tables e below (T31.setTop (mkF m 93 #[.val (.int p1), .val (.int (1 : Int32)), .val (.ref b1), .unset, .unset, .unset] [(.ref k_QUIET)])) _
    refine XS.astoreN X31.here hx rfl (hb hby at_93) rfl rfl (l' := #[.val (.int p1), .val (.int (1 : Int32)), .val (.ref b1), .val (.ref k_QUIET), .unset, .unset]) rfl ?_
    show Steps p.tables e below (T31.setTop (mkF m 94 #[.val (.int p1), .val (.int (1 : Int32)), .val (.ref b1), .val (.ref k_QUIET), .unset, .unset] [])) _
    refine XS.goto X31.here hx rfl (pc0 := 94) (pc' := 225) rfl (hb hby at_94) (by decide) (by decide) ?_
    show Steps p.tables e below (T31.setTop (mkF m 225 #[.val (.int p1), .val (.int (1 : Int32)), .val (.ref b1), .val (.ref k_QUIET), .unset, .unset] [])) _
    refine st32 _ ?_
    show Steps p.tables e below (T32.setTop (mkF m 228 #[.val (.int p1), .val (.int (1 : Int32)), .val (.ref b1), .val (.ref k_QUIET), .unset, .unset] [(.ref b32)])) _
    refine XS.dup X32.here hx rfl (hb hby at_228) rfl rfl ?_
    show Steps p.tables e below (T32.setTop (mkF m 229 #[.val (.int p1), .val (.int (1 : Int32)), .val (.ref b1), .val (.ref k_QUIET), .unset, .unset] [(.ref b32), (.ref b32)])) _
    refine XS.aloadN X32.here hx rfl (hb hby at_229) rfl rfl ?_
    show Steps p.tables e below (T32.setTop (mkF m 230 #[.val (.int p1), .val (.int (1 : Int32)), .val (.ref b1), .val (.ref k_QUIET), .unset, .unset] [(.ref b1), (.ref b32), (.ref b32)])) _
    refine st41.trans ?_
    show Steps p.tables e below (T41.setTop (mkF m 233 #[.val (.int p1), .val (.int (1 : Int32)), .val (.ref b1), .val (.ref k_QUIET), .unset, .unset] [(.ref b32)])) _
    refine XS.astore X41.here hx rfl (hb hby at_233) rfl rfl (l' := #[.val (.int p1), .val (.int (1 : Int32)), .val (.ref b1), .val (.ref k_QUIET), .val (.ref b32), .unset]) rfl ?_
    show Steps p.tables e below (T41.setTop (mkF m 235 #[.val (.int p1), .val (.int (1 : Int32)), .val (.ref b1), .val (.ref k_QUIET), .val (.ref b32), .unset] [])) _
    refine XS.aload X41.here hx rfl (hb hby at_235) rfl rfl ?_
    show Steps p.tables e below (T41.setTop (mkF m 237 #[.val (.int p1), .val (.int (1 : Int32)), .val (.ref b1), .val (.ref k_QUIET), .val (.ref b32), .unset] [(.ref b32)])) _
    refine st44 _ ?_
    show Steps p.tables e below (T44.setTop (mkF m 240 #[.val (.int p1), .val (.int (1 : Int32)), .val (.ref b1), .val (.ref k_QUIET), .val (.ref b32), .unset] [(.ref k_QUIET)])) _
    refine XS.astore X44.here hx rfl (hb hby at_240) rfl rfl (l' := #[.val (.int p1), .val (.int (1 : Int32)), .val (.ref b1), .val (.ref k_QUIET), .val (.ref b32), .val (.ref k_QUIET)]) rfl ?_
    show Steps p.tables e below (T44.setTop (mkF m 242 #[.val (.int p1), .val (.int (1 : Int32)), .val (.ref b1), .val (.ref k_QUIET), .val (.ref b32), .val (.ref k_QUIET)] [])) _
    refine XS.aload X44.here hx rfl (hb hby at_242) rfl rfl ?_
    show Steps p.tables e below (T44.setTop (mkF m 244 #[.val (.int p1), .val (.int (1 : Int32)), .val (.ref b1), .val (.ref k_QUIET), .val (.ref b32), .val (.ref k_QUIET)] [(.ref k_QUIET)])) _
    refine XS.aloadN X44.here hx rfl (hb hby at_244) rfl rfl ?_
    show Steps p.tables e below (T44.setTop (mkF m 245 #[.val (.int p1), .val (.int (1 : Int32)), .val (.ref b1), .val (.ref k_QUIET), .val (.ref b32), .val (.ref k_QUIET)] [(.ref k_QUIET), (.ref k_QUIET)])) _
    refine Jvm.RoadKit.acmp (g := (mkF m 245 #[.val (.int p1), .val (.int (1 : Int32)), .val (.ref b1), .val (.ref k_QUIET), .val (.ref b32), .val (.ref k_QUIET)] [(.ref k_QUIET), (.ref k_QUIET)])) X44 hx rfl rfl rfl (pc0 := 245) (pc' := 248) (same := true) rfl (hb hby at_245) rfl (decide_eq_true rfl) (by decide) (by decide) ?_
    show Steps p.tables e below (T44.setTop (mkF m 248 #[.val (.int p1), .val (.int (1 : Int32)), .val (.ref b1), .val (.ref k_QUIET), .val (.ref b32), .val (.ref k_QUIET)] [])) _
    refine XS.aload X44.here hx rfl (hb hby at_248) rfl rfl ?_
    show Steps p.tables e below (T44.setTop (mkF m 250 #[.val (.int p1), .val (.int (1 : Int32)), .val (.ref b1), .val (.ref k_QUIET), .val (.ref b32), .val (.ref k_QUIET)] [(.ref k_QUIET)])) _
    refine st47.trans ?_
    show Steps p.tables e below (T47.setTop (mkF m 253 #[.val (.int p1), .val (.int (1 : Int32)), .val (.ref b1), .val (.ref k_QUIET), .val (.ref b32), .val (.ref k_QUIET)] [(.ref s_QUIET)])) _
    refine XS.aload X47.here hx rfl (hb hby at_253) rfl rfl ?_
    show Steps p.tables e below (T47.setTop (mkF m 255 #[.val (.int p1), .val (.int (1 : Int32)), .val (.ref b1), .val (.ref k_QUIET), .val (.ref b32), .val (.ref k_QUIET)] [(.ref b32), (.ref s_QUIET)])) _
    refine st54.trans ?_
    show Steps p.tables e below (T54.setTop (mkF m 258 #[.val (.int p1), .val (.int (1 : Int32)), .val (.ref b1), .val (.ref k_QUIET), .val (.ref b32), .val (.ref k_QUIET)] [(.int (1 : Int32))])) _
    refine XS.ifNo X54.here hx rfl (hb hby at_258) rfl ((if0 _ _).trans (feq (by decide : ¬ ((1 : Int32) = (0 : Int32)))).1) ?_
    show Steps p.tables e below (T54.setTop (mkF m 261 #[.val (.int p1), .val (.int (1 : Int32)), .val (.ref b1), .val (.ref k_QUIET), .val (.ref b32), .val (.ref k_QUIET)] [])) _
    refine XS.iconst X54.here hx rfl (hb hby at_261) ?_
    show Steps p.tables e below (T54.setTop (mkF m 262 #[.val (.int p1), .val (.int (1 : Int32)), .val (.ref b1), .val (.ref k_QUIET), .val (.ref b32), .val (.ref k_QUIET)] [(.int (1 : Int32))])) _
    refine XS.goto X54.here hx rfl (pc0 := 262) (pc' := 266) rfl (hb hby at_262) (by decide) (by decide) ?_
    show Steps p.tables e below (T54.setTop (mkF m 266 #[.val (.int p1), .val (.int (1 : Int32)), .val (.ref b1), .val (.ref k_QUIET), .val (.ref b32), .val (.ref k_QUIET)] [(.int (1 : Int32))])) _
    exact retN X54 hx (t := .boolean) Bd.returns (by simp) (hb hby at_266) hr
  · show own_Qlaw h0 n0 _ T54.heap _
    exact ⟨rfl, N54⟩
theorem own_eflaw2 (m : MethodId) (p1 : Int32) : entryFrame m #[(.int p1)] maxLocals = mkF m 0 #[.val (.int p1), .unset, .unset, .unset, .unset, .unset] [] := by first | (simp [entryFrame, mkF, argsToLocals, Value.category, maxLocals]; done) | rfl
set_option maxRecDepth 65536 in
set_option maxHeartbeats 40000000 in
theorem own_law2 (l : Launch) (Z : State) (a0 : Array Value) (hw : ∀ d ∈ tables_1, d.before a0 Z = true) (ws : List Jvm.Cond) (G1 : Int32) (k_RUNNING : Addr) (s_RUNNING : Addr) (t_RUNNING : Addr) (kb_RUNNING : ClassId) (k_QUIET : Addr) (s_QUIET : Addr) (t_QUIET : Addr) (kb_QUIET : ClassId) (k_TERMINATE : Addr) (s_TERMINATE : Addr) (t_TERMINATE : Addr) (kb_TERMINATE : ClassId) (k_TERMINATED : Addr) (s_TERMINATED : Addr) (t_TERMINATED : Addr) (kb_TERMINATED : ClassId) (k_VALUES : Addr) (kv_VALUES : ClassId) (gl : own_Glob Z G1 k_RUNNING s_RUNNING t_RUNNING kb_RUNNING k_QUIET s_QUIET t_QUIET kb_QUIET k_TERMINATE s_TERMINATE t_TERMINATE kb_TERMINATE k_TERMINATED s_TERMINATED t_TERMINATED kb_TERMINATED k_VALUES kv_VALUES) (p1 : Int32) (h0 : Heap) (n0 : Nat) (Z0 : n0 ≤ h0.size) (X00 : Old Z n0 h0) (hk : own_a3 p1 = 2) :
    MetFree l x (head1 (Jvm.Cond.code x code maxLocals ret :: ws) room_1) (fun a U => a = #[(.int p1)] ∧ Z.Warmed39 U.vm ∧ U.heap = h0) (fun _ _ _ _ _ => True) (fun _ U o U' => ∃ v L, o = .returned v ∧ own_Qlaw h0 n0 v U'.heap L ∧ FrameEnd U o U' L room_1.cells room_1.slots) := by
  refine MetFree.of_bodySF (plainFor_of_name own_pn6) hisR ?_
  intro p e s m args below meth c s₁ Bd hml0 hP hK
  obtain ⟨rfl, hZ, hh⟩ := hP
  obtain ⟨O_CS, P_CS, O_RUNNING, E_RUNNING, Fs_RUNNING, Es_RUNNING, Fc_RUNNING, Fv_RUNNING, V_RUNNING, O_QUIET, E_QUIET, Fs_QUIET, Es_QUIET, Fc_QUIET, Fv_QUIET, V_QUIET, O_TERMINATE, E_TERMINATE, Fs_TERMINATE, Es_TERMINATE, Fc_TERMINATE, Fv_TERMINATE, V_TERMINATE, O_TERMINATED, E_TERMINATED, Fs_TERMINATED, Es_TERMINATED, Fc_TERMINATED, Fv_TERMINATED, V_TERMINATED, O_VALUES, E_VALUES, V_VALUES⟩ := id gl
  have hx := Bd.exec
  have hby := Bd.bytes
  have hml : c.maxLocals = 6 := hml0
  have hown : s.vm.findClass "com/example/dagsverke/dagsverke/job/WorkerStateFromWireNamePinLaw" = some m.cls := findClass_of_methodNamed Bd.named
  have hnm := (name_of_methodNamed Bd.named Bd.method).1
  have X0 : Stand p l e room_1 s m #[(.int p1)] below meth c s₁ [] 0 0 := Stand.of_body Bd
  have e0 : s₁.heap = h0 := by rw [← hh, Bd.state]; rfl
  have N0 := Fr.nil n0
  have pre0 : ∀ t, Steps p.tables e below (s₁.setTop (mkF m 0 #[.val (.int p1), .unset, .unset, .unset, .unset, .unset] [])) t → Steps p.tables e below (s₁.setTop (entryFrame m #[(.int p1)] maxLocals)) t := fun t k => castTop (own_eflaw2 m p1) k
  obtain ⟨T1, h1, k1, X1, e1, E1, A1, st1⟩ := newP X0 hx hZ (hw _ (List.mem_of_getElem? (i := 0) rfl)) e0 (g := (mkF m 104 #[.val (.int p1), .val (.int (2 : Int32)), .unset, .unset, .unset, .unset] [(.int (9 : Int32))])) rfl (hb hby at_104) rfl (by decide) (cap := 9) (by decide) (by decide) (by decide) (by decide)
  obtain ⟨b1, g1⟩ : ∃ z, z = h0.size := ⟨_, rfl⟩
  rw [← g1] at A1 st1
  have Kp2 : Keep h0 h1 [] := (Keep.refl h0 []).ext E1
  have Vh3 : Arv Z h1 b1 k1 .char (9 : Int32) [(.int (0 : Int32)), (.int (0 : Int32)), (.int (0 : Int32)), (.int (0 : Int32)), (.int (0 : Int32)), (.int (0 : Int32)), (.int (0 : Int32)), (.int (0 : Int32)), (.int (0 : Int32))] (.int (0 : Int32)) := (Arv.new A1 (by decide)).pad (pad_rep [] (.int (0 : Int32)) 9)
  obtain ⟨cl4, Ar4, qc4, Sz4, Ng4, Hs4, Gs4⟩ := id Vh3
  have hin4 : ¬ ((0 : Int32) < 0 ∨ cl4.slots.size ≤ ((0 : Int32)).toNatClampNeg) := inb_of Sz4 ⟨(by decide), (by decide)⟩
  obtain ⟨T5, h5, X5, e5, W5, st5⟩ := stC X1 hx hZ e1 Ar4 (j := (0 : Int32)) hin4 (g := (mkF m 110 #[.val (.int p1), .val (.int (2 : Int32)), .unset, .unset, .unset, .unset] [(.int (116 : Int32)), (.int (0 : Int32)), (.ref b1), (.ref b1)])) rfl rfl (hb hby at_110)
  have Kp6 : Keep h0 h5 [] := Kp2.wr W5 (Or.inr (Nat.le_trans (Keep.refl h0 []).1 (Nat.le_of_eq g1.symm)))
  have gh7 : n0 ≤ b1 := Nat.le_trans Z0 (Nat.le_of_eq g1.symm)
  obtain ⟨Lp5, X5, N5⟩ := own_pack X5 (Fr.snoc X5 N0 gh7)
  have Vh8 : Arv Z h5 b1 k1 .char (9 : Int32) [(.int (116 : Int32)), (.int (0 : Int32)), (.int (0 : Int32)), (.int (0 : Int32)), (.int (0 : Int32)), (.int (0 : Int32)), (.int (0 : Int32)), (.int (0 : Int32)), (.int (0 : Int32))] (.int (0 : Int32)) := (Arv.set Ar4 qc4 Sz4 Ng4 Hs4 Gs4 rfl W5 0 rfl (Nat.le_of_ble_eq_true rfl))
  obtain ⟨cl9, Ar9, qc9, Sz9, Ng9, Hs9, Gs9⟩ := id Vh8
  have hin9 : ¬ ((1 : Int32) < 0 ∨ cl9.slots.size ≤ ((1 : Int32)).toNatClampNeg) := inb_of Sz9 ⟨(by decide), (by decide)⟩
  obtain ⟨T10, h10, X10, e10, W10, st10⟩ := stC X5 hx hZ e5 Ar9 (j := (1 : Int32)) hin9 (g := (mkF m 115 #[.val (.int p1), .val (.int (2 : Int32)), .unset, .unset, .unset, .unset] [(.int (101 : Int32)), (.int (1 : Int32)), (.ref b1), (.ref b1)])) rfl rfl (hb hby at_115)
  have Kp11 : Keep h0 h10 [] := Kp6.wr W10 (Or.inr (Nat.le_trans (Keep.refl h0 []).1 (Nat.le_of_eq g1.symm)))
  obtain ⟨Lp10, X10, N10⟩ := own_pack X10 (Fr.snoc X10 N5 gh7)
  have Vh12 : Arv Z h10 b1 k1 .char (9 : Int32) [(.int (116 : Int32)), (.int (101 : Int32)), (.int (0 : Int32)), (.int (0 : Int32)), (.int (0 : Int32)), (.int (0 : Int32)), (.int (0 : Int32)), (.int (0 : Int32)), (.int (0 : Int32))] (.int (0 : Int32)) := (Arv.set Ar9 qc9 Sz9 Ng9 Hs9 Gs9 rfl W10 1 rfl (Nat.le_of_ble_eq_true rfl))
  obtain ⟨cl13, Ar13, qc13, Sz13, Ng13, Hs13, Gs13⟩ := id Vh12
  have hin13 : ¬ ((2 : Int32) < 0 ∨ cl13.slots.size ≤ ((2 : Int32)).toNatClampNeg) := inb_of Sz13 ⟨(by decide), (by decide)⟩
  obtain ⟨T14, h14, X14, e14, W14, st14⟩ := stC X10 hx hZ e10 Ar13 (j := (2 : Int32)) hin13 (g := (mkF m 120 #[.val (.int p1), .val (.int (2 : Int32)), .unset, .unset, .unset, .unset] [(.int (114 : Int32)), (.int (2 : Int32)), (.ref b1), (.ref b1)])) rfl rfl (hb hby at_120)
  have Kp15 : Keep h0 h14 [] := Kp11.wr W14 (Or.inr (Nat.le_trans (Keep.refl h0 []).1 (Nat.le_of_eq g1.symm)))
  obtain ⟨Lp14, X14, N14⟩ := own_pack X14 (Fr.snoc X14 N10 gh7)
  have Vh16 : Arv Z h14 b1 k1 .char (9 : Int32) [(.int (116 : Int32)), (.int (101 : Int32)), (.int (114 : Int32)), (.int (0 : Int32)), (.int (0 : Int32)), (.int (0 : Int32)), (.int (0 : Int32)), (.int (0 : Int32)), (.int (0 : Int32))] (.int (0 : Int32)) := (Arv.set Ar13 qc13 Sz13 Ng13 Hs13 Gs13 rfl W14 2 rfl (Nat.le_of_ble_eq_true rfl))
  obtain ⟨cl17, Ar17, qc17, Sz17, Ng17, Hs17, Gs17⟩ := id Vh16
  have hin17 : ¬ ((3 : Int32) < 0 ∨ cl17.slots.size ≤ ((3 : Int32)).toNatClampNeg) := inb_of Sz17 ⟨(by decide), (by decide)⟩
  obtain ⟨T18, h18, X18, e18, W18, st18⟩ := stC X14 hx hZ e14 Ar17 (j := (3 : Int32)) hin17 (g := (mkF m 125 #[.val (.int p1), .val (.int (2 : Int32)), .unset, .unset, .unset, .unset] [(.int (109 : Int32)), (.int (3 : Int32)), (.ref b1), (.ref b1)])) rfl rfl (hb hby at_125)
  have Kp19 : Keep h0 h18 [] := Kp15.wr W18 (Or.inr (Nat.le_trans (Keep.refl h0 []).1 (Nat.le_of_eq g1.symm)))
  obtain ⟨Lp18, X18, N18⟩ := own_pack X18 (Fr.snoc X18 N14 gh7)
  have Vh20 : Arv Z h18 b1 k1 .char (9 : Int32) [(.int (116 : Int32)), (.int (101 : Int32)), (.int (114 : Int32)), (.int (109 : Int32)), (.int (0 : Int32)), (.int (0 : Int32)), (.int (0 : Int32)), (.int (0 : Int32)), (.int (0 : Int32))] (.int (0 : Int32)) := (Arv.set Ar17 qc17 Sz17 Ng17 Hs17 Gs17 rfl W18 3 rfl (Nat.le_of_ble_eq_true rfl))
  obtain ⟨cl21, Ar21, qc21, Sz21, Ng21, Hs21, Gs21⟩ := id Vh20
  have hin21 : ¬ ((4 : Int32) < 0 ∨ cl21.slots.size ≤ ((4 : Int32)).toNatClampNeg) := inb_of Sz21 ⟨(by decide), (by decide)⟩
  obtain ⟨T22, h22, X22, e22, W22, st22⟩ := stC X18 hx hZ e18 Ar21 (j := (4 : Int32)) hin21 (g := (mkF m 130 #[.val (.int p1), .val (.int (2 : Int32)), .unset, .unset, .unset, .unset] [(.int (105 : Int32)), (.int (4 : Int32)), (.ref b1), (.ref b1)])) rfl rfl (hb hby at_130)
  have Kp23 : Keep h0 h22 [] := Kp19.wr W22 (Or.inr (Nat.le_trans (Keep.refl h0 []).1 (Nat.le_of_eq g1.symm)))
  obtain ⟨Lp22, X22, N22⟩ := own_pack X22 (Fr.snoc X22 N18 gh7)
  have Vh24 : Arv Z h22 b1 k1 .char (9 : Int32) [(.int (116 : Int32)), (.int (101 : Int32)), (.int (114 : Int32)), (.int (109 : Int32)), (.int (105 : Int32)), (.int (0 : Int32)), (.int (0 : Int32)), (.int (0 : Int32)), (.int (0 : Int32))] (.int (0 : Int32)) := (Arv.set Ar21 qc21 Sz21 Ng21 Hs21 Gs21 rfl W22 4 rfl (Nat.le_of_ble_eq_true rfl))
  obtain ⟨cl25, Ar25, qc25, Sz25, Ng25, Hs25, Gs25⟩ := id Vh24
  have hin25 : ¬ ((5 : Int32) < 0 ∨ cl25.slots.size ≤ ((5 : Int32)).toNatClampNeg) := inb_of Sz25 ⟨(by decide), (by decide)⟩
  obtain ⟨T26, h26, X26, e26, W26, st26⟩ := stC X22 hx hZ e22 Ar25 (j := (5 : Int32)) hin25 (g := (mkF m 135 #[.val (.int p1), .val (.int (2 : Int32)), .unset, .unset, .unset, .unset] [(.int (110 : Int32)), (.int (5 : Int32)), (.ref b1), (.ref b1)])) rfl rfl (hb hby at_135)
  have Kp27 : Keep h0 h26 [] := Kp23.wr W26 (Or.inr (Nat.le_trans (Keep.refl h0 []).1 (Nat.le_of_eq g1.symm)))
  obtain ⟨Lp26, X26, N26⟩ := own_pack X26 (Fr.snoc X26 N22 gh7)
  have Vh28 : Arv Z h26 b1 k1 .char (9 : Int32) [(.int (116 : Int32)), (.int (101 : Int32)), (.int (114 : Int32)), (.int (109 : Int32)), (.int (105 : Int32)), (.int (110 : Int32)), (.int (0 : Int32)), (.int (0 : Int32)), (.int (0 : Int32))] (.int (0 : Int32)) := (Arv.set Ar25 qc25 Sz25 Ng25 Hs25 Gs25 rfl W26 5 rfl (Nat.le_of_ble_eq_true rfl))
  obtain ⟨cl29, Ar29, qc29, Sz29, Ng29, Hs29, Gs29⟩ := id Vh28
  have hin29 : ¬ ((6 : Int32) < 0 ∨ cl29.slots.size ≤ ((6 : Int32)).toNatClampNeg) := inb_of Sz29 ⟨(by decide), (by decide)⟩
  obtain ⟨T30, h30, X30, e30, W30, st30⟩ := stC X26 hx hZ e26 Ar29 (j := (6 : Int32)) hin29 (g := (mkF m 141 #[.val (.int p1), .val (.int (2 : Int32)), .unset, .unset, .unset, .unset] [(.int (97 : Int32)), (.int (6 : Int32)), (.ref b1), (.ref b1)])) rfl rfl (hb hby at_141)
  have Kp31 : Keep h0 h30 [] := Kp27.wr W30 (Or.inr (Nat.le_trans (Keep.refl h0 []).1 (Nat.le_of_eq g1.symm)))
  obtain ⟨Lp30, X30, N30⟩ := own_pack X30 (Fr.snoc X30 N26 gh7)
  have Vh32 : Arv Z h30 b1 k1 .char (9 : Int32) [(.int (116 : Int32)), (.int (101 : Int32)), (.int (114 : Int32)), (.int (109 : Int32)), (.int (105 : Int32)), (.int (110 : Int32)), (.int (97 : Int32)), (.int (0 : Int32)), (.int (0 : Int32))] (.int (0 : Int32)) := (Arv.set Ar29 qc29 Sz29 Ng29 Hs29 Gs29 rfl W30 6 rfl (Nat.le_of_ble_eq_true rfl))
  obtain ⟨cl33, Ar33, qc33, Sz33, Ng33, Hs33, Gs33⟩ := id Vh32
  have hin33 : ¬ ((7 : Int32) < 0 ∨ cl33.slots.size ≤ ((7 : Int32)).toNatClampNeg) := inb_of Sz33 ⟨(by decide), (by decide)⟩
  obtain ⟨T34, h34, X34, e34, W34, st34⟩ := stC X30 hx hZ e30 Ar33 (j := (7 : Int32)) hin33 (g := (mkF m 147 #[.val (.int p1), .val (.int (2 : Int32)), .unset, .unset, .unset, .unset] [(.int (116 : Int32)), (.int (7 : Int32)), (.ref b1), (.ref b1)])) rfl rfl (hb hby at_147)
  have Kp35 : Keep h0 h34 [] := Kp31.wr W34 (Or.inr (Nat.le_trans (Keep.refl h0 []).1 (Nat.le_of_eq g1.symm)))
  obtain ⟨Lp34, X34, N34⟩ := own_pack X34 (Fr.snoc X34 N30 gh7)
  have Vh36 : Arv Z h34 b1 k1 .char (9 : Int32) [(.int (116 : Int32)), (.int (101 : Int32)), (.int (114 : Int32)), (.int (109 : Int32)), (.int (105 : Int32)), (.int (110 : Int32)), (.int (97 : Int32)), (.int (116 : Int32)), (.int (0 : Int32))] (.int (0 : Int32)) := (Arv.set Ar33 qc33 Sz33 Ng33 Hs33 Gs33 rfl W34 7 rfl (Nat.le_of_ble_eq_true rfl))
  obtain ⟨cl37, Ar37, qc37, Sz37, Ng37, Hs37, Gs37⟩ := id Vh36
  have hin37 : ¬ ((8 : Int32) < 0 ∨ cl37.slots.size ≤ ((8 : Int32)).toNatClampNeg) := inb_of Sz37 ⟨(by decide), (by decide)⟩
  obtain ⟨T38, h38, X38, e38, W38, st38⟩ := stC X34 hx hZ e34 Ar37 (j := (8 : Int32)) hin37 (g := (mkF m 153 #[.val (.int p1), .val (.int (2 : Int32)), .unset, .unset, .unset, .unset] [(.int (101 : Int32)), (.int (8 : Int32)), (.ref b1), (.ref b1)])) rfl rfl (hb hby at_153)
  have Kp39 : Keep h0 h38 [] := Kp35.wr W38 (Or.inr (Nat.le_trans (Keep.refl h0 []).1 (Nat.le_of_eq g1.symm)))
  obtain ⟨Lp38, X38, N38⟩ := own_pack X38 (Fr.snoc X38 N34 gh7)
  have Vh40 : Arv Z h38 b1 k1 .char (9 : Int32) [(.int (116 : Int32)), (.int (101 : Int32)), (.int (114 : Int32)), (.int (109 : Int32)), (.int (105 : Int32)), (.int (110 : Int32)), (.int (97 : Int32)), (.int (116 : Int32)), (.int (101 : Int32))] (.int (0 : Int32)) := (Arv.set Ar37 qc37 Sz37 Ng37 Hs37 Gs37 rfl W38 8 rfl (Nat.le_of_ble_eq_true rfl))
  have Old41 : Old Z n0 h1 := X00.ext E1
  have Old42 : Old Z n0 h5 := Old41.wr W5 gh7
  have Old43 : Old Z n0 h10 := Old42.wr W10 gh7
  have Old44 : Old Z n0 h14 := Old43.wr W14 gh7
  have Old45 : Old Z n0 h18 := Old44.wr W18 gh7
  have Old46 : Old Z n0 h22 := Old45.wr W22 gh7
  have Old47 : Old Z n0 h26 := Old46.wr W26 gh7
  have Old48 : Old Z n0 h30 := Old47.wr W30 gh7
  have Old49 : Old Z n0 h34 := Old48.wr W34 gh7
  have Old50 : Old Z n0 h38 := Old49.wr W38 gh7
  obtain ⟨T51, X51, e51, st51⟩ := getS2 X38 hx hZ hown (host := "") (Or.inl (hw _ (List.mem_of_getElem? (i := 73) rfl))) Via.refl e38 (O_TERMINATE.ext Old50.2) (g := (mkF m 155 #[.val (.int p1), .val (.int (2 : Int32)), .val (.ref b1), .unset, .unset, .unset] [])) rfl (hb hby at_155)
  obtain ⟨T52, h52, X52, e52, E52, A52, D52, U52, st52⟩ := newO X51 hx hZ hown (hw _ (List.mem_of_getElem? (i := 4) rfl)) (hw _ (List.mem_of_getElem? (i := 5) rfl)) (hw _ (List.mem_of_getElem? (i := 6) rfl)) e51 (g := (mkF m 225 #[.val (.int p1), .val (.int (2 : Int32)), .val (.ref b1), .val (.ref k_TERMINATE), .unset, .unset] [])) rfl (hb hby at_225) (by decide) (by decide)
  obtain ⟨b52, g52⟩ : ∃ z, z = h38.size := ⟨_, rfl⟩
  rw [← g52] at A52 D52 U52 st52
  have Kp53 : Keep h0 h52 [] := Kp39.ext E52
  have Fh54 : Fld Z h52 b52 "java/lang/String" "value" "[B" .null := (D52 (Or.inr (hw _ (List.mem_of_getElem? (i := 32) rfl))) (ty := (.array .byte)) (by decide))
  have Fh55 : Fld Z h52 b52 "java/lang/String" "coder" "B" (.int (0 : Int32)) := (D52 (Or.inr (hw _ (List.mem_of_getElem? (i := 30) rfl))) (ty := .byte) (by decide))
  have Vh56 : Arv Z h52 b1 k1 .char (9 : Int32) [(.int (116 : Int32)), (.int (101 : Int32)), (.int (114 : Int32)), (.int (109 : Int32)), (.int (105 : Int32)), (.int (110 : Int32)), (.int (97 : Int32)), (.int (116 : Int32)), (.int (101 : Int32))] (.int (0 : Int32)) := (Vh40.ext E52)
  have hph57 : ∀ c ∈ ([(116 : Int32), (101 : Int32), (114 : Int32), (109 : Int32), (105 : Int32), (110 : Int32), (97 : Int32), (116 : Int32), (101 : Int32)] : List Int32), ¬ c < 0 ∧ ¬ (255 : Int32) < c := (own_cS (by decide) (own_cS (by decide) (own_cS (by decide) (own_cS (by decide) (own_cS (by decide) (own_cS (by decide) (own_cS (by decide) (own_cS (by decide) (own_cS (by decide) own_c0)))))))))
  have hws_words : ∀ d ∈ StrChars.Road.words, d.before a0 Z = true := fun d hd => hw d (own_hws_words d hd)
  have Zh58 : n0 ≤ h52.size := (Nat.le_trans Z0 Kp53.1)
  have gh59 : n0 ≤ b52 := Nat.le_trans (Nat.le_trans Z0 Kp39.1) (Nat.le_of_eq g52.symm)
  have Old60 : Old Z n0 h52 := Old50.ext E52
  obtain ⟨_, _, ⟨T61, L61, k61, n61⟩, -, X61, ⟨Lc61, hQ61, l61, y61, z61⟩, st61⟩ := X52.specialBack hx (y := (⟨"java/lang/String", "<init>", "([C)V"⟩ : MethodName)) rfl hown (mvT hZ (hw _ (List.mem_of_getElem? (i := 7) rfl))) (mvT hZ (hw _ (List.mem_of_getElem? (i := 8) rfl))) (mvT hZ (hw _ (List.mem_of_getElem? (i := 9) rfl))) (by decide) (StrChars.Road.backV (W := 1) hZ hws_words (kI := 4) (hw _ (List.mem_of_getElem? (i := 5) rfl)) (cs := ([(116 : Int32), (101 : Int32), (114 : Int32), (109 : Int32), (105 : Int32), (110 : Int32), (97 : Int32), (116 : Int32), (101 : Int32)] : List Int32)) (bs := ([(116 : Int32), (101 : Int32), (114 : Int32), (109 : Int32), (105 : Int32), (110 : Int32), (97 : Int32), (116 : Int32), (101 : Int32)] : List Int32).map (fun c => c.toInt8.toInt32)) (n := 9) gh59 Zh58 A52 Fh54 Fh55 Vh56 (O_CS.ext Old60.2) P_CS rfl rfl (by decide) (by decide) hph57 rfl (by decide) (by decide)) (g := (mkF m 230 #[.val (.int p1), .val (.int (2 : Int32)), .val (.ref b1), .val (.ref k_TERMINATE), .unset, .unset] [(.ref b1), (.ref b52), (.ref b52)])) rfl (by rw [hml]; rfl) (Steps.refl _) (a := b52) (argsL := [(.ref b1)]) (rest := [(.ref b52)]) (lenOf own_pd3 rfl) rfl (by show 2 * 0 + _ ≤ _; exact Nat.le_of_eq rfl) (hb hby at_230) (fun _ _ => ⟨rfl, e52, (by decide : 2 + 1 ≤ _), (by decide : 13 + 9 ≤ _)⟩)
  dsimp only [Pt.U, Pt.locs, Pt.cells, Pt.slots] at X61 l61 y61 z61 st61 hQ61
  subst y61 z61
  obtain ⟨rfl, Nq61, Kq61, Eq61, Cq61, t61, kb61, gt61, szt61, nt61, Vq61, Bq61⟩ := hQ61
  have N61 : Fr n0 L61 := by rw [l61]; exact Fr.app N38 Nq61
  have Kp62 : Keep h0 T61.heap [] := Kp53.trans Kq61 (allS (Or.inr (Nat.le_trans Kp39.1 (Nat.le_of_eq g52.symm))) all0)
  have Old63 : Old Z n0 T61.heap := Old60.keep Kq61 (allS gh59 all0)
  obtain ⟨_, _, ⟨T64, L64, k64, n64⟩, -, X64, ⟨Lc64, hQ64, l64, y64, z64⟩, st64⟩ := Jvm.LawKit.callS X61 hx (y := (⟨"com/example/dagsverke/dagsverke/job/WorkerState", "fromWireName", "(Ljava/lang/String;)Lcom/example/dagsverke/dagsverke/job/WorkerState;"⟩ : MethodName)) hown (mvT hZ (hw _ (List.mem_of_getElem? (i := 33) rfl))) (mvT hZ (hw _ (List.mem_of_getElem? (i := 34) rfl))) (mvT hZ (hw _ (List.mem_of_getElem? (i := 2) rfl))) (mvT hZ (hw _ (List.mem_of_getElem? (i := 35) rfl))) (by decide) (backOf (W := 0) (own_rm_from_TERMINATE l Z a0 hw [] G1 k_RUNNING s_RUNNING t_RUNNING kb_RUNNING k_QUIET s_QUIET t_QUIET kb_QUIET k_TERMINATE s_TERMINATE t_TERMINATE kb_TERMINATE k_TERMINATED s_TERMINATED t_TERMINATED kb_TERMINATED k_VALUES kv_VALUES gl b52 t61 (kb61) T61.heap n0 (Nat.le_trans Z0 Kp62.1) Old63 Eq61 Vq61 Cq61 Bq61) hZ (hw _ (List.mem_of_getElem? (i := 35) rfl)) (hw _ (List.mem_of_getElem? (i := 2) rfl)) (by decide) (by decide)) (g := (mkF m 237 #[.val (.int p1), .val (.int (2 : Int32)), .val (.ref b1), .val (.ref k_TERMINATE), .val (.ref b52), .unset] [(.ref b52)])) rfl (by rw [hml]; rfl) (argsL := [(.ref b52)]) (rest := []) (lenOf own_pd4 rfl) rfl (by show 2 * 0 + _ ≤ _; exact Nat.le_of_eq rfl) (hb hby at_237) (fun _ _ => ⟨rfl, rfl, (by decide : 3 + 1 ≤ _), (by decide : 22 + 4 ≤ _)⟩)
  dsimp only [Pt.U, Pt.locs, Pt.cells, Pt.slots] at X64 l64 y64 z64 st64 hQ64
  subst y64 z64
  obtain ⟨rfl, Nq64, Kq64⟩ := hQ64
  have N64 : Fr n0 L64 := by rw [l64]; exact Fr.app N61 Nq64
  have Kp65 : Keep h0 T64.heap [] := Kp62.trans Kq64 all0
  have Old66 : Old Z n0 T64.heap := Old63.keep Kq64 all0
  obtain ⟨cq67, kq67, q67a, q67b, q67c⟩ := isOf hZ rfl (E_TERMINATE.ext Old66.2)
  obtain ⟨_, _, ⟨T67, L67, k67, n67⟩, -, X67, ⟨Lc67, hQ67, l67, y67, z67⟩, st67⟩ := X64.virtualBack hx (y := (⟨"com/example/dagsverke/dagsverke/job/WorkerState", "wireName", "()Ljava/lang/String;"⟩ : MethodName)) (z := (⟨"com/example/dagsverke/dagsverke/job/WorkerState", "wireName", "()Ljava/lang/String;"⟩ : MethodName)) hown (mvT hZ (hw _ (List.mem_of_getElem? (i := 66) rfl))) (mvT hZ (hw _ (List.mem_of_getElem? (i := 67) rfl))) (notFace_of_selects (args := #[]) (mvT hZ (hw _ (List.mem_of_getElem? (i := 69) rfl)))) (mvT hZ (hw _ (List.mem_of_getElem? (i := 69) rfl))) (mvT hZ (hw _ (List.mem_of_getElem? (i := 68) rfl))) (by decide) (backOf (W := 0) (own_rm_wn l Z a0 hw [] G1 k_RUNNING s_RUNNING t_RUNNING kb_RUNNING k_QUIET s_QUIET t_QUIET kb_QUIET k_TERMINATE s_TERMINATE t_TERMINATE kb_TERMINATE k_TERMINATED s_TERMINATED t_TERMINATED kb_TERMINATED k_VALUES kv_VALUES gl k_TERMINATE s_TERMINATE T64.heap n0 (Nat.le_trans Z0 Kp65.1) (Fs_TERMINATE.ext Old66.2)) hZ (hw _ (List.mem_of_getElem? (i := 70) rfl)) (hw _ (List.mem_of_getElem? (i := 2) rfl)) (by decide) (by decide)) q67a q67c (g := (mkF m 250 #[.val (.int p1), .val (.int (2 : Int32)), .val (.ref b1), .val (.ref k_TERMINATE), .val (.ref b52), .val (.ref k_TERMINATE)] [(.ref k_TERMINATE)])) rfl (by rw [hml]; rfl) (Steps.refl _) (argsL := []) (rest := []) (lenOf own_pd5 rfl) rfl (by show 2 * 0 + _ ≤ _; exact Nat.le_of_eq rfl) (hb hby at_250) (fun _ _ => ⟨rfl, rfl, (by decide : 4 + 0 ≤ _), (by decide : 26 + 0 ≤ _)⟩)
  dsimp only [Pt.U, Pt.locs, Pt.cells, Pt.slots] at X67 l67 y67 z67 st67 hQ67
  subst y67 z67
  obtain ⟨rfl, Nq67, e67⟩ := hQ67
  have N67 : Fr n0 L67 := by rw [l67]; exact Fr.app N64 Nq67
  have cdh68 : StrChars.Road.CodA ([(116 : Int32), (101 : Int32), (114 : Int32), (109 : Int32), (105 : Int32), (110 : Int32), (97 : Int32), (116 : Int32), (101 : Int32)] : List Int32) 0 (9 : Int32) ((([(116 : Int32), (101 : Int32), (114 : Int32), (109 : Int32), (105 : Int32), (110 : Int32), (97 : Int32), (116 : Int32), (101 : Int32)] : List Int32).map (fun c => c.toInt8.toInt32)).map Value.int) := (StrChars.Road.codOf (cs := ([(116 : Int32), (101 : Int32), (114 : Int32), (109 : Int32), (105 : Int32), (110 : Int32), (97 : Int32), (116 : Int32), (101 : Int32)] : List Int32)) (n := 9) rfl (fun c hc => (hph57 c hc).2))
  have hws_wordsEq : ∀ d ∈ StrChars.Road.wordsEq, d.before a0 Z = true := fun d hd => hw d (own_hws_wordsEq d hd)
  have Eh69 : Exa Z T64.heap b52 "java/lang/String" := (Eq61.keep Kq64)
  have Fh70 : Fld Z T64.heap b52 "java/lang/String" "value" "[B" (.ref t61) := (Vq61.keep Kq64 nin0)
  have Fh71 : Fld Z T64.heap b52 "java/lang/String" "coder" "B" (.int (0 : Int32)) := (Cq61.keep Kq64 nin0)
  have Vh72 : Arv Z T64.heap t61 kb61 .byte (9 : Int32) ((([(116 : Int32), (101 : Int32), (114 : Int32), (109 : Int32), (105 : Int32), (110 : Int32), (97 : Int32), (116 : Int32), (101 : Int32)] : List Int32).map (fun c => c.toInt8.toInt32)).map Value.int) (.int (0 : Int32)) := (Bq61.keep Kq64 nin0)
  have cdh73 : StrChars.Road.CodA ([(116 : Int32), (101 : Int32), (114 : Int32), (109 : Int32), (105 : Int32), (110 : Int32), (97 : Int32), (116 : Int32), (101 : Int32)] : List Int32) 0 (9 : Int32) ((([(116 : Int32), (101 : Int32), (114 : Int32), (109 : Int32), (105 : Int32), (110 : Int32), (97 : Int32), (116 : Int32), (101 : Int32)] : List Int32).map (fun c => c.toInt8.toInt32)).map Value.int) := (StrChars.Road.codOf (cs := ([(116 : Int32), (101 : Int32), (114 : Int32), (109 : Int32), (105 : Int32), (110 : Int32), (97 : Int32), (116 : Int32), (101 : Int32)] : List Int32)) (n := 9) rfl (fun c hc => (hph57 c hc).2))
  obtain ⟨cq74, kq74, q74a, q74b, q74c⟩ := isOf hZ e67 (Es_TERMINATE.ext Old66.2)
  obtain ⟨_, _, ⟨T74, L74, k74, n74⟩, -, X74, ⟨Lc74, hQ74, l74, y74, z74⟩, st74⟩ := X67.virtualBack hx (y := (⟨"java/lang/String", "equals", "(Ljava/lang/Object;)Z"⟩ : MethodName)) (z := (⟨"java/lang/String", "equals", "(Ljava/lang/Object;)Z"⟩ : MethodName)) hown (mvT hZ (hw _ (List.mem_of_getElem? (i := 71) rfl))) (mvT hZ (hw _ (List.mem_of_getElem? (i := 57) rfl))) (notFace_of_selects (args := #[]) (mvT hZ (hw _ (List.mem_of_getElem? (i := 59) rfl)))) (mvT hZ (hw _ (List.mem_of_getElem? (i := 59) rfl))) (mvT hZ (hw _ (List.mem_of_getElem? (i := 58) rfl))) (by decide) (StrChars.Road.eqW (W := 0) hZ hws_wordsEq (kI := 4) (hw _ (List.mem_of_getElem? (i := 5) rfl)) (Es_TERMINATE.ext Old66.2) (Fv_TERMINATE.ext Old66.2) (Fc_TERMINATE.ext Old66.2) (V_TERMINATE.ext Old66.2) cdh68 (own_up _ hph57) (Nat.le_of_ble_eq_true rfl) Eh69 Fh70 Fh71 Vh72 cdh73 (own_up _ hph57) (Nat.le_of_ble_eq_true rfl) (O_CS.ext Old66.2) P_CS (by decide) (by decide)) q74a q74c (g := (mkF m 255 #[.val (.int p1), .val (.int (2 : Int32)), .val (.ref b1), .val (.ref k_TERMINATE), .val (.ref b52), .val (.ref k_TERMINATE)] [(.ref b52), (.ref s_TERMINATE)])) rfl (by rw [hml]; rfl) (Steps.refl _) (argsL := [(.ref b52)]) (rest := []) (lenOf own_pd2 rfl) rfl (by show 2 * 0 + _ ≤ _; exact Nat.le_of_eq rfl) (hb hby at_255) (fun _ _ => ⟨rfl, e67, (by decide : 4 + 0 ≤ _), (by decide : 26 + 0 ≤ _)⟩)
  dsimp only [Pt.U, Pt.locs, Pt.cells, Pt.slots] at X74 l74 y74 z74 st74 hQ74
  subst y74 z74
  obtain ⟨hcase, rfl, e74⟩ := hQ74
  have hv74 : _ = some (Value.int 1) := hcase.elim (fun q => q.1) (fun q => absurd (rfl : ([(116 : Int32), (101 : Int32), (114 : Int32), (109 : Int32), (105 : Int32), (110 : Int32), (97 : Int32), (116 : Int32), (101 : Int32)] : List Int32) = ([(116 : Int32), (101 : Int32), (114 : Int32), (109 : Int32), (105 : Int32), (110 : Int32), (97 : Int32), (116 : Int32), (101 : Int32)] : List Int32)) q.2)
  subst hv74
  have N74 : Fr n0 L74 := by rw [l74]; exact Fr.app N67 (Fr.nil n0)
  obtain ⟨fs, hr, hrun, hended, hW, hsame⟩ := X74.leave (v := some (.int (1 : Int32))) (fun h => by rw [Bd.returns] at h; cases h)
  refine ⟨_, _, pre0 _ ?_, hrun, hended, _, _, rfl, ?_, ⟨_, rfl⟩, hW, hsame.mono (by decide) (by decide)⟩
  · show Steps p.tables e below (s₁.setTop (mkF m 0 #[.val (.int p1), .unset, .unset, .unset, .unset, .unset] [])) _
    refine XS.iloadN X0.here hx rfl (hb hby at_0) rfl ?_
    show Steps p.tables e below (s₁.setTop (mkF m 1 #[.val (.int p1), .unset, .unset, .unset, .unset, .unset] [(.int p1)])) _
    refine XS.iconst X0.here hx rfl (hb hby at_1) ?_
    show Steps p.tables e below (s₁.setTop (mkF m 2 #[.val (.int p1), .unset, .unset, .unset, .unset, .unset] [(.int (3 : Int32)), (.int p1)])) _
    refine XS.iand X0.here hx rfl (hb hby at_2) rfl ?_
    show Steps p.tables e below (s₁.setTop (mkF m 3 #[.val (.int p1), .unset, .unset, .unset, .unset, .unset] [(.int (own_a3 p1))])) _
    rw [hk]
    show Steps p.tables e below (s₁.setTop (mkF m 3 #[.val (.int p1), .unset, .unset, .unset, .unset, .unset] [(.int (2 : Int32))])) _
    refine XS.istoreN X0.here hx rfl (hb hby at_3) rfl (l' := #[.val (.int p1), .val (.int (2 : Int32)), .unset, .unset, .unset, .unset]) rfl ?_
    show Steps p.tables e below (s₁.setTop (mkF m 4 #[.val (.int p1), .val (.int (2 : Int32)), .unset, .unset, .unset, .unset] [])) _
    refine XS.iloadN X0.here hx rfl (hb hby at_4) rfl ?_
    show Steps p.tables e below (s₁.setTop (mkF m 5 #[.val (.int p1), .val (.int (2 : Int32)), .unset, .unset, .unset, .unset] [(.int (2 : Int32))])) _
    refine XS.ifYes X0.here hx rfl (pc0 := 5) (pc' := 56) rfl (hb hby at_5) rfl ((if0 _ _).trans (feq (by decide : ¬ ((2 : Int32) = (0 : Int32)))).2) (by decide) (by decide) ?_
    show Steps p.tables e below (s₁.setTop (mkF m 56 #[.val (.int p1), .val (.int (2 : Int32)), .unset, .unset, .unset, .unset] [])) _
    refine XS.iloadN X0.here hx rfl (hb hby at_56) rfl ?_
    show Steps p.tables e below (s₁.setTop (mkF m 57 #[.val (.int p1), .val (.int (2 : Int32)), .unset, .unset, .unset, .unset] [(.int (2 : Int32))])) _
    refine XS.iconst X0.here hx rfl (hb hby at_57) ?_
    show Steps p.tables e below (s₁.setTop (mkF m 58 #[.val (.int p1), .val (.int (2 : Int32)), .unset, .unset, .unset, .unset] [(.int (1 : Int32)), (.int (2 : Int32))])) _
    refine XS.icmpYes X0.here hx rfl (pc0 := 58) (pc' := 97) rfl (hb hby at_58) rfl (feq (by decide : ¬ ((2 : Int32) = (1 : Int32)))).2 (by decide) (by decide) ?_
    show Steps p.tables e below (s₁.setTop (mkF m 97 #[.val (.int p1), .val (.int (2 : Int32)), .unset, .unset, .unset, .unset] [])) _
    refine XS.iloadN X0.here hx rfl (hb hby at_97) rfl ?_
    show Steps p.tables e below (s₁.setTop (mkF m 98 #[.val (.int p1), .val (.int (2 : Int32)), .unset, .unset, .unset, .unset] [(.int (2 : Int32))])) _
    refine XS.iconst X0.here hx rfl (hb hby at_98) ?_
    show Steps p.tables e below (s₁.setTop (mkF m 99 #[.val (.int p1), .val (.int (2 : Int32)), .unset, .unset, .unset, .unset] [(.int (2 : Int32)), (.int (2 : Int32))])) _
    refine XS.icmpNo X0.here hx rfl (hb hby at_99) rfl (teq (rfl : (2 : Int32) = (2 : Int32))).2 ?_
    show Steps p.tables e below (s₁.setTop (mkF m 102 #[.val (.int p1), .val (.int (2 : Int32)), .unset, .unset, .unset, .unset] [])) _
    refine XS.bipush X0.here hx rfl (hb hby at_102) ?_
    show Steps p.tables e below (s₁.setTop (mkF m 104 #[.val (.int p1), .val (.int (2 : Int32)), .unset, .unset, .unset, .unset] [(.int (9 : Int32))])) _
    refine st1 _ ?_
    show Steps p.tables e below (T1.setTop (mkF m 106 #[.val (.int p1), .val (.int (2 : Int32)), .unset, .unset, .unset, .unset] [(.ref b1)])) _
    refine XS.dup X1.here hx rfl (hb hby at_106) rfl rfl ?_
    show Steps p.tables e below (T1.setTop (mkF m 107 #[.val (.int p1), .val (.int (2 : Int32)), .unset, .unset, .unset, .unset] [(.ref b1), (.ref b1)])) _
    refine XS.iconst X1.here hx rfl (hb hby at_107) ?_
    show Steps p.tables e below (T1.setTop (mkF m 108 #[.val (.int p1), .val (.int (2 : Int32)), .unset, .unset, .unset, .unset] [(.int (0 : Int32)), (.ref b1), (.ref b1)])) _
    refine XS.bipush X1.here hx rfl (hb hby at_108) ?_
    show Steps p.tables e below (T1.setTop (mkF m 110 #[.val (.int p1), .val (.int (2 : Int32)), .unset, .unset, .unset, .unset] [(.int (116 : Int32)), (.int (0 : Int32)), (.ref b1), (.ref b1)])) _
    refine st5 _ ?_
    show Steps p.tables e below (T5.setTop (mkF m 111 #[.val (.int p1), .val (.int (2 : Int32)), .unset, .unset, .unset, .unset] [(.ref b1)])) _
    refine XS.dup X5.here hx rfl (hb hby at_111) rfl rfl ?_
    show Steps p.tables e below (T5.setTop (mkF m 112 #[.val (.int p1), .val (.int (2 : Int32)), .unset, .unset, .unset, .unset] [(.ref b1), (.ref b1)])) _
    refine XS.iconst X5.here hx rfl (hb hby at_112) ?_
    show Steps p.tables e below (T5.setTop (mkF m 113 #[.val (.int p1), .val (.int (2 : Int32)), .unset, .unset, .unset, .unset] [(.int (1 : Int32)), (.ref b1), (.ref b1)])) _
    refine XS.bipush X5.here hx rfl (hb hby at_113) ?_
    show Steps p.tables e below (T5.setTop (mkF m 115 #[.val (.int p1), .val (.int (2 : Int32)), .unset, .unset, .unset, .unset] [(.int (101 : Int32)), (.int (1 : Int32)), (.ref b1), (.ref b1)])) _
    refine st10 _ ?_
    show Steps p.tables e below (T10.setTop (mkF m 116 #[.val (.int p1), .val (.int (2 : Int32)), .unset, .unset, .unset, .unset] [(.ref b1)])) _
    refine XS.dup X10.here hx rfl (hb hby at_116) rfl rfl ?_
    show Steps p.tables e below (T10.setTop (mkF m 117 #[.val (.int p1), .val (.int (2 : Int32)), .unset, .unset, .unset, .unset] [(.ref b1), (.ref b1)])) _
    refine XS.iconst X10.here hx rfl (hb hby at_117) ?_
    show Steps p.tables e below (T10.setTop (mkF m 118 #[.val (.int p1), .val (.int (2 : Int32)), .unset, .unset, .unset, .unset] [(.int (2 : Int32)), (.ref b1), (.ref b1)])) _
    refine XS.bipush X10.here hx rfl (hb hby at_118) ?_
    show Steps p.tables e below (T10.setTop (mkF m 120 #[.val (.int p1), .val (.int (2 : Int32)), .unset, .unset, .unset, .unset] [(.int (114 : Int32)), (.int (2 : Int32)), (.ref b1), (.ref b1)])) _
    refine st14 _ ?_
    show Steps p.tables e below (T14.setTop (mkF m 121 #[.val (.int p1), .val (.int (2 : Int32)), .unset, .unset, .unset, .unset] [(.ref b1)])) _
    refine XS.dup X14.here hx rfl (hb hby at_121) rfl rfl ?_
    show Steps p.tables e below (T14.setTop (mkF m 122 #[.val (.int p1), .val (.int (2 : Int32)), .unset, .unset, .unset, .unset] [(.ref b1), (.ref b1)])) _
    refine XS.iconst X14.here hx rfl (hb hby at_122) ?_
    show Steps p.tables e below (T14.setTop (mkF m 123 #[.val (.int p1), .val (.int (2 : Int32)), .unset, .unset, .unset, .unset] [(.int (3 : Int32)), (.ref b1), (.ref b1)])) _
    refine XS.bipush X14.here hx rfl (hb hby at_123) ?_
    show Steps p.tables e below (T14.setTop (mkF m 125 #[.val (.int p1), .val (.int (2 : Int32)), .unset, .unset, .unset, .unset] [(.int (109 : Int32)), (.int (3 : Int32)), (.ref b1), (.ref b1)])) _
    refine st18 _ ?_
    show Steps p.tables e below (T18.setTop (mkF m 126 #[.val (.int p1), .val (.int (2 : Int32)), .unset, .unset, .unset, .unset] [(.ref b1)])) _
    refine XS.dup X18.here hx rfl (hb hby at_126) rfl rfl ?_
    show Steps p.tables e below (T18.setTop (mkF m 127 #[.val (.int p1), .val (.int (2 : Int32)), .unset, .unset, .unset, .unset] [(.ref b1), (.ref b1)])) _
    refine XS.iconst X18.here hx rfl (hb hby at_127) ?_
    show Steps p.tables e below (T18.setTop (mkF m 128 #[.val (.int p1), .val (.int (2 : Int32)), .unset, .unset, .unset, .unset] [(.int (4 : Int32)), (.ref b1), (.ref b1)])) _
    refine XS.bipush X18.here hx rfl (hb hby at_128) ?_
    show Steps p.tables e below (T18.setTop (mkF m 130 #[.val (.int p1), .val (.int (2 : Int32)), .unset, .unset, .unset, .unset] [(.int (105 : Int32)), (.int (4 : Int32)), (.ref b1), (.ref b1)])) _
    refine st22 _ ?_
    show Steps p.tables e below (T22.setTop (mkF m 131 #[.val (.int p1), .val (.int (2 : Int32)), .unset, .unset, .unset, .unset] [(.ref b1)])) _
    refine XS.dup X22.here hx rfl (hb hby at_131) rfl rfl ?_
    show Steps p.tables e below (T22.setTop (mkF m 132 #[.val (.int p1), .val (.int (2 : Int32)), .unset, .unset, .unset, .unset] [(.ref b1), (.ref b1)])) _
    refine XS.iconst X22.here hx rfl (hb hby at_132) ?_
    show Steps p.tables e below (T22.setTop (mkF m 133 #[.val (.int p1), .val (.int (2 : Int32)), .unset, .unset, .unset, .unset] [(.int (5 : Int32)), (.ref b1), (.ref b1)])) _
    refine XS.bipush X22.here hx rfl (hb hby at_133) ?_
    show Steps p.tables e below (T22.setTop (mkF m 135 #[.val (.int p1), .val (.int (2 : Int32)), .unset, .unset, .unset, .unset] [(.int (110 : Int32)), (.int (5 : Int32)), (.ref b1), (.ref b1)])) _
    refine st26 _ ?_
    show Steps p.tables e below (T26.setTop (mkF m 136 #[.val (.int p1), .val (.int (2 : Int32)), .unset, .unset, .unset, .unset] [(.ref b1)])) _
    refine XS.dup X26.here hx rfl (hb hby at_136) rfl rfl ?_
    show Steps p.tables e below (T26.setTop (mkF m 137 #[.val (.int p1), .val (.int (2 : Int32)), .unset, .unset, .unset, .unset] [(.ref b1), (.ref b1)])) _
    refine XS.bipush X26.here hx rfl (hb hby at_137) ?_
    show Steps p.tables e below (T26.setTop (mkF m 139 #[.val (.int p1), .val (.int (2 : Int32)), .unset, .unset, .unset, .unset] [(.int (6 : Int32)), (.ref b1), (.ref b1)])) _
    refine XS.bipush X26.here hx rfl (hb hby at_139) ?_
    show Steps p.tables e below (T26.setTop (mkF m 141 #[.val (.int p1), .val (.int (2 : Int32)), .unset, .unset, .unset, .unset] [(.int (97 : Int32)), (.int (6 : Int32)), (.ref b1), (.ref b1)])) _
    refine st30 _ ?_
    show Steps p.tables e below (T30.setTop (mkF m 142 #[.val (.int p1), .val (.int (2 : Int32)), .unset, .unset, .unset, .unset] [(.ref b1)])) _
    refine XS.dup X30.here hx rfl (hb hby at_142) rfl rfl ?_
    show Steps p.tables e below (T30.setTop (mkF m 143 #[.val (.int p1), .val (.int (2 : Int32)), .unset, .unset, .unset, .unset] [(.ref b1), (.ref b1)])) _
    refine XS.bipush X30.here hx rfl (hb hby at_143) ?_
    show Steps p.tables e below (T30.setTop (mkF m 145 #[.val (.int p1), .val (.int (2 : Int32)), .unset, .unset, .unset, .unset] [(.int (7 : Int32)), (.ref b1), (.ref b1)])) _
    refine XS.bipush X30.here hx rfl (hb hby at_145) ?_
    show Steps p.tables e below (T30.setTop (mkF m 147 #[.val (.int p1), .val (.int (2 : Int32)), .unset, .unset, .unset, .unset] [(.int (116 : Int32)), (.int (7 : Int32)), (.ref b1), (.ref b1)])) _
    refine st34 _ ?_
    show Steps p.tables e below (T34.setTop (mkF m 148 #[.val (.int p1), .val (.int (2 : Int32)), .unset, .unset, .unset, .unset] [(.ref b1)])) _
    refine XS.dup X34.here hx rfl (hb hby at_148) rfl rfl ?_
    show Steps p.tables e below (T34.setTop (mkF m 149 #[.val (.int p1), .val (.int (2 : Int32)), .unset, .unset, .unset, .unset] [(.ref b1), (.ref b1)])) _
    refine XS.bipush X34.here hx rfl (hb hby at_149) ?_
    show Steps p.tables e below (T34.setTop (mkF m 151 #[.val (.int p1), .val (.int (2 : Int32)), .unset, .unset, .unset, .unset] [(.int (8 : Int32)), (.ref b1), (.ref b1)])) _
    refine XS.bipush X34.here hx rfl (hb hby at_151) ?_
    show Steps p.tables e below (T34.setTop (mkF m 153 #[.val (.int p1), .val (.int (2 : Int32)), .unset, .unset, .unset, .unset] [(.int (101 : Int32)), (.int (8 : Int32)), (.ref b1), (.ref b1)])) _
    refine st38 _ ?_
    show Steps p.tables e below (T38.setTop (mkF m 154 #[.val (.int p1), .val (.int (2 : Int32)), .unset, .unset, .unset, .unset] [(.ref b1)])) _
    refine XS.astoreN X38.here hx rfl (hb hby at_154) rfl rfl (l' := #[.val (.int p1), .val (.int (2 : Int32)), .val (.ref b1), .unset, .unset, .unset]) rfl ?_
    show Steps p.tables e below (T38.setTop (mkF m 155 #[.val (.int p1), .val (.int (2 : Int32)), .val (.ref b1), .unset, .unset, .unset] [])) _
    refine st51 _ ?_
    show Steps p.tables e below (T51.setTop (mkF m 158 #[.val (.int p1), .val (.int (2 : Int32)), .val (.ref b1), .unset, .unset, .unset] [(.ref k_TERMINATE)])) _
    refine XS.astoreN X51.here hx rfl (hb hby at_158) rfl rfl (l' := #[.val (.int p1), .val (.int (2 : Int32)), .val (.ref b1), .val (.ref k_TERMINATE), .unset, .unset]) rfl ?_
    show Steps p.tables e below (T51.setTop (mkF m 159 #[.val (.int p1), .val (.int (2 : Int32)), .val (.ref b1), .val (.ref k_TERMINATE), .unset, .unset] [])) _
    refine XS.goto X51.here hx rfl (pc0 := 159) (pc' := 225) rfl (hb hby at_159) (by decide) (by decide) ?_
    show Steps p.tables e below (T51.setTop (mkF m 225 #[.val (.int p1), .val (.int (2 : Int32)), .val (.ref b1), .val (.ref k_TERMINATE), .unset, .unset] [])) _
    refine st52 _ ?_
    show Steps p.tables e below (T52.setTop (mkF m 228 #[.val (.int p1), .val (.int (2 : Int32)), .val (.ref b1), .val (.ref k_TERMINATE), .unset, .unset] [(.ref b52)])) _
    refine XS.dup X52.here hx rfl (hb hby at_228) rfl rfl ?_
    show Steps p.tables e below (T52.setTop (mkF m 229 #[.val (.int p1), .val (.int (2 : Int32)), .val (.ref b1), .val (.ref k_TERMINATE), .unset, .unset] [(.ref b52), (.ref b52)])) _
    refine XS.aloadN X52.here hx rfl (hb hby at_229) rfl rfl ?_
    show Steps p.tables e below (T52.setTop (mkF m 230 #[.val (.int p1), .val (.int (2 : Int32)), .val (.ref b1), .val (.ref k_TERMINATE), .unset, .unset] [(.ref b1), (.ref b52), (.ref b52)])) _
    refine st61.trans ?_
    show Steps p.tables e below (T61.setTop (mkF m 233 #[.val (.int p1), .val (.int (2 : Int32)), .val (.ref b1), .val (.ref k_TERMINATE), .unset, .unset] [(.ref b52)])) _
    refine XS.astore X61.here hx rfl (hb hby at_233) rfl rfl (l' := #[.val (.int p1), .val (.int (2 : Int32)), .val (.ref b1), .val (.ref k_TERMINATE), .val (.ref b52), .unset]) rfl ?_
    show Steps p.tables e below (T61.setTop (mkF m 235 #[.val (.int p1), .val (.int (2 : Int32)), .val (.ref b1), .val (.ref k_TERMINATE), .val (.ref b52), .unset] [])) _
    refine XS.aload X61.here hx rfl (hb hby at_235) rfl rfl ?_
    show Steps p.tables e below (T61.setTop (mkF m 237 #[.val (.int p1), .val (.int (2 : Int32)), .val (.ref b1), .val (.ref k_TERMINATE), .val (.ref b52), .unset] [(.ref b52)])) _
    refine st64 _ ?_
    show Steps p.tables e below (T64.setTop (mkF m 240 #[.val (.int p1), .val (.int (2 : Int32)), .val (.ref b1), .val (.ref k_TERMINATE), .val (.ref b52), .unset] [(.ref k_TERMINATE)])) _
    refine XS.astore X64.here hx rfl (hb hby at_240) rfl rfl (l' := #[.val (.int p1), .val (.int (2 : Int32)), .val (.ref b1), .val (.ref k_TERMINATE), .val (.ref b52), .val (.ref k_TERMINATE)]) rfl ?_
    show Steps p.tables e below (T64.setTop (mkF m 242 #[.val (.int p1), .val (.int (2 : Int32)), .val (.ref b1), .val (.ref k_TERMINATE), .val (.ref b52), .val (.ref k_TERMINATE)] [])) _
    refine XS.aload X64.here hx rfl (hb hby at_242) rfl rfl ?_
    show Steps p.tables e below (T64.setTop (mkF m 244 #[.val (.int p1), .val (.int (2 : Int32)), .val (.ref b1), .val (.ref k_TERMINATE), .val (.ref b52), .val (.ref k_TERMINATE)] [(.ref k_TERMINATE)])) _
    refine XS.aloadN X64.here hx rfl (hb hby at_244) rfl rfl ?_
    show Steps p.tables e below (T64.setTop (mkF m 245 #[.val (.int p1), .val (.int (2 : Int32)), .val (.ref b1), .val (.ref k_TERMINATE), .val (.ref b52), .val (.ref k_TERMINATE)] [(.ref k_TERMINATE), (.ref k_TERMINATE)])) _
    refine Jvm.RoadKit.acmp (g := (mkF m 245 #[.val (.int p1), .val (.int (2 : Int32)), .val (.ref b1), .val (.ref k_TERMINATE), .val (.ref b52), .val (.ref k_TERMINATE)] [(.ref k_TERMINATE), (.ref k_TERMINATE)])) X64 hx rfl rfl rfl (pc0 := 245) (pc' := 248) (same := true) rfl (hb hby at_245) rfl (decide_eq_true rfl) (by decide) (by decide) ?_
    show Steps p.tables e below (T64.setTop (mkF m 248 #[.val (.int p1), .val (.int (2 : Int32)), .val (.ref b1), .val (.ref k_TERMINATE), .val (.ref b52), .val (.ref k_TERMINATE)] [])) _
    refine XS.aload X64.here hx rfl (hb hby at_248) rfl rfl ?_
    show Steps p.tables e below (T64.setTop (mkF m 250 #[.val (.int p1), .val (.int (2 : Int32)), .val (.ref b1), .val (.ref k_TERMINATE), .val (.ref b52), .val (.ref k_TERMINATE)] [(.ref k_TERMINATE)])) _
    refine st67.trans ?_
    show Steps p.tables e below (T67.setTop (mkF m 253 #[.val (.int p1), .val (.int (2 : Int32)), .val (.ref b1), .val (.ref k_TERMINATE), .val (.ref b52), .val (.ref k_TERMINATE)] [(.ref s_TERMINATE)])) _
    refine XS.aload X67.here hx rfl (hb hby at_253) rfl rfl ?_
    show Steps p.tables e below (T67.setTop (mkF m 255 #[.val (.int p1), .val (.int (2 : Int32)), .val (.ref b1), .val (.ref k_TERMINATE), .val (.ref b52), .val (.ref k_TERMINATE)] [(.ref b52), (.ref s_TERMINATE)])) _
    refine st74.trans ?_
    show Steps p.tables e below (T74.setTop (mkF m 258 #[.val (.int p1), .val (.int (2 : Int32)), .val (.ref b1), .val (.ref k_TERMINATE), .val (.ref b52), .val (.ref k_TERMINATE)] [(.int (1 : Int32))])) _
    refine XS.ifNo X74.here hx rfl (hb hby at_258) rfl ((if0 _ _).trans (feq (by decide : ¬ ((1 : Int32) = (0 : Int32)))).1) ?_
    show Steps p.tables e below (T74.setTop (mkF m 261 #[.val (.int p1), .val (.int (2 : Int32)), .val (.ref b1), .val (.ref k_TERMINATE), .val (.ref b52), .val (.ref k_TERMINATE)] [])) _
    refine XS.iconst X74.here hx rfl (hb hby at_261) ?_
    show Steps p.tables e below (T74.setTop (mkF m 262 #[.val (.int p1), .val (.int (2 : Int32)), .val (.ref b1), .val (.ref k_TERMINATE), .val (.ref b52), .val (.ref k_TERMINATE)] [(.int (1 : Int32))])) _
    refine XS.goto X74.here hx rfl (pc0 := 262) (pc' := 266) rfl (hb hby at_262) (by decide) (by decide) ?_
    show Steps p.tables e below (T74.setTop (mkF m 266 #[.val (.int p1), .val (.int (2 : Int32)), .val (.ref b1), .val (.ref k_TERMINATE), .val (.ref b52), .val (.ref k_TERMINATE)] [(.int (1 : Int32))])) _
    exact retN X74 hx (t := .boolean) Bd.returns (by simp) (hb hby at_266) hr
  · show own_Qlaw h0 n0 _ T74.heap _
    exact ⟨rfl, N74⟩
theorem own_eflaw3 (m : MethodId) (p1 : Int32) : entryFrame m #[(.int p1)] maxLocals = mkF m 0 #[.val (.int p1), .unset, .unset, .unset, .unset, .unset] [] := by first | (simp [entryFrame, mkF, argsToLocals, Value.category, maxLocals]; done) | rfl
set_option maxRecDepth 65536 in
set_option maxHeartbeats 40000000 in
theorem own_law3 (l : Launch) (Z : State) (a0 : Array Value) (hw : ∀ d ∈ tables_1, d.before a0 Z = true) (ws : List Jvm.Cond) (G1 : Int32) (k_RUNNING : Addr) (s_RUNNING : Addr) (t_RUNNING : Addr) (kb_RUNNING : ClassId) (k_QUIET : Addr) (s_QUIET : Addr) (t_QUIET : Addr) (kb_QUIET : ClassId) (k_TERMINATE : Addr) (s_TERMINATE : Addr) (t_TERMINATE : Addr) (kb_TERMINATE : ClassId) (k_TERMINATED : Addr) (s_TERMINATED : Addr) (t_TERMINATED : Addr) (kb_TERMINATED : ClassId) (k_VALUES : Addr) (kv_VALUES : ClassId) (gl : own_Glob Z G1 k_RUNNING s_RUNNING t_RUNNING kb_RUNNING k_QUIET s_QUIET t_QUIET kb_QUIET k_TERMINATE s_TERMINATE t_TERMINATE kb_TERMINATE k_TERMINATED s_TERMINATED t_TERMINATED kb_TERMINATED k_VALUES kv_VALUES) (p1 : Int32) (h0 : Heap) (n0 : Nat) (Z0 : n0 ≤ h0.size) (X00 : Old Z n0 h0) (hk : own_a3 p1 = 3) :
    MetFree l x (head1 (Jvm.Cond.code x code maxLocals ret :: ws) room_1) (fun a U => a = #[(.int p1)] ∧ Z.Warmed39 U.vm ∧ U.heap = h0) (fun _ _ _ _ _ => True) (fun _ U o U' => ∃ v L, o = .returned v ∧ own_Qlaw h0 n0 v U'.heap L ∧ FrameEnd U o U' L room_1.cells room_1.slots) := by
  refine MetFree.of_bodySF (plainFor_of_name own_pn6) hisR ?_
  intro p e s m args below meth c s₁ Bd hml0 hP hK
  obtain ⟨rfl, hZ, hh⟩ := hP
  obtain ⟨O_CS, P_CS, O_RUNNING, E_RUNNING, Fs_RUNNING, Es_RUNNING, Fc_RUNNING, Fv_RUNNING, V_RUNNING, O_QUIET, E_QUIET, Fs_QUIET, Es_QUIET, Fc_QUIET, Fv_QUIET, V_QUIET, O_TERMINATE, E_TERMINATE, Fs_TERMINATE, Es_TERMINATE, Fc_TERMINATE, Fv_TERMINATE, V_TERMINATE, O_TERMINATED, E_TERMINATED, Fs_TERMINATED, Es_TERMINATED, Fc_TERMINATED, Fv_TERMINATED, V_TERMINATED, O_VALUES, E_VALUES, V_VALUES⟩ := id gl
  have hx := Bd.exec
  have hby := Bd.bytes
  have hml : c.maxLocals = 6 := hml0
  have hown : s.vm.findClass "com/example/dagsverke/dagsverke/job/WorkerStateFromWireNamePinLaw" = some m.cls := findClass_of_methodNamed Bd.named
  have hnm := (name_of_methodNamed Bd.named Bd.method).1
  have X0 : Stand p l e room_1 s m #[(.int p1)] below meth c s₁ [] 0 0 := Stand.of_body Bd
  have e0 : s₁.heap = h0 := by rw [← hh, Bd.state]; rfl
  have N0 := Fr.nil n0
  have pre0 : ∀ t, Steps p.tables e below (s₁.setTop (mkF m 0 #[.val (.int p1), .unset, .unset, .unset, .unset, .unset] [])) t → Steps p.tables e below (s₁.setTop (entryFrame m #[(.int p1)] maxLocals)) t := fun t k => castTop (own_eflaw3 m p1) k
  obtain ⟨T1, h1, k1, X1, e1, E1, A1, st1⟩ := newP X0 hx hZ (hw _ (List.mem_of_getElem? (i := 0) rfl)) e0 (g := (mkF m 164 #[.val (.int p1), .val (.int (3 : Int32)), .unset, .unset, .unset, .unset] [(.int (10 : Int32))])) rfl (hb hby at_164) rfl (by decide) (cap := 10) (by decide) (by decide) (by decide) (by decide)
  obtain ⟨b1, g1⟩ : ∃ z, z = h0.size := ⟨_, rfl⟩
  rw [← g1] at A1 st1
  have Kp2 : Keep h0 h1 [] := (Keep.refl h0 []).ext E1
  have Vh3 : Arv Z h1 b1 k1 .char (10 : Int32) [(.int (0 : Int32)), (.int (0 : Int32)), (.int (0 : Int32)), (.int (0 : Int32)), (.int (0 : Int32)), (.int (0 : Int32)), (.int (0 : Int32)), (.int (0 : Int32)), (.int (0 : Int32)), (.int (0 : Int32))] (.int (0 : Int32)) := (Arv.new A1 (by decide)).pad (pad_rep [] (.int (0 : Int32)) 10)
  obtain ⟨cl4, Ar4, qc4, Sz4, Ng4, Hs4, Gs4⟩ := id Vh3
  have hin4 : ¬ ((0 : Int32) < 0 ∨ cl4.slots.size ≤ ((0 : Int32)).toNatClampNeg) := inb_of Sz4 ⟨(by decide), (by decide)⟩
  obtain ⟨T5, h5, X5, e5, W5, st5⟩ := stC X1 hx hZ e1 Ar4 (j := (0 : Int32)) hin4 (g := (mkF m 170 #[.val (.int p1), .val (.int (3 : Int32)), .unset, .unset, .unset, .unset] [(.int (116 : Int32)), (.int (0 : Int32)), (.ref b1), (.ref b1)])) rfl rfl (hb hby at_170)
  have Kp6 : Keep h0 h5 [] := Kp2.wr W5 (Or.inr (Nat.le_trans (Keep.refl h0 []).1 (Nat.le_of_eq g1.symm)))
  have gh7 : n0 ≤ b1 := Nat.le_trans Z0 (Nat.le_of_eq g1.symm)
  obtain ⟨Lp5, X5, N5⟩ := own_pack X5 (Fr.snoc X5 N0 gh7)
  have Vh8 : Arv Z h5 b1 k1 .char (10 : Int32) [(.int (116 : Int32)), (.int (0 : Int32)), (.int (0 : Int32)), (.int (0 : Int32)), (.int (0 : Int32)), (.int (0 : Int32)), (.int (0 : Int32)), (.int (0 : Int32)), (.int (0 : Int32)), (.int (0 : Int32))] (.int (0 : Int32)) := (Arv.set Ar4 qc4 Sz4 Ng4 Hs4 Gs4 rfl W5 0 rfl (Nat.le_of_ble_eq_true rfl))
  obtain ⟨cl9, Ar9, qc9, Sz9, Ng9, Hs9, Gs9⟩ := id Vh8
  have hin9 : ¬ ((1 : Int32) < 0 ∨ cl9.slots.size ≤ ((1 : Int32)).toNatClampNeg) := inb_of Sz9 ⟨(by decide), (by decide)⟩
  obtain ⟨T10, h10, X10, e10, W10, st10⟩ := stC X5 hx hZ e5 Ar9 (j := (1 : Int32)) hin9 (g := (mkF m 175 #[.val (.int p1), .val (.int (3 : Int32)), .unset, .unset, .unset, .unset] [(.int (101 : Int32)), (.int (1 : Int32)), (.ref b1), (.ref b1)])) rfl rfl (hb hby at_175)
  have Kp11 : Keep h0 h10 [] := Kp6.wr W10 (Or.inr (Nat.le_trans (Keep.refl h0 []).1 (Nat.le_of_eq g1.symm)))
  obtain ⟨Lp10, X10, N10⟩ := own_pack X10 (Fr.snoc X10 N5 gh7)
  have Vh12 : Arv Z h10 b1 k1 .char (10 : Int32) [(.int (116 : Int32)), (.int (101 : Int32)), (.int (0 : Int32)), (.int (0 : Int32)), (.int (0 : Int32)), (.int (0 : Int32)), (.int (0 : Int32)), (.int (0 : Int32)), (.int (0 : Int32)), (.int (0 : Int32))] (.int (0 : Int32)) := (Arv.set Ar9 qc9 Sz9 Ng9 Hs9 Gs9 rfl W10 1 rfl (Nat.le_of_ble_eq_true rfl))
  obtain ⟨cl13, Ar13, qc13, Sz13, Ng13, Hs13, Gs13⟩ := id Vh12
  have hin13 : ¬ ((2 : Int32) < 0 ∨ cl13.slots.size ≤ ((2 : Int32)).toNatClampNeg) := inb_of Sz13 ⟨(by decide), (by decide)⟩
  obtain ⟨T14, h14, X14, e14, W14, st14⟩ := stC X10 hx hZ e10 Ar13 (j := (2 : Int32)) hin13 (g := (mkF m 180 #[.val (.int p1), .val (.int (3 : Int32)), .unset, .unset, .unset, .unset] [(.int (114 : Int32)), (.int (2 : Int32)), (.ref b1), (.ref b1)])) rfl rfl (hb hby at_180)
  have Kp15 : Keep h0 h14 [] := Kp11.wr W14 (Or.inr (Nat.le_trans (Keep.refl h0 []).1 (Nat.le_of_eq g1.symm)))
  obtain ⟨Lp14, X14, N14⟩ := own_pack X14 (Fr.snoc X14 N10 gh7)
  have Vh16 : Arv Z h14 b1 k1 .char (10 : Int32) [(.int (116 : Int32)), (.int (101 : Int32)), (.int (114 : Int32)), (.int (0 : Int32)), (.int (0 : Int32)), (.int (0 : Int32)), (.int (0 : Int32)), (.int (0 : Int32)), (.int (0 : Int32)), (.int (0 : Int32))] (.int (0 : Int32)) := (Arv.set Ar13 qc13 Sz13 Ng13 Hs13 Gs13 rfl W14 2 rfl (Nat.le_of_ble_eq_true rfl))
  obtain ⟨cl17, Ar17, qc17, Sz17, Ng17, Hs17, Gs17⟩ := id Vh16
  have hin17 : ¬ ((3 : Int32) < 0 ∨ cl17.slots.size ≤ ((3 : Int32)).toNatClampNeg) := inb_of Sz17 ⟨(by decide), (by decide)⟩
  obtain ⟨T18, h18, X18, e18, W18, st18⟩ := stC X14 hx hZ e14 Ar17 (j := (3 : Int32)) hin17 (g := (mkF m 185 #[.val (.int p1), .val (.int (3 : Int32)), .unset, .unset, .unset, .unset] [(.int (109 : Int32)), (.int (3 : Int32)), (.ref b1), (.ref b1)])) rfl rfl (hb hby at_185)
  have Kp19 : Keep h0 h18 [] := Kp15.wr W18 (Or.inr (Nat.le_trans (Keep.refl h0 []).1 (Nat.le_of_eq g1.symm)))
  obtain ⟨Lp18, X18, N18⟩ := own_pack X18 (Fr.snoc X18 N14 gh7)
  have Vh20 : Arv Z h18 b1 k1 .char (10 : Int32) [(.int (116 : Int32)), (.int (101 : Int32)), (.int (114 : Int32)), (.int (109 : Int32)), (.int (0 : Int32)), (.int (0 : Int32)), (.int (0 : Int32)), (.int (0 : Int32)), (.int (0 : Int32)), (.int (0 : Int32))] (.int (0 : Int32)) := (Arv.set Ar17 qc17 Sz17 Ng17 Hs17 Gs17 rfl W18 3 rfl (Nat.le_of_ble_eq_true rfl))
  obtain ⟨cl21, Ar21, qc21, Sz21, Ng21, Hs21, Gs21⟩ := id Vh20
  have hin21 : ¬ ((4 : Int32) < 0 ∨ cl21.slots.size ≤ ((4 : Int32)).toNatClampNeg) := inb_of Sz21 ⟨(by decide), (by decide)⟩
  obtain ⟨T22, h22, X22, e22, W22, st22⟩ := stC X18 hx hZ e18 Ar21 (j := (4 : Int32)) hin21 (g := (mkF m 190 #[.val (.int p1), .val (.int (3 : Int32)), .unset, .unset, .unset, .unset] [(.int (105 : Int32)), (.int (4 : Int32)), (.ref b1), (.ref b1)])) rfl rfl (hb hby at_190)
  have Kp23 : Keep h0 h22 [] := Kp19.wr W22 (Or.inr (Nat.le_trans (Keep.refl h0 []).1 (Nat.le_of_eq g1.symm)))
  obtain ⟨Lp22, X22, N22⟩ := own_pack X22 (Fr.snoc X22 N18 gh7)
  have Vh24 : Arv Z h22 b1 k1 .char (10 : Int32) [(.int (116 : Int32)), (.int (101 : Int32)), (.int (114 : Int32)), (.int (109 : Int32)), (.int (105 : Int32)), (.int (0 : Int32)), (.int (0 : Int32)), (.int (0 : Int32)), (.int (0 : Int32)), (.int (0 : Int32))] (.int (0 : Int32)) := (Arv.set Ar21 qc21 Sz21 Ng21 Hs21 Gs21 rfl W22 4 rfl (Nat.le_of_ble_eq_true rfl))
  obtain ⟨cl25, Ar25, qc25, Sz25, Ng25, Hs25, Gs25⟩ := id Vh24
  have hin25 : ¬ ((5 : Int32) < 0 ∨ cl25.slots.size ≤ ((5 : Int32)).toNatClampNeg) := inb_of Sz25 ⟨(by decide), (by decide)⟩
  obtain ⟨T26, h26, X26, e26, W26, st26⟩ := stC X22 hx hZ e22 Ar25 (j := (5 : Int32)) hin25 (g := (mkF m 195 #[.val (.int p1), .val (.int (3 : Int32)), .unset, .unset, .unset, .unset] [(.int (110 : Int32)), (.int (5 : Int32)), (.ref b1), (.ref b1)])) rfl rfl (hb hby at_195)
  have Kp27 : Keep h0 h26 [] := Kp23.wr W26 (Or.inr (Nat.le_trans (Keep.refl h0 []).1 (Nat.le_of_eq g1.symm)))
  obtain ⟨Lp26, X26, N26⟩ := own_pack X26 (Fr.snoc X26 N22 gh7)
  have Vh28 : Arv Z h26 b1 k1 .char (10 : Int32) [(.int (116 : Int32)), (.int (101 : Int32)), (.int (114 : Int32)), (.int (109 : Int32)), (.int (105 : Int32)), (.int (110 : Int32)), (.int (0 : Int32)), (.int (0 : Int32)), (.int (0 : Int32)), (.int (0 : Int32))] (.int (0 : Int32)) := (Arv.set Ar25 qc25 Sz25 Ng25 Hs25 Gs25 rfl W26 5 rfl (Nat.le_of_ble_eq_true rfl))
  obtain ⟨cl29, Ar29, qc29, Sz29, Ng29, Hs29, Gs29⟩ := id Vh28
  have hin29 : ¬ ((6 : Int32) < 0 ∨ cl29.slots.size ≤ ((6 : Int32)).toNatClampNeg) := inb_of Sz29 ⟨(by decide), (by decide)⟩
  obtain ⟨T30, h30, X30, e30, W30, st30⟩ := stC X26 hx hZ e26 Ar29 (j := (6 : Int32)) hin29 (g := (mkF m 201 #[.val (.int p1), .val (.int (3 : Int32)), .unset, .unset, .unset, .unset] [(.int (97 : Int32)), (.int (6 : Int32)), (.ref b1), (.ref b1)])) rfl rfl (hb hby at_201)
  have Kp31 : Keep h0 h30 [] := Kp27.wr W30 (Or.inr (Nat.le_trans (Keep.refl h0 []).1 (Nat.le_of_eq g1.symm)))
  obtain ⟨Lp30, X30, N30⟩ := own_pack X30 (Fr.snoc X30 N26 gh7)
  have Vh32 : Arv Z h30 b1 k1 .char (10 : Int32) [(.int (116 : Int32)), (.int (101 : Int32)), (.int (114 : Int32)), (.int (109 : Int32)), (.int (105 : Int32)), (.int (110 : Int32)), (.int (97 : Int32)), (.int (0 : Int32)), (.int (0 : Int32)), (.int (0 : Int32))] (.int (0 : Int32)) := (Arv.set Ar29 qc29 Sz29 Ng29 Hs29 Gs29 rfl W30 6 rfl (Nat.le_of_ble_eq_true rfl))
  obtain ⟨cl33, Ar33, qc33, Sz33, Ng33, Hs33, Gs33⟩ := id Vh32
  have hin33 : ¬ ((7 : Int32) < 0 ∨ cl33.slots.size ≤ ((7 : Int32)).toNatClampNeg) := inb_of Sz33 ⟨(by decide), (by decide)⟩
  obtain ⟨T34, h34, X34, e34, W34, st34⟩ := stC X30 hx hZ e30 Ar33 (j := (7 : Int32)) hin33 (g := (mkF m 207 #[.val (.int p1), .val (.int (3 : Int32)), .unset, .unset, .unset, .unset] [(.int (116 : Int32)), (.int (7 : Int32)), (.ref b1), (.ref b1)])) rfl rfl (hb hby at_207)
  have Kp35 : Keep h0 h34 [] := Kp31.wr W34 (Or.inr (Nat.le_trans (Keep.refl h0 []).1 (Nat.le_of_eq g1.symm)))
  obtain ⟨Lp34, X34, N34⟩ := own_pack X34 (Fr.snoc X34 N30 gh7)
  have Vh36 : Arv Z h34 b1 k1 .char (10 : Int32) [(.int (116 : Int32)), (.int (101 : Int32)), (.int (114 : Int32)), (.int (109 : Int32)), (.int (105 : Int32)), (.int (110 : Int32)), (.int (97 : Int32)), (.int (116 : Int32)), (.int (0 : Int32)), (.int (0 : Int32))] (.int (0 : Int32)) := (Arv.set Ar33 qc33 Sz33 Ng33 Hs33 Gs33 rfl W34 7 rfl (Nat.le_of_ble_eq_true rfl))
  obtain ⟨cl37, Ar37, qc37, Sz37, Ng37, Hs37, Gs37⟩ := id Vh36
  have hin37 : ¬ ((8 : Int32) < 0 ∨ cl37.slots.size ≤ ((8 : Int32)).toNatClampNeg) := inb_of Sz37 ⟨(by decide), (by decide)⟩
  obtain ⟨T38, h38, X38, e38, W38, st38⟩ := stC X34 hx hZ e34 Ar37 (j := (8 : Int32)) hin37 (g := (mkF m 213 #[.val (.int p1), .val (.int (3 : Int32)), .unset, .unset, .unset, .unset] [(.int (101 : Int32)), (.int (8 : Int32)), (.ref b1), (.ref b1)])) rfl rfl (hb hby at_213)
  have Kp39 : Keep h0 h38 [] := Kp35.wr W38 (Or.inr (Nat.le_trans (Keep.refl h0 []).1 (Nat.le_of_eq g1.symm)))
  obtain ⟨Lp38, X38, N38⟩ := own_pack X38 (Fr.snoc X38 N34 gh7)
  have Vh40 : Arv Z h38 b1 k1 .char (10 : Int32) [(.int (116 : Int32)), (.int (101 : Int32)), (.int (114 : Int32)), (.int (109 : Int32)), (.int (105 : Int32)), (.int (110 : Int32)), (.int (97 : Int32)), (.int (116 : Int32)), (.int (101 : Int32)), (.int (0 : Int32))] (.int (0 : Int32)) := (Arv.set Ar37 qc37 Sz37 Ng37 Hs37 Gs37 rfl W38 8 rfl (Nat.le_of_ble_eq_true rfl))
  obtain ⟨cl41, Ar41, qc41, Sz41, Ng41, Hs41, Gs41⟩ := id Vh40
  have hin41 : ¬ ((9 : Int32) < 0 ∨ cl41.slots.size ≤ ((9 : Int32)).toNatClampNeg) := inb_of Sz41 ⟨(by decide), (by decide)⟩
  obtain ⟨T42, h42, X42, e42, W42, st42⟩ := stC X38 hx hZ e38 Ar41 (j := (9 : Int32)) hin41 (g := (mkF m 219 #[.val (.int p1), .val (.int (3 : Int32)), .unset, .unset, .unset, .unset] [(.int (100 : Int32)), (.int (9 : Int32)), (.ref b1), (.ref b1)])) rfl rfl (hb hby at_219)
  have Kp43 : Keep h0 h42 [] := Kp39.wr W42 (Or.inr (Nat.le_trans (Keep.refl h0 []).1 (Nat.le_of_eq g1.symm)))
  obtain ⟨Lp42, X42, N42⟩ := own_pack X42 (Fr.snoc X42 N38 gh7)
  have Vh44 : Arv Z h42 b1 k1 .char (10 : Int32) [(.int (116 : Int32)), (.int (101 : Int32)), (.int (114 : Int32)), (.int (109 : Int32)), (.int (105 : Int32)), (.int (110 : Int32)), (.int (97 : Int32)), (.int (116 : Int32)), (.int (101 : Int32)), (.int (100 : Int32))] (.int (0 : Int32)) := (Arv.set Ar41 qc41 Sz41 Ng41 Hs41 Gs41 rfl W42 9 rfl (Nat.le_of_ble_eq_true rfl))
  have Old45 : Old Z n0 h1 := X00.ext E1
  have Old46 : Old Z n0 h5 := Old45.wr W5 gh7
  have Old47 : Old Z n0 h10 := Old46.wr W10 gh7
  have Old48 : Old Z n0 h14 := Old47.wr W14 gh7
  have Old49 : Old Z n0 h18 := Old48.wr W18 gh7
  have Old50 : Old Z n0 h22 := Old49.wr W22 gh7
  have Old51 : Old Z n0 h26 := Old50.wr W26 gh7
  have Old52 : Old Z n0 h30 := Old51.wr W30 gh7
  have Old53 : Old Z n0 h34 := Old52.wr W34 gh7
  have Old54 : Old Z n0 h38 := Old53.wr W38 gh7
  have Old55 : Old Z n0 h42 := Old54.wr W42 gh7
  obtain ⟨T56, X56, e56, st56⟩ := getS2 X42 hx hZ hown (host := "") (Or.inl (hw _ (List.mem_of_getElem? (i := 72) rfl))) Via.refl e42 (O_TERMINATED.ext Old55.2) (g := (mkF m 221 #[.val (.int p1), .val (.int (3 : Int32)), .val (.ref b1), .unset, .unset, .unset] [])) rfl (hb hby at_221)
  obtain ⟨T57, h57, X57, e57, E57, A57, D57, U57, st57⟩ := newO X56 hx hZ hown (hw _ (List.mem_of_getElem? (i := 4) rfl)) (hw _ (List.mem_of_getElem? (i := 5) rfl)) (hw _ (List.mem_of_getElem? (i := 6) rfl)) e56 (g := (mkF m 225 #[.val (.int p1), .val (.int (3 : Int32)), .val (.ref b1), .val (.ref k_TERMINATED), .unset, .unset] [])) rfl (hb hby at_225) (by decide) (by decide)
  obtain ⟨b57, g57⟩ : ∃ z, z = h42.size := ⟨_, rfl⟩
  rw [← g57] at A57 D57 U57 st57
  have Kp58 : Keep h0 h57 [] := Kp43.ext E57
  have Fh59 : Fld Z h57 b57 "java/lang/String" "value" "[B" .null := (D57 (Or.inr (hw _ (List.mem_of_getElem? (i := 32) rfl))) (ty := (.array .byte)) (by decide))
  have Fh60 : Fld Z h57 b57 "java/lang/String" "coder" "B" (.int (0 : Int32)) := (D57 (Or.inr (hw _ (List.mem_of_getElem? (i := 30) rfl))) (ty := .byte) (by decide))
  have Vh61 : Arv Z h57 b1 k1 .char (10 : Int32) [(.int (116 : Int32)), (.int (101 : Int32)), (.int (114 : Int32)), (.int (109 : Int32)), (.int (105 : Int32)), (.int (110 : Int32)), (.int (97 : Int32)), (.int (116 : Int32)), (.int (101 : Int32)), (.int (100 : Int32))] (.int (0 : Int32)) := (Vh44.ext E57)
  have hph62 : ∀ c ∈ ([(116 : Int32), (101 : Int32), (114 : Int32), (109 : Int32), (105 : Int32), (110 : Int32), (97 : Int32), (116 : Int32), (101 : Int32), (100 : Int32)] : List Int32), ¬ c < 0 ∧ ¬ (255 : Int32) < c := (own_cS (by decide) (own_cS (by decide) (own_cS (by decide) (own_cS (by decide) (own_cS (by decide) (own_cS (by decide) (own_cS (by decide) (own_cS (by decide) (own_cS (by decide) (own_cS (by decide) own_c0))))))))))
  have hws_words : ∀ d ∈ StrChars.Road.words, d.before a0 Z = true := fun d hd => hw d (own_hws_words d hd)
  have Zh63 : n0 ≤ h57.size := (Nat.le_trans Z0 Kp58.1)
  have gh64 : n0 ≤ b57 := Nat.le_trans (Nat.le_trans Z0 Kp43.1) (Nat.le_of_eq g57.symm)
  have Old65 : Old Z n0 h57 := Old55.ext E57
  obtain ⟨_, _, ⟨T66, L66, k66, n66⟩, -, X66, ⟨Lc66, hQ66, l66, y66, z66⟩, st66⟩ := X57.specialBack hx (y := (⟨"java/lang/String", "<init>", "([C)V"⟩ : MethodName)) rfl hown (mvT hZ (hw _ (List.mem_of_getElem? (i := 7) rfl))) (mvT hZ (hw _ (List.mem_of_getElem? (i := 8) rfl))) (mvT hZ (hw _ (List.mem_of_getElem? (i := 9) rfl))) (by decide) (StrChars.Road.backV (W := 1) hZ hws_words (kI := 4) (hw _ (List.mem_of_getElem? (i := 5) rfl)) (cs := ([(116 : Int32), (101 : Int32), (114 : Int32), (109 : Int32), (105 : Int32), (110 : Int32), (97 : Int32), (116 : Int32), (101 : Int32), (100 : Int32)] : List Int32)) (bs := ([(116 : Int32), (101 : Int32), (114 : Int32), (109 : Int32), (105 : Int32), (110 : Int32), (97 : Int32), (116 : Int32), (101 : Int32), (100 : Int32)] : List Int32).map (fun c => c.toInt8.toInt32)) (n := 10) gh64 Zh63 A57 Fh59 Fh60 Vh61 (O_CS.ext Old65.2) P_CS rfl rfl (by decide) (by decide) hph62 rfl (by decide) (by decide)) (g := (mkF m 230 #[.val (.int p1), .val (.int (3 : Int32)), .val (.ref b1), .val (.ref k_TERMINATED), .unset, .unset] [(.ref b1), (.ref b57), (.ref b57)])) rfl (by rw [hml]; rfl) (Steps.refl _) (a := b57) (argsL := [(.ref b1)]) (rest := [(.ref b57)]) (lenOf own_pd3 rfl) rfl (by show 2 * 0 + _ ≤ _; exact Nat.le_of_eq rfl) (hb hby at_230) (fun _ _ => ⟨rfl, e57, (by decide : 2 + 1 ≤ _), (by decide : 14 + 10 ≤ _)⟩)
  dsimp only [Pt.U, Pt.locs, Pt.cells, Pt.slots] at X66 l66 y66 z66 st66 hQ66
  subst y66 z66
  obtain ⟨rfl, Nq66, Kq66, Eq66, Cq66, t66, kb66, gt66, szt66, nt66, Vq66, Bq66⟩ := hQ66
  have N66 : Fr n0 L66 := by rw [l66]; exact Fr.app N42 Nq66
  have Kp67 : Keep h0 T66.heap [] := Kp58.trans Kq66 (allS (Or.inr (Nat.le_trans Kp43.1 (Nat.le_of_eq g57.symm))) all0)
  have Old68 : Old Z n0 T66.heap := Old65.keep Kq66 (allS gh64 all0)
  obtain ⟨_, _, ⟨T69, L69, k69, n69⟩, -, X69, ⟨Lc69, hQ69, l69, y69, z69⟩, st69⟩ := Jvm.LawKit.callS X66 hx (y := (⟨"com/example/dagsverke/dagsverke/job/WorkerState", "fromWireName", "(Ljava/lang/String;)Lcom/example/dagsverke/dagsverke/job/WorkerState;"⟩ : MethodName)) hown (mvT hZ (hw _ (List.mem_of_getElem? (i := 33) rfl))) (mvT hZ (hw _ (List.mem_of_getElem? (i := 34) rfl))) (mvT hZ (hw _ (List.mem_of_getElem? (i := 2) rfl))) (mvT hZ (hw _ (List.mem_of_getElem? (i := 35) rfl))) (by decide) (backOf (W := 0) (own_rm_from_TERMINATED l Z a0 hw [] G1 k_RUNNING s_RUNNING t_RUNNING kb_RUNNING k_QUIET s_QUIET t_QUIET kb_QUIET k_TERMINATE s_TERMINATE t_TERMINATE kb_TERMINATE k_TERMINATED s_TERMINATED t_TERMINATED kb_TERMINATED k_VALUES kv_VALUES gl b57 t66 (kb66) T66.heap n0 (Nat.le_trans Z0 Kp67.1) Old68 Eq66 Vq66 Cq66 Bq66) hZ (hw _ (List.mem_of_getElem? (i := 35) rfl)) (hw _ (List.mem_of_getElem? (i := 2) rfl)) (by decide) (by decide)) (g := (mkF m 237 #[.val (.int p1), .val (.int (3 : Int32)), .val (.ref b1), .val (.ref k_TERMINATED), .val (.ref b57), .unset] [(.ref b57)])) rfl (by rw [hml]; rfl) (argsL := [(.ref b57)]) (rest := []) (lenOf own_pd4 rfl) rfl (by show 2 * 0 + _ ≤ _; exact Nat.le_of_eq rfl) (hb hby at_237) (fun _ _ => ⟨rfl, rfl, (by decide : 3 + 1 ≤ _), (by decide : 24 + 4 ≤ _)⟩)
  dsimp only [Pt.U, Pt.locs, Pt.cells, Pt.slots] at X69 l69 y69 z69 st69 hQ69
  subst y69 z69
  obtain ⟨rfl, Nq69, Kq69⟩ := hQ69
  have N69 : Fr n0 L69 := by rw [l69]; exact Fr.app N66 Nq69
  have Kp70 : Keep h0 T69.heap [] := Kp67.trans Kq69 all0
  have Old71 : Old Z n0 T69.heap := Old68.keep Kq69 all0
  obtain ⟨cq72, kq72, q72a, q72b, q72c⟩ := isOf hZ rfl (E_TERMINATED.ext Old71.2)
  obtain ⟨_, _, ⟨T72, L72, k72, n72⟩, -, X72, ⟨Lc72, hQ72, l72, y72, z72⟩, st72⟩ := X69.virtualBack hx (y := (⟨"com/example/dagsverke/dagsverke/job/WorkerState", "wireName", "()Ljava/lang/String;"⟩ : MethodName)) (z := (⟨"com/example/dagsverke/dagsverke/job/WorkerState", "wireName", "()Ljava/lang/String;"⟩ : MethodName)) hown (mvT hZ (hw _ (List.mem_of_getElem? (i := 66) rfl))) (mvT hZ (hw _ (List.mem_of_getElem? (i := 67) rfl))) (notFace_of_selects (args := #[]) (mvT hZ (hw _ (List.mem_of_getElem? (i := 69) rfl)))) (mvT hZ (hw _ (List.mem_of_getElem? (i := 69) rfl))) (mvT hZ (hw _ (List.mem_of_getElem? (i := 68) rfl))) (by decide) (backOf (W := 0) (own_rm_wn l Z a0 hw [] G1 k_RUNNING s_RUNNING t_RUNNING kb_RUNNING k_QUIET s_QUIET t_QUIET kb_QUIET k_TERMINATE s_TERMINATE t_TERMINATE kb_TERMINATE k_TERMINATED s_TERMINATED t_TERMINATED kb_TERMINATED k_VALUES kv_VALUES gl k_TERMINATED s_TERMINATED T69.heap n0 (Nat.le_trans Z0 Kp70.1) (Fs_TERMINATED.ext Old71.2)) hZ (hw _ (List.mem_of_getElem? (i := 70) rfl)) (hw _ (List.mem_of_getElem? (i := 2) rfl)) (by decide) (by decide)) q72a q72c (g := (mkF m 250 #[.val (.int p1), .val (.int (3 : Int32)), .val (.ref b1), .val (.ref k_TERMINATED), .val (.ref b57), .val (.ref k_TERMINATED)] [(.ref k_TERMINATED)])) rfl (by rw [hml]; rfl) (Steps.refl _) (argsL := []) (rest := []) (lenOf own_pd5 rfl) rfl (by show 2 * 0 + _ ≤ _; exact Nat.le_of_eq rfl) (hb hby at_250) (fun _ _ => ⟨rfl, rfl, (by decide : 4 + 0 ≤ _), (by decide : 28 + 0 ≤ _)⟩)
  dsimp only [Pt.U, Pt.locs, Pt.cells, Pt.slots] at X72 l72 y72 z72 st72 hQ72
  subst y72 z72
  obtain ⟨rfl, Nq72, e72⟩ := hQ72
  have N72 : Fr n0 L72 := by rw [l72]; exact Fr.app N69 Nq72
  have cdh73 : StrChars.Road.CodA ([(116 : Int32), (101 : Int32), (114 : Int32), (109 : Int32), (105 : Int32), (110 : Int32), (97 : Int32), (116 : Int32), (101 : Int32), (100 : Int32)] : List Int32) 0 (10 : Int32) ((([(116 : Int32), (101 : Int32), (114 : Int32), (109 : Int32), (105 : Int32), (110 : Int32), (97 : Int32), (116 : Int32), (101 : Int32), (100 : Int32)] : List Int32).map (fun c => c.toInt8.toInt32)).map Value.int) := (StrChars.Road.codOf (cs := ([(116 : Int32), (101 : Int32), (114 : Int32), (109 : Int32), (105 : Int32), (110 : Int32), (97 : Int32), (116 : Int32), (101 : Int32), (100 : Int32)] : List Int32)) (n := 10) rfl (fun c hc => (hph62 c hc).2))
  have hws_wordsEq : ∀ d ∈ StrChars.Road.wordsEq, d.before a0 Z = true := fun d hd => hw d (own_hws_wordsEq d hd)
  have Eh74 : Exa Z T69.heap b57 "java/lang/String" := (Eq66.keep Kq69)
  have Fh75 : Fld Z T69.heap b57 "java/lang/String" "value" "[B" (.ref t66) := (Vq66.keep Kq69 nin0)
  have Fh76 : Fld Z T69.heap b57 "java/lang/String" "coder" "B" (.int (0 : Int32)) := (Cq66.keep Kq69 nin0)
  have Vh77 : Arv Z T69.heap t66 kb66 .byte (10 : Int32) ((([(116 : Int32), (101 : Int32), (114 : Int32), (109 : Int32), (105 : Int32), (110 : Int32), (97 : Int32), (116 : Int32), (101 : Int32), (100 : Int32)] : List Int32).map (fun c => c.toInt8.toInt32)).map Value.int) (.int (0 : Int32)) := (Bq66.keep Kq69 nin0)
  have cdh78 : StrChars.Road.CodA ([(116 : Int32), (101 : Int32), (114 : Int32), (109 : Int32), (105 : Int32), (110 : Int32), (97 : Int32), (116 : Int32), (101 : Int32), (100 : Int32)] : List Int32) 0 (10 : Int32) ((([(116 : Int32), (101 : Int32), (114 : Int32), (109 : Int32), (105 : Int32), (110 : Int32), (97 : Int32), (116 : Int32), (101 : Int32), (100 : Int32)] : List Int32).map (fun c => c.toInt8.toInt32)).map Value.int) := (StrChars.Road.codOf (cs := ([(116 : Int32), (101 : Int32), (114 : Int32), (109 : Int32), (105 : Int32), (110 : Int32), (97 : Int32), (116 : Int32), (101 : Int32), (100 : Int32)] : List Int32)) (n := 10) rfl (fun c hc => (hph62 c hc).2))
  obtain ⟨cq79, kq79, q79a, q79b, q79c⟩ := isOf hZ e72 (Es_TERMINATED.ext Old71.2)
  obtain ⟨_, _, ⟨T79, L79, k79, n79⟩, -, X79, ⟨Lc79, hQ79, l79, y79, z79⟩, st79⟩ := X72.virtualBack hx (y := (⟨"java/lang/String", "equals", "(Ljava/lang/Object;)Z"⟩ : MethodName)) (z := (⟨"java/lang/String", "equals", "(Ljava/lang/Object;)Z"⟩ : MethodName)) hown (mvT hZ (hw _ (List.mem_of_getElem? (i := 71) rfl))) (mvT hZ (hw _ (List.mem_of_getElem? (i := 57) rfl))) (notFace_of_selects (args := #[]) (mvT hZ (hw _ (List.mem_of_getElem? (i := 59) rfl)))) (mvT hZ (hw _ (List.mem_of_getElem? (i := 59) rfl))) (mvT hZ (hw _ (List.mem_of_getElem? (i := 58) rfl))) (by decide) (StrChars.Road.eqW (W := 0) hZ hws_wordsEq (kI := 4) (hw _ (List.mem_of_getElem? (i := 5) rfl)) (Es_TERMINATED.ext Old71.2) (Fv_TERMINATED.ext Old71.2) (Fc_TERMINATED.ext Old71.2) (V_TERMINATED.ext Old71.2) cdh73 (own_up _ hph62) (Nat.le_of_ble_eq_true rfl) Eh74 Fh75 Fh76 Vh77 cdh78 (own_up _ hph62) (Nat.le_of_ble_eq_true rfl) (O_CS.ext Old71.2) P_CS (by decide) (by decide)) q79a q79c (g := (mkF m 255 #[.val (.int p1), .val (.int (3 : Int32)), .val (.ref b1), .val (.ref k_TERMINATED), .val (.ref b57), .val (.ref k_TERMINATED)] [(.ref b57), (.ref s_TERMINATED)])) rfl (by rw [hml]; rfl) (Steps.refl _) (argsL := [(.ref b57)]) (rest := []) (lenOf own_pd2 rfl) rfl (by show 2 * 0 + _ ≤ _; exact Nat.le_of_eq rfl) (hb hby at_255) (fun _ _ => ⟨rfl, e72, (by decide : 4 + 0 ≤ _), (by decide : 28 + 0 ≤ _)⟩)
  dsimp only [Pt.U, Pt.locs, Pt.cells, Pt.slots] at X79 l79 y79 z79 st79 hQ79
  subst y79 z79
  obtain ⟨hcase, rfl, e79⟩ := hQ79
  have hv79 : _ = some (Value.int 1) := hcase.elim (fun q => q.1) (fun q => absurd (rfl : ([(116 : Int32), (101 : Int32), (114 : Int32), (109 : Int32), (105 : Int32), (110 : Int32), (97 : Int32), (116 : Int32), (101 : Int32), (100 : Int32)] : List Int32) = ([(116 : Int32), (101 : Int32), (114 : Int32), (109 : Int32), (105 : Int32), (110 : Int32), (97 : Int32), (116 : Int32), (101 : Int32), (100 : Int32)] : List Int32)) q.2)
  subst hv79
  have N79 : Fr n0 L79 := by rw [l79]; exact Fr.app N72 (Fr.nil n0)
  obtain ⟨fs, hr, hrun, hended, hW, hsame⟩ := X79.leave (v := some (.int (1 : Int32))) (fun h => by rw [Bd.returns] at h; cases h)
  refine ⟨_, _, pre0 _ ?_, hrun, hended, _, _, rfl, ?_, ⟨_, rfl⟩, hW, hsame.mono (by decide) (by decide)⟩
  · show Steps p.tables e below (s₁.setTop (mkF m 0 #[.val (.int p1), .unset, .unset, .unset, .unset, .unset] [])) _
    refine XS.iloadN X0.here hx rfl (hb hby at_0) rfl ?_
    show Steps p.tables e below (s₁.setTop (mkF m 1 #[.val (.int p1), .unset, .unset, .unset, .unset, .unset] [(.int p1)])) _
    refine XS.iconst X0.here hx rfl (hb hby at_1) ?_
    show Steps p.tables e below (s₁.setTop (mkF m 2 #[.val (.int p1), .unset, .unset, .unset, .unset, .unset] [(.int (3 : Int32)), (.int p1)])) _
    refine XS.iand X0.here hx rfl (hb hby at_2) rfl ?_
    show Steps p.tables e below (s₁.setTop (mkF m 3 #[.val (.int p1), .unset, .unset, .unset, .unset, .unset] [(.int (own_a3 p1))])) _
    rw [hk]
    show Steps p.tables e below (s₁.setTop (mkF m 3 #[.val (.int p1), .unset, .unset, .unset, .unset, .unset] [(.int (3 : Int32))])) _
    refine XS.istoreN X0.here hx rfl (hb hby at_3) rfl (l' := #[.val (.int p1), .val (.int (3 : Int32)), .unset, .unset, .unset, .unset]) rfl ?_
    show Steps p.tables e below (s₁.setTop (mkF m 4 #[.val (.int p1), .val (.int (3 : Int32)), .unset, .unset, .unset, .unset] [])) _
    refine XS.iloadN X0.here hx rfl (hb hby at_4) rfl ?_
    show Steps p.tables e below (s₁.setTop (mkF m 5 #[.val (.int p1), .val (.int (3 : Int32)), .unset, .unset, .unset, .unset] [(.int (3 : Int32))])) _
    refine XS.ifYes X0.here hx rfl (pc0 := 5) (pc' := 56) rfl (hb hby at_5) rfl ((if0 _ _).trans (feq (by decide : ¬ ((3 : Int32) = (0 : Int32)))).2) (by decide) (by decide) ?_
    show Steps p.tables e below (s₁.setTop (mkF m 56 #[.val (.int p1), .val (.int (3 : Int32)), .unset, .unset, .unset, .unset] [])) _
    refine XS.iloadN X0.here hx rfl (hb hby at_56) rfl ?_
    show Steps p.tables e below (s₁.setTop (mkF m 57 #[.val (.int p1), .val (.int (3 : Int32)), .unset, .unset, .unset, .unset] [(.int (3 : Int32))])) _
    refine XS.iconst X0.here hx rfl (hb hby at_57) ?_
    show Steps p.tables e below (s₁.setTop (mkF m 58 #[.val (.int p1), .val (.int (3 : Int32)), .unset, .unset, .unset, .unset] [(.int (1 : Int32)), (.int (3 : Int32))])) _
    refine XS.icmpYes X0.here hx rfl (pc0 := 58) (pc' := 97) rfl (hb hby at_58) rfl (feq (by decide : ¬ ((3 : Int32) = (1 : Int32)))).2 (by decide) (by decide) ?_
    show Steps p.tables e below (s₁.setTop (mkF m 97 #[.val (.int p1), .val (.int (3 : Int32)), .unset, .unset, .unset, .unset] [])) _
    refine XS.iloadN X0.here hx rfl (hb hby at_97) rfl ?_
    show Steps p.tables e below (s₁.setTop (mkF m 98 #[.val (.int p1), .val (.int (3 : Int32)), .unset, .unset, .unset, .unset] [(.int (3 : Int32))])) _
    refine XS.iconst X0.here hx rfl (hb hby at_98) ?_
    show Steps p.tables e below (s₁.setTop (mkF m 99 #[.val (.int p1), .val (.int (3 : Int32)), .unset, .unset, .unset, .unset] [(.int (2 : Int32)), (.int (3 : Int32))])) _
    refine XS.icmpYes X0.here hx rfl (pc0 := 99) (pc' := 162) rfl (hb hby at_99) rfl (feq (by decide : ¬ ((3 : Int32) = (2 : Int32)))).2 (by decide) (by decide) ?_
    show Steps p.tables e below (s₁.setTop (mkF m 162 #[.val (.int p1), .val (.int (3 : Int32)), .unset, .unset, .unset, .unset] [])) _
    refine XS.bipush X0.here hx rfl (hb hby at_162) ?_
    show Steps p.tables e below (s₁.setTop (mkF m 164 #[.val (.int p1), .val (.int (3 : Int32)), .unset, .unset, .unset, .unset] [(.int (10 : Int32))])) _
    refine st1 _ ?_
    show Steps p.tables e below (T1.setTop (mkF m 166 #[.val (.int p1), .val (.int (3 : Int32)), .unset, .unset, .unset, .unset] [(.ref b1)])) _
    refine XS.dup X1.here hx rfl (hb hby at_166) rfl rfl ?_
    show Steps p.tables e below (T1.setTop (mkF m 167 #[.val (.int p1), .val (.int (3 : Int32)), .unset, .unset, .unset, .unset] [(.ref b1), (.ref b1)])) _
    refine XS.iconst X1.here hx rfl (hb hby at_167) ?_
    show Steps p.tables e below (T1.setTop (mkF m 168 #[.val (.int p1), .val (.int (3 : Int32)), .unset, .unset, .unset, .unset] [(.int (0 : Int32)), (.ref b1), (.ref b1)])) _
    refine XS.bipush X1.here hx rfl (hb hby at_168) ?_
    show Steps p.tables e below (T1.setTop (mkF m 170 #[.val (.int p1), .val (.int (3 : Int32)), .unset, .unset, .unset, .unset] [(.int (116 : Int32)), (.int (0 : Int32)), (.ref b1), (.ref b1)])) _
    refine st5 _ ?_
    show Steps p.tables e below (T5.setTop (mkF m 171 #[.val (.int p1), .val (.int (3 : Int32)), .unset, .unset, .unset, .unset] [(.ref b1)])) _
    refine XS.dup X5.here hx rfl (hb hby at_171) rfl rfl ?_
    show Steps p.tables e below (T5.setTop (mkF m 172 #[.val (.int p1), .val (.int (3 : Int32)), .unset, .unset, .unset, .unset] [(.ref b1), (.ref b1)])) _
    refine XS.iconst X5.here hx rfl (hb hby at_172) ?_
    show Steps p.tables e below (T5.setTop (mkF m 173 #[.val (.int p1), .val (.int (3 : Int32)), .unset, .unset, .unset, .unset] [(.int (1 : Int32)), (.ref b1), (.ref b1)])) _
    refine XS.bipush X5.here hx rfl (hb hby at_173) ?_
    show Steps p.tables e below (T5.setTop (mkF m 175 #[.val (.int p1), .val (.int (3 : Int32)), .unset, .unset, .unset, .unset] [(.int (101 : Int32)), (.int (1 : Int32)), (.ref b1), (.ref b1)])) _
    refine st10 _ ?_
    show Steps p.tables e below (T10.setTop (mkF m 176 #[.val (.int p1), .val (.int (3 : Int32)), .unset, .unset, .unset, .unset] [(.ref b1)])) _
    refine XS.dup X10.here hx rfl (hb hby at_176) rfl rfl ?_
    show Steps p.tables e below (T10.setTop (mkF m 177 #[.val (.int p1), .val (.int (3 : Int32)), .unset, .unset, .unset, .unset] [(.ref b1), (.ref b1)])) _
    refine XS.iconst X10.here hx rfl (hb hby at_177) ?_
    show Steps p.tables e below (T10.setTop (mkF m 178 #[.val (.int p1), .val (.int (3 : Int32)), .unset, .unset, .unset, .unset] [(.int (2 : Int32)), (.ref b1), (.ref b1)])) _
    refine XS.bipush X10.here hx rfl (hb hby at_178) ?_
    show Steps p.tables e below (T10.setTop (mkF m 180 #[.val (.int p1), .val (.int (3 : Int32)), .unset, .unset, .unset, .unset] [(.int (114 : Int32)), (.int (2 : Int32)), (.ref b1), (.ref b1)])) _
    refine st14 _ ?_
    show Steps p.tables e below (T14.setTop (mkF m 181 #[.val (.int p1), .val (.int (3 : Int32)), .unset, .unset, .unset, .unset] [(.ref b1)])) _
    refine XS.dup X14.here hx rfl (hb hby at_181) rfl rfl ?_
    show Steps p.tables e below (T14.setTop (mkF m 182 #[.val (.int p1), .val (.int (3 : Int32)), .unset, .unset, .unset, .unset] [(.ref b1), (.ref b1)])) _
    refine XS.iconst X14.here hx rfl (hb hby at_182) ?_
    show Steps p.tables e below (T14.setTop (mkF m 183 #[.val (.int p1), .val (.int (3 : Int32)), .unset, .unset, .unset, .unset] [(.int (3 : Int32)), (.ref b1), (.ref b1)])) _
    refine XS.bipush X14.here hx rfl (hb hby at_183) ?_
    show Steps p.tables e below (T14.setTop (mkF m 185 #[.val (.int p1), .val (.int (3 : Int32)), .unset, .unset, .unset, .unset] [(.int (109 : Int32)), (.int (3 : Int32)), (.ref b1), (.ref b1)])) _
    refine st18 _ ?_
    show Steps p.tables e below (T18.setTop (mkF m 186 #[.val (.int p1), .val (.int (3 : Int32)), .unset, .unset, .unset, .unset] [(.ref b1)])) _
    refine XS.dup X18.here hx rfl (hb hby at_186) rfl rfl ?_
    show Steps p.tables e below (T18.setTop (mkF m 187 #[.val (.int p1), .val (.int (3 : Int32)), .unset, .unset, .unset, .unset] [(.ref b1), (.ref b1)])) _
    refine XS.iconst X18.here hx rfl (hb hby at_187) ?_
    show Steps p.tables e below (T18.setTop (mkF m 188 #[.val (.int p1), .val (.int (3 : Int32)), .unset, .unset, .unset, .unset] [(.int (4 : Int32)), (.ref b1), (.ref b1)])) _
    refine XS.bipush X18.here hx rfl (hb hby at_188) ?_
    show Steps p.tables e below (T18.setTop (mkF m 190 #[.val (.int p1), .val (.int (3 : Int32)), .unset, .unset, .unset, .unset] [(.int (105 : Int32)), (.int (4 : Int32)), (.ref b1), (.ref b1)])) _
    refine st22 _ ?_
    show Steps p.tables e below (T22.setTop (mkF m 191 #[.val (.int p1), .val (.int (3 : Int32)), .unset, .unset, .unset, .unset] [(.ref b1)])) _
    refine XS.dup X22.here hx rfl (hb hby at_191) rfl rfl ?_
    show Steps p.tables e below (T22.setTop (mkF m 192 #[.val (.int p1), .val (.int (3 : Int32)), .unset, .unset, .unset, .unset] [(.ref b1), (.ref b1)])) _
    refine XS.iconst X22.here hx rfl (hb hby at_192) ?_
    show Steps p.tables e below (T22.setTop (mkF m 193 #[.val (.int p1), .val (.int (3 : Int32)), .unset, .unset, .unset, .unset] [(.int (5 : Int32)), (.ref b1), (.ref b1)])) _
    refine XS.bipush X22.here hx rfl (hb hby at_193) ?_
    show Steps p.tables e below (T22.setTop (mkF m 195 #[.val (.int p1), .val (.int (3 : Int32)), .unset, .unset, .unset, .unset] [(.int (110 : Int32)), (.int (5 : Int32)), (.ref b1), (.ref b1)])) _
    refine st26 _ ?_
    show Steps p.tables e below (T26.setTop (mkF m 196 #[.val (.int p1), .val (.int (3 : Int32)), .unset, .unset, .unset, .unset] [(.ref b1)])) _
    refine XS.dup X26.here hx rfl (hb hby at_196) rfl rfl ?_
    show Steps p.tables e below (T26.setTop (mkF m 197 #[.val (.int p1), .val (.int (3 : Int32)), .unset, .unset, .unset, .unset] [(.ref b1), (.ref b1)])) _
    refine XS.bipush X26.here hx rfl (hb hby at_197) ?_
    show Steps p.tables e below (T26.setTop (mkF m 199 #[.val (.int p1), .val (.int (3 : Int32)), .unset, .unset, .unset, .unset] [(.int (6 : Int32)), (.ref b1), (.ref b1)])) _
    refine XS.bipush X26.here hx rfl (hb hby at_199) ?_
    show Steps p.tables e below (T26.setTop (mkF m 201 #[.val (.int p1), .val (.int (3 : Int32)), .unset, .unset, .unset, .unset] [(.int (97 : Int32)), (.int (6 : Int32)), (.ref b1), (.ref b1)])) _
    refine st30 _ ?_
    show Steps p.tables e below (T30.setTop (mkF m 202 #[.val (.int p1), .val (.int (3 : Int32)), .unset, .unset, .unset, .unset] [(.ref b1)])) _
    refine XS.dup X30.here hx rfl (hb hby at_202) rfl rfl ?_
    show Steps p.tables e below (T30.setTop (mkF m 203 #[.val (.int p1), .val (.int (3 : Int32)), .unset, .unset, .unset, .unset] [(.ref b1), (.ref b1)])) _
    refine XS.bipush X30.here hx rfl (hb hby at_203) ?_
    show Steps p.tables e below (T30.setTop (mkF m 205 #[.val (.int p1), .val (.int (3 : Int32)), .unset, .unset, .unset, .unset] [(.int (7 : Int32)), (.ref b1), (.ref b1)])) _
    refine XS.bipush X30.here hx rfl (hb hby at_205) ?_
    show Steps p.tables e below (T30.setTop (mkF m 207 #[.val (.int p1), .val (.int (3 : Int32)), .unset, .unset, .unset, .unset] [(.int (116 : Int32)), (.int (7 : Int32)), (.ref b1), (.ref b1)])) _
    refine st34 _ ?_
    show Steps p.tables e below (T34.setTop (mkF m 208 #[.val (.int p1), .val (.int (3 : Int32)), .unset, .unset, .unset, .unset] [(.ref b1)])) _
    refine XS.dup X34.here hx rfl (hb hby at_208) rfl rfl ?_
    show Steps p.tables e below (T34.setTop (mkF m 209 #[.val (.int p1), .val (.int (3 : Int32)), .unset, .unset, .unset, .unset] [(.ref b1), (.ref b1)])) _
    refine XS.bipush X34.here hx rfl (hb hby at_209) ?_
    show Steps p.tables e below (T34.setTop (mkF m 211 #[.val (.int p1), .val (.int (3 : Int32)), .unset, .unset, .unset, .unset] [(.int (8 : Int32)), (.ref b1), (.ref b1)])) _
    refine XS.bipush X34.here hx rfl (hb hby at_211) ?_
    show Steps p.tables e below (T34.setTop (mkF m 213 #[.val (.int p1), .val (.int (3 : Int32)), .unset, .unset, .unset, .unset] [(.int (101 : Int32)), (.int (8 : Int32)), (.ref b1), (.ref b1)])) _
    refine st38 _ ?_
    show Steps p.tables e below (T38.setTop (mkF m 214 #[.val (.int p1), .val (.int (3 : Int32)), .unset, .unset, .unset, .unset] [(.ref b1)])) _
    refine XS.dup X38.here hx rfl (hb hby at_214) rfl rfl ?_
    show Steps p.tables e below (T38.setTop (mkF m 215 #[.val (.int p1), .val (.int (3 : Int32)), .unset, .unset, .unset, .unset] [(.ref b1), (.ref b1)])) _
    refine XS.bipush X38.here hx rfl (hb hby at_215) ?_
    show Steps p.tables e below (T38.setTop (mkF m 217 #[.val (.int p1), .val (.int (3 : Int32)), .unset, .unset, .unset, .unset] [(.int (9 : Int32)), (.ref b1), (.ref b1)])) _
    refine XS.bipush X38.here hx rfl (hb hby at_217) ?_
    show Steps p.tables e below (T38.setTop (mkF m 219 #[.val (.int p1), .val (.int (3 : Int32)), .unset, .unset, .unset, .unset] [(.int (100 : Int32)), (.int (9 : Int32)), (.ref b1), (.ref b1)])) _
    refine st42 _ ?_
    show Steps p.tables e below (T42.setTop (mkF m 220 #[.val (.int p1), .val (.int (3 : Int32)), .unset, .unset, .unset, .unset] [(.ref b1)])) _
    refine XS.astoreN X42.here hx rfl (hb hby at_220) rfl rfl (l' := #[.val (.int p1), .val (.int (3 : Int32)), .val (.ref b1), .unset, .unset, .unset]) rfl ?_
    show Steps p.tables e below (T42.setTop (mkF m 221 #[.val (.int p1), .val (.int (3 : Int32)), .val (.ref b1), .unset, .unset, .unset] [])) _
    refine st56 _ ?_
    show Steps p.tables e below (T56.setTop (mkF m 224 #[.val (.int p1), .val (.int (3 : Int32)), .val (.ref b1), .unset, .unset, .unset] [(.ref k_TERMINATED)])) _
    refine XS.astoreN X56.here hx rfl (hb hby at_224) rfl rfl (l' := #[.val (.int p1), .val (.int (3 : Int32)), .val (.ref b1), .val (.ref k_TERMINATED), .unset, .unset]) rfl ?_
    show Steps p.tables e below (T56.setTop (mkF m 225 #[.val (.int p1), .val (.int (3 : Int32)), .val (.ref b1), .val (.ref k_TERMINATED), .unset, .unset] [])) _
    refine st57 _ ?_
    show Steps p.tables e below (T57.setTop (mkF m 228 #[.val (.int p1), .val (.int (3 : Int32)), .val (.ref b1), .val (.ref k_TERMINATED), .unset, .unset] [(.ref b57)])) _
    refine XS.dup X57.here hx rfl (hb hby at_228) rfl rfl ?_
    show Steps p.tables e below (T57.setTop (mkF m 229 #[.val (.int p1), .val (.int (3 : Int32)), .val (.ref b1), .val (.ref k_TERMINATED), .unset, .unset] [(.ref b57), (.ref b57)])) _
    refine XS.aloadN X57.here hx rfl (hb hby at_229) rfl rfl ?_
    show Steps p.tables e below (T57.setTop (mkF m 230 #[.val (.int p1), .val (.int (3 : Int32)), .val (.ref b1), .val (.ref k_TERMINATED), .unset, .unset] [(.ref b1), (.ref b57), (.ref b57)])) _
    refine st66.trans ?_
    show Steps p.tables e below (T66.setTop (mkF m 233 #[.val (.int p1), .val (.int (3 : Int32)), .val (.ref b1), .val (.ref k_TERMINATED), .unset, .unset] [(.ref b57)])) _
    refine XS.astore X66.here hx rfl (hb hby at_233) rfl rfl (l' := #[.val (.int p1), .val (.int (3 : Int32)), .val (.ref b1), .val (.ref k_TERMINATED), .val (.ref b57), .unset]) rfl ?_
    show Steps p.tables e below (T66.setTop (mkF m 235 #[.val (.int p1), .val (.int (3 : Int32)), .val (.ref b1), .val (.ref k_TERMINATED), .val (.ref b57), .unset] [])) _
    refine XS.aload X66.here hx rfl (hb hby at_235) rfl rfl ?_
    show Steps p.tables e below (T66.setTop (mkF m 237 #[.val (.int p1), .val (.int (3 : Int32)), .val (.ref b1), .val (.ref k_TERMINATED), .val (.ref b57), .unset] [(.ref b57)])) _
    refine st69 _ ?_
    show Steps p.tables e below (T69.setTop (mkF m 240 #[.val (.int p1), .val (.int (3 : Int32)), .val (.ref b1), .val (.ref k_TERMINATED), .val (.ref b57), .unset] [(.ref k_TERMINATED)])) _
    refine XS.astore X69.here hx rfl (hb hby at_240) rfl rfl (l' := #[.val (.int p1), .val (.int (3 : Int32)), .val (.ref b1), .val (.ref k_TERMINATED), .val (.ref b57), .val (.ref k_TERMINATED)]) rfl ?_
    show Steps p.tables e below (T69.setTop (mkF m 242 #[.val (.int p1), .val (.int (3 : Int32)), .val (.ref b1), .val (.ref k_TERMINATED), .val (.ref b57), .val (.ref k_TERMINATED)] [])) _
    refine XS.aload X69.here hx rfl (hb hby at_242) rfl rfl ?_
    show Steps p.tables e below (T69.setTop (mkF m 244 #[.val (.int p1), .val (.int (3 : Int32)), .val (.ref b1), .val (.ref k_TERMINATED), .val (.ref b57), .val (.ref k_TERMINATED)] [(.ref k_TERMINATED)])) _
    refine XS.aloadN X69.here hx rfl (hb hby at_244) rfl rfl ?_
    show Steps p.tables e below (T69.setTop (mkF m 245 #[.val (.int p1), .val (.int (3 : Int32)), .val (.ref b1), .val (.ref k_TERMINATED), .val (.ref b57), .val (.ref k_TERMINATED)] [(.ref k_TERMINATED), (.ref k_TERMINATED)])) _
    refine Jvm.RoadKit.acmp (g := (mkF m 245 #[.val (.int p1), .val (.int (3 : Int32)), .val (.ref b1), .val (.ref k_TERMINATED), .val (.ref b57), .val (.ref k_TERMINATED)] [(.ref k_TERMINATED), (.ref k_TERMINATED)])) X69 hx rfl rfl rfl (pc0 := 245) (pc' := 248) (same := true) rfl (hb hby at_245) rfl (decide_eq_true rfl) (by decide) (by decide) ?_
    show Steps p.tables e below (T69.setTop (mkF m 248 #[.val (.int p1), .val (.int (3 : Int32)), .val (.ref b1), .val (.ref k_TERMINATED), .val (.ref b57), .val (.ref k_TERMINATED)] [])) _
    refine XS.aload X69.here hx rfl (hb hby at_248) rfl rfl ?_
    show Steps p.tables e below (T69.setTop (mkF m 250 #[.val (.int p1), .val (.int (3 : Int32)), .val (.ref b1), .val (.ref k_TERMINATED), .val (.ref b57), .val (.ref k_TERMINATED)] [(.ref k_TERMINATED)])) _
    refine st72.trans ?_
    show Steps p.tables e below (T72.setTop (mkF m 253 #[.val (.int p1), .val (.int (3 : Int32)), .val (.ref b1), .val (.ref k_TERMINATED), .val (.ref b57), .val (.ref k_TERMINATED)] [(.ref s_TERMINATED)])) _
    refine XS.aload X72.here hx rfl (hb hby at_253) rfl rfl ?_
    show Steps p.tables e below (T72.setTop (mkF m 255 #[.val (.int p1), .val (.int (3 : Int32)), .val (.ref b1), .val (.ref k_TERMINATED), .val (.ref b57), .val (.ref k_TERMINATED)] [(.ref b57), (.ref s_TERMINATED)])) _
    refine st79.trans ?_
    show Steps p.tables e below (T79.setTop (mkF m 258 #[.val (.int p1), .val (.int (3 : Int32)), .val (.ref b1), .val (.ref k_TERMINATED), .val (.ref b57), .val (.ref k_TERMINATED)] [(.int (1 : Int32))])) _
    refine XS.ifNo X79.here hx rfl (hb hby at_258) rfl ((if0 _ _).trans (feq (by decide : ¬ ((1 : Int32) = (0 : Int32)))).1) ?_
    show Steps p.tables e below (T79.setTop (mkF m 261 #[.val (.int p1), .val (.int (3 : Int32)), .val (.ref b1), .val (.ref k_TERMINATED), .val (.ref b57), .val (.ref k_TERMINATED)] [])) _
    refine XS.iconst X79.here hx rfl (hb hby at_261) ?_
    show Steps p.tables e below (T79.setTop (mkF m 262 #[.val (.int p1), .val (.int (3 : Int32)), .val (.ref b1), .val (.ref k_TERMINATED), .val (.ref b57), .val (.ref k_TERMINATED)] [(.int (1 : Int32))])) _
    refine XS.goto X79.here hx rfl (pc0 := 262) (pc' := 266) rfl (hb hby at_262) (by decide) (by decide) ?_
    show Steps p.tables e below (T79.setTop (mkF m 266 #[.val (.int p1), .val (.int (3 : Int32)), .val (.ref b1), .val (.ref k_TERMINATED), .val (.ref b57), .val (.ref k_TERMINATED)] [(.int (1 : Int32))])) _
    exact retN X79 hx (t := .boolean) Bd.returns (by simp) (hb hby at_266) hr
  · show own_Qlaw h0 n0 _ T79.heap _
    exact ⟨rfl, N79⟩
set_option maxRecDepth 65536 in
theorem own_law (l : Launch) (Z : State) (a0 : Array Value) (hw : ∀ d ∈ tables_1, d.before a0 Z = true) (ws : List Jvm.Cond) (G1 : Int32) (k_RUNNING : Addr) (s_RUNNING : Addr) (t_RUNNING : Addr) (kb_RUNNING : ClassId) (k_QUIET : Addr) (s_QUIET : Addr) (t_QUIET : Addr) (kb_QUIET : ClassId) (k_TERMINATE : Addr) (s_TERMINATE : Addr) (t_TERMINATE : Addr) (kb_TERMINATE : ClassId) (k_TERMINATED : Addr) (s_TERMINATED : Addr) (t_TERMINATED : Addr) (kb_TERMINATED : ClassId) (k_VALUES : Addr) (kv_VALUES : ClassId) (gl : own_Glob Z G1 k_RUNNING s_RUNNING t_RUNNING kb_RUNNING k_QUIET s_QUIET t_QUIET kb_QUIET k_TERMINATE s_TERMINATE t_TERMINATE kb_TERMINATE k_TERMINATED s_TERMINATED t_TERMINATED kb_TERMINATED k_VALUES kv_VALUES) (p1 : Int32) (h0 : Heap) (n0 : Nat) (Z0 : n0 ≤ h0.size) (X00 : Old Z n0 h0) :
    MetFree l x (head1 (Jvm.Cond.code x code maxLocals ret :: ws) room_1) (fun a U => a = #[(.int p1)] ∧ Z.Warmed39 U.vm ∧ U.heap = h0) (fun _ _ _ _ _ => True) (fun _ U o U' => ∃ v L, o = .returned v ∧ own_Qlaw h0 n0 v U'.heap L ∧ FrameEnd U o U' L room_1.cells room_1.slots) := by
  rcases own_a3c p1 with hk | hk | hk | hk
  · exact own_law0 l Z a0 hw ws G1 k_RUNNING s_RUNNING t_RUNNING kb_RUNNING k_QUIET s_QUIET t_QUIET kb_QUIET k_TERMINATE s_TERMINATE t_TERMINATE kb_TERMINATE k_TERMINATED s_TERMINATED t_TERMINATED kb_TERMINATED k_VALUES kv_VALUES gl p1 h0 n0 Z0 X00 hk
  · exact own_law1 l Z a0 hw ws G1 k_RUNNING s_RUNNING t_RUNNING kb_RUNNING k_QUIET s_QUIET t_QUIET kb_QUIET k_TERMINATE s_TERMINATE t_TERMINATE kb_TERMINATE k_TERMINATED s_TERMINATED t_TERMINATED kb_TERMINATED k_VALUES kv_VALUES gl p1 h0 n0 Z0 X00 hk
  · exact own_law2 l Z a0 hw ws G1 k_RUNNING s_RUNNING t_RUNNING kb_RUNNING k_QUIET s_QUIET t_QUIET kb_QUIET k_TERMINATE s_TERMINATE t_TERMINATE kb_TERMINATE k_TERMINATED s_TERMINATED t_TERMINATED kb_TERMINATED k_VALUES kv_VALUES gl p1 h0 n0 Z0 X00 hk
  · exact own_law3 l Z a0 hw ws G1 k_RUNNING s_RUNNING t_RUNNING kb_RUNNING k_QUIET s_QUIET t_QUIET kb_QUIET k_TERMINATE s_TERMINATE t_TERMINATE kb_TERMINATE k_TERMINATED s_TERMINATED t_TERMINATED kb_TERMINATED k_VALUES kv_VALUES gl p1 h0 n0 Z0 X00 hk
set_option maxRecDepth 65536 in
set_option maxHeartbeats 40000000 in
theorem comes_1 {Post : Tables → Env → Array Value → State → Outcome → State → Prop} (hpost : ∀ tb e args s v u, (limb_1_1.after args s (.returned v) u = true ∧ limb_1_2.after args s (.returned v) u = true ∧ True) → FrameEnd s (.returned v) u (Jvm.fieldLocs frame_1_writes args s ++ Jvm.arrayLocs frame_1_arrays args s ++ Jvm.staticLocs frame_1_statics s) 16 128 → Post tb e args s (.returned v) u) :
    ArmFor flags0 classFile x code maxLocals ret World_1 tables_1 room_1 Calls_1 rest_1 Pre_1 Post := by
  intro l hfl _ _ p e ha hc hk s m args below hf hA hF happ hP
  obtain ⟨hcalls, hrest, hpre⟩ := hP
  obtain ⟨-, -, -, hnamed, -, -, -, hat⟩ := (Spec.applies_iff hf).mp happ
  obtain ⟨hg, hn⟩ := and_e (Cond.before_iff.mp (show (Jvm.Cond.and given_1 narrow_1).before args s = true from hpre))
  obtain ⟨cj1, cj2⟩ := and_e hg
  obtain ⟨w0, rfl⟩ : ∃ w0 : Value, args = #[w0] := by
    have hs : args.size = 1 := by simpa [Cond.value, given_1] using cj1
    obtain ⟨L⟩ := args
    match L, hs with
    | [w0], _ => exact ⟨w0, rfl⟩
  have hw := fun d (hd : d ∈ tables_1) => atoms_spec (ws := Jvm.Cond.code x code maxLocals ret :: tables_1) hat d (List.mem_cons_of_mem _ hd)
  have hfit : Fit s := fun {y c} hc i hi => by
    obtain ⟨ha, rfl⟩ := Array.getElem?_eq_some_iff.mp hc
    have q := List.all_eq_true.mp ((Array.all_eq_true_iff_forall_mem.mp hF) _ (Array.getElem_mem ha)) i (List.mem_range.mpr hi)
    simpa [Array.getElem?_eq_getElem hi] using q
  obtain ⟨hsets, hown0⟩ := atoms_of _ (rest_1_c_eq ▸ (show rest_1_c.before _ s = true from hrest))
  have hr0 := Cond.before_iff.mp hown0
  obtain ⟨i0, ei0⟩ := is_v cj2
  obtain rfl : w0 = (.int i0) := Option.some.inj ei0
  obtain ⟨cj3, cj4⟩ := and_e hn
  obtain ⟨cj5, cj6⟩ := and_e cj4
  obtain ⟨cj7, cj8⟩ := and_e cj6
  obtain ⟨cj9, cj10⟩ := and_e cj8
  obtain ⟨cj11, cj12⟩ := and_e cj10
  obtain ⟨cj13, cj14⟩ := and_e cj12
  obtain ⟨cj15, cj16⟩ := and_e cj14
  obtain ⟨cj17, cj18⟩ := and_e cj16
  obtain ⟨cj19, cj20⟩ := and_e cj18
  obtain ⟨cj21, cj22⟩ := and_e cj20
  obtain ⟨cj23, cj24⟩ := and_e cj22
  obtain ⟨cj25, cj26⟩ := and_e cj24
  obtain ⟨cj27, cj28⟩ := and_e cj26
  obtain ⟨cj29, cj30⟩ := and_e cj28
  obtain ⟨cj31, cj32⟩ := and_e cj30
  obtain ⟨cj33, cj34⟩ := and_e cj32
  obtain ⟨cj35, cj36⟩ := and_e cj34
  obtain ⟨cj37, cj38⟩ := and_e cj36
  obtain ⟨cj39, cj40⟩ := and_e cj38
  obtain ⟨cj41, cj42⟩ := and_e cj40
  obtain ⟨cj43, cj44⟩ := and_e cj42
  obtain ⟨cj45, cj46⟩ := and_e cj44
  obtain ⟨cj47, cj48⟩ := and_e cj46
  obtain ⟨cj49, cj50⟩ := and_e cj48
  obtain ⟨cj51, cj52⟩ := and_e cj50
  obtain ⟨cj53, cj54⟩ := and_e cj52
  obtain ⟨cj55, cj56⟩ := and_e cj54
  obtain ⟨cj57, cj58⟩ := and_e cj56
  obtain ⟨cj59, cj60⟩ := and_e cj58
  obtain ⟨cj61, cj62⟩ := and_e cj60
  obtain ⟨cj63, cj64⟩ := and_e cj62
  obtain ⟨cj65, cj66⟩ := and_e cj64
  obtain ⟨cj67, cj68⟩ := and_e cj66
  obtain ⟨cj69, cj70⟩ := and_e cj68
  obtain ⟨cj71, cj72⟩ := and_e cj70
  obtain ⟨cj73, cj74⟩ := and_e cj72
  obtain ⟨cj75, cj76⟩ := and_e cj74
  obtain ⟨cj77, cj78⟩ := and_e cj76
  obtain ⟨cj79, cj80⟩ := and_e cj78
  obtain ⟨cj81, cj82⟩ := and_e cj80
  obtain ⟨cj83, cj84⟩ := and_e cj82
  obtain ⟨cj85, cj86⟩ := and_e cj84
  obtain ⟨cj87, cj88⟩ := and_e cj86
  obtain ⟨cj89, cj90⟩ := and_e cj88
  obtain ⟨cj91, cj92⟩ := and_e cj90
  obtain ⟨cj93, cj94⟩ := and_e cj92
  obtain ⟨cj95, cj96⟩ := and_e cj94
  obtain ⟨cj97, cj98⟩ := and_e cj96
  obtain ⟨cj99, cj100⟩ := and_e cj98
  obtain ⟨cj101, cj102⟩ := and_e cj100
  obtain ⟨cj103, cj104⟩ := and_e cj102
  obtain ⟨cj105, cj106⟩ := and_e cj104
  obtain ⟨cj107, cj108⟩ := and_e cj106
  obtain ⟨cj109, cj110⟩ := and_e cj108
  obtain ⟨cj111, cj112⟩ := and_e cj110
  obtain ⟨cj113, cj114⟩ := and_e cj112
  obtain ⟨cj115, cj116⟩ := and_e cj114
  obtain ⟨G1, eG1⟩ := is_v (Cond.before_iff.mp (hsets _ (List.mem_of_getElem? (i := 1) rfl)))
  have O_CS : Sta s s.heap "java/lang/String" "COMPACT_STRINGS" "Z" (.int G1) := Sta.start eG1 (Or.inl (hsets _ (List.mem_of_getElem? (i := 0) rfl)))
  have P_CS : ¬ (G1 = (0 : Int32)) := gotF (Cond.eq_ints eG1 (Term.int_eval (0))) (not_v (Cond.before_iff.mp (hsets _ (List.mem_of_getElem? (i := 2) rfl))))
  obtain ⟨k_RUNNING, ev_RUNNING⟩ := exa_v cj3
  have E_RUNNING : Exa s s.heap k_RUNNING "com/example/dagsverke/dagsverke/job/WorkerState" := Exa.start ev_RUNNING cj3
  have O_RUNNING : Sta s s.heap "com/example/dagsverke/dagsverke/job/WorkerState" "RUNNING" "Lcom/example/dagsverke/dagsverke/job/WorkerState;" (.ref k_RUNNING) := Sta.start ev_RUNNING (Or.inr ⟨(hw _ (List.mem_of_getElem? (i := 2) rfl)), (hw _ (List.mem_of_getElem? (i := 3) rfl))⟩)
  obtain ⟨s_RUNNING, es_RUNNING⟩ := exa_v cj25
  have Es_RUNNING : Exa s s.heap s_RUNNING "java/lang/String" := Exa.start es_RUNNING cj25
  have Fs_RUNNING : Fld s s.heap k_RUNNING "com/example/dagsverke/dagsverke/job/WorkerState" "wireName" "Ljava/lang/String;" (.ref s_RUNNING) := Fld.start ((fld_at ev_RUNNING).symm.trans es_RUNNING)
  have Fc_RUNNING : Fld s s.heap s_RUNNING "java/lang/String" "coder" "B" (.int (0 : Int32)) := Fld.start ((fld_at es_RUNNING).symm.trans (own_eqint cj27))
  obtain ⟨t_RUNNING, et_RUNNING⟩ := arr_v cj29
  have Fv_RUNNING : Fld s s.heap s_RUNNING "java/lang/String" "value" "[B" (.ref t_RUNNING) := Fld.start ((fld_at es_RUNNING).symm.trans et_RUNNING)
  obtain ⟨cl_RUNNING, Ar_RUNNING⟩ := Arr.start et_RUNNING cj29
  obtain ⟨lz_RUNNING, ln_RUNNING⟩ := own_len (own_eqint cj31) et_RUNNING Ar_RUNNING
  obtain ⟨kb_RUNNING, hkb_RUNNING⟩ : ∃ z, z = cl_RUNNING.cls := ⟨_, rfl⟩
  have V_RUNNING : Arv s s.heap t_RUNNING kb_RUNNING .byte (7 : Int32) ((([(114 : Int32), (117 : Int32), (110 : Int32), (110 : Int32), (105 : Int32), (110 : Int32), (103 : Int32)] : List Int32).map (fun c => c.toInt8.toInt32)).map Value.int) (.int (0 : Int32)) := by
    rw [hkb_RUNNING]
    exact Arv.start hfit Ar_RUNNING lz_RUNNING ln_RUNNING (by decide) rfl ⟨(own_elem (own_eqint cj57) et_RUNNING Ar_RUNNING (j := 0) rfl), (own_elem (own_eqint cj59) et_RUNNING Ar_RUNNING (j := 1) rfl), (own_elem (own_eqint cj61) et_RUNNING Ar_RUNNING (j := 2) rfl), (own_elem (own_eqint cj63) et_RUNNING Ar_RUNNING (j := 3) rfl), (own_elem (own_eqint cj65) et_RUNNING Ar_RUNNING (j := 4) rfl), (own_elem (own_eqint cj67) et_RUNNING Ar_RUNNING (j := 5) rfl), (own_elem (own_eqint cj69) et_RUNNING Ar_RUNNING (j := 6) rfl), trivial⟩
  obtain ⟨k_QUIET, ev_QUIET⟩ := exa_v cj13
  have E_QUIET : Exa s s.heap k_QUIET "com/example/dagsverke/dagsverke/job/WorkerState" := Exa.start ev_QUIET cj13
  have O_QUIET : Sta s s.heap "com/example/dagsverke/dagsverke/job/WorkerState" "QUIET" "Lcom/example/dagsverke/dagsverke/job/WorkerState;" (.ref k_QUIET) := Sta.start ev_QUIET (Or.inr ⟨(hw _ (List.mem_of_getElem? (i := 2) rfl)), (hw _ (List.mem_of_getElem? (i := 48) rfl))⟩)
  obtain ⟨s_QUIET, es_QUIET⟩ := exa_v cj33
  have Es_QUIET : Exa s s.heap s_QUIET "java/lang/String" := Exa.start es_QUIET cj33
  have Fs_QUIET : Fld s s.heap k_QUIET "com/example/dagsverke/dagsverke/job/WorkerState" "wireName" "Ljava/lang/String;" (.ref s_QUIET) := Fld.start ((fld_at ev_QUIET).symm.trans es_QUIET)
  have Fc_QUIET : Fld s s.heap s_QUIET "java/lang/String" "coder" "B" (.int (0 : Int32)) := Fld.start ((fld_at es_QUIET).symm.trans (own_eqint cj35))
  obtain ⟨t_QUIET, et_QUIET⟩ := arr_v cj37
  have Fv_QUIET : Fld s s.heap s_QUIET "java/lang/String" "value" "[B" (.ref t_QUIET) := Fld.start ((fld_at es_QUIET).symm.trans et_QUIET)
  obtain ⟨cl_QUIET, Ar_QUIET⟩ := Arr.start et_QUIET cj37
  obtain ⟨lz_QUIET, ln_QUIET⟩ := own_len (own_eqint cj39) et_QUIET Ar_QUIET
  obtain ⟨kb_QUIET, hkb_QUIET⟩ : ∃ z, z = cl_QUIET.cls := ⟨_, rfl⟩
  have V_QUIET : Arv s s.heap t_QUIET kb_QUIET .byte (5 : Int32) ((([(113 : Int32), (117 : Int32), (105 : Int32), (101 : Int32), (116 : Int32)] : List Int32).map (fun c => c.toInt8.toInt32)).map Value.int) (.int (0 : Int32)) := by
    rw [hkb_QUIET]
    exact Arv.start hfit Ar_QUIET lz_QUIET ln_QUIET (by decide) rfl ⟨(own_elem (own_eqint cj71) et_QUIET Ar_QUIET (j := 0) rfl), (own_elem (own_eqint cj73) et_QUIET Ar_QUIET (j := 1) rfl), (own_elem (own_eqint cj75) et_QUIET Ar_QUIET (j := 2) rfl), (own_elem (own_eqint cj77) et_QUIET Ar_QUIET (j := 3) rfl), (own_elem (own_eqint cj79) et_QUIET Ar_QUIET (j := 4) rfl), trivial⟩
  obtain ⟨k_TERMINATE, ev_TERMINATE⟩ := exa_v cj17
  have E_TERMINATE : Exa s s.heap k_TERMINATE "com/example/dagsverke/dagsverke/job/WorkerState" := Exa.start ev_TERMINATE cj17
  have O_TERMINATE : Sta s s.heap "com/example/dagsverke/dagsverke/job/WorkerState" "TERMINATE" "Lcom/example/dagsverke/dagsverke/job/WorkerState;" (.ref k_TERMINATE) := Sta.start ev_TERMINATE (Or.inr ⟨(hw _ (List.mem_of_getElem? (i := 2) rfl)), (hw _ (List.mem_of_getElem? (i := 49) rfl))⟩)
  obtain ⟨s_TERMINATE, es_TERMINATE⟩ := exa_v cj41
  have Es_TERMINATE : Exa s s.heap s_TERMINATE "java/lang/String" := Exa.start es_TERMINATE cj41
  have Fs_TERMINATE : Fld s s.heap k_TERMINATE "com/example/dagsverke/dagsverke/job/WorkerState" "wireName" "Ljava/lang/String;" (.ref s_TERMINATE) := Fld.start ((fld_at ev_TERMINATE).symm.trans es_TERMINATE)
  have Fc_TERMINATE : Fld s s.heap s_TERMINATE "java/lang/String" "coder" "B" (.int (0 : Int32)) := Fld.start ((fld_at es_TERMINATE).symm.trans (own_eqint cj43))
  obtain ⟨t_TERMINATE, et_TERMINATE⟩ := arr_v cj45
  have Fv_TERMINATE : Fld s s.heap s_TERMINATE "java/lang/String" "value" "[B" (.ref t_TERMINATE) := Fld.start ((fld_at es_TERMINATE).symm.trans et_TERMINATE)
  obtain ⟨cl_TERMINATE, Ar_TERMINATE⟩ := Arr.start et_TERMINATE cj45
  obtain ⟨lz_TERMINATE, ln_TERMINATE⟩ := own_len (own_eqint cj47) et_TERMINATE Ar_TERMINATE
  obtain ⟨kb_TERMINATE, hkb_TERMINATE⟩ : ∃ z, z = cl_TERMINATE.cls := ⟨_, rfl⟩
  have V_TERMINATE : Arv s s.heap t_TERMINATE kb_TERMINATE .byte (9 : Int32) ((([(116 : Int32), (101 : Int32), (114 : Int32), (109 : Int32), (105 : Int32), (110 : Int32), (97 : Int32), (116 : Int32), (101 : Int32)] : List Int32).map (fun c => c.toInt8.toInt32)).map Value.int) (.int (0 : Int32)) := by
    rw [hkb_TERMINATE]
    exact Arv.start hfit Ar_TERMINATE lz_TERMINATE ln_TERMINATE (by decide) rfl ⟨(own_elem (own_eqint cj81) et_TERMINATE Ar_TERMINATE (j := 0) rfl), (own_elem (own_eqint cj83) et_TERMINATE Ar_TERMINATE (j := 1) rfl), (own_elem (own_eqint cj85) et_TERMINATE Ar_TERMINATE (j := 2) rfl), (own_elem (own_eqint cj87) et_TERMINATE Ar_TERMINATE (j := 3) rfl), (own_elem (own_eqint cj89) et_TERMINATE Ar_TERMINATE (j := 4) rfl), (own_elem (own_eqint cj91) et_TERMINATE Ar_TERMINATE (j := 5) rfl), (own_elem (own_eqint cj93) et_TERMINATE Ar_TERMINATE (j := 6) rfl), (own_elem (own_eqint cj95) et_TERMINATE Ar_TERMINATE (j := 7) rfl), (own_elem (own_eqint cj97) et_TERMINATE Ar_TERMINATE (j := 8) rfl), trivial⟩
  obtain ⟨k_TERMINATED, ev_TERMINATED⟩ := exa_v cj21
  have E_TERMINATED : Exa s s.heap k_TERMINATED "com/example/dagsverke/dagsverke/job/WorkerState" := Exa.start ev_TERMINATED cj21
  have O_TERMINATED : Sta s s.heap "com/example/dagsverke/dagsverke/job/WorkerState" "TERMINATED" "Lcom/example/dagsverke/dagsverke/job/WorkerState;" (.ref k_TERMINATED) := Sta.start ev_TERMINATED (Or.inr ⟨(hw _ (List.mem_of_getElem? (i := 2) rfl)), (hw _ (List.mem_of_getElem? (i := 50) rfl))⟩)
  obtain ⟨s_TERMINATED, es_TERMINATED⟩ := exa_v cj49
  have Es_TERMINATED : Exa s s.heap s_TERMINATED "java/lang/String" := Exa.start es_TERMINATED cj49
  have Fs_TERMINATED : Fld s s.heap k_TERMINATED "com/example/dagsverke/dagsverke/job/WorkerState" "wireName" "Ljava/lang/String;" (.ref s_TERMINATED) := Fld.start ((fld_at ev_TERMINATED).symm.trans es_TERMINATED)
  have Fc_TERMINATED : Fld s s.heap s_TERMINATED "java/lang/String" "coder" "B" (.int (0 : Int32)) := Fld.start ((fld_at es_TERMINATED).symm.trans (own_eqint cj51))
  obtain ⟨t_TERMINATED, et_TERMINATED⟩ := arr_v cj53
  have Fv_TERMINATED : Fld s s.heap s_TERMINATED "java/lang/String" "value" "[B" (.ref t_TERMINATED) := Fld.start ((fld_at es_TERMINATED).symm.trans et_TERMINATED)
  obtain ⟨cl_TERMINATED, Ar_TERMINATED⟩ := Arr.start et_TERMINATED cj53
  obtain ⟨lz_TERMINATED, ln_TERMINATED⟩ := own_len (own_eqint cj55) et_TERMINATED Ar_TERMINATED
  obtain ⟨kb_TERMINATED, hkb_TERMINATED⟩ : ∃ z, z = cl_TERMINATED.cls := ⟨_, rfl⟩
  have V_TERMINATED : Arv s s.heap t_TERMINATED kb_TERMINATED .byte (10 : Int32) ((([(116 : Int32), (101 : Int32), (114 : Int32), (109 : Int32), (105 : Int32), (110 : Int32), (97 : Int32), (116 : Int32), (101 : Int32), (100 : Int32)] : List Int32).map (fun c => c.toInt8.toInt32)).map Value.int) (.int (0 : Int32)) := by
    rw [hkb_TERMINATED]
    exact Arv.start hfit Ar_TERMINATED lz_TERMINATED ln_TERMINATED (by decide) rfl ⟨(own_elem (own_eqint cj99) et_TERMINATED Ar_TERMINATED (j := 0) rfl), (own_elem (own_eqint cj101) et_TERMINATED Ar_TERMINATED (j := 1) rfl), (own_elem (own_eqint cj103) et_TERMINATED Ar_TERMINATED (j := 2) rfl), (own_elem (own_eqint cj105) et_TERMINATED Ar_TERMINATED (j := 3) rfl), (own_elem (own_eqint cj107) et_TERMINATED Ar_TERMINATED (j := 4) rfl), (own_elem (own_eqint cj109) et_TERMINATED Ar_TERMINATED (j := 5) rfl), (own_elem (own_eqint cj111) et_TERMINATED Ar_TERMINATED (j := 6) rfl), (own_elem (own_eqint cj113) et_TERMINATED Ar_TERMINATED (j := 7) rfl), (own_elem (own_eqint cj115) et_TERMINATED Ar_TERMINATED (j := 8) rfl), (own_elem (own_eqint cj116) et_TERMINATED Ar_TERMINATED (j := 9) rfl), trivial⟩
  obtain ⟨k_VALUES, ev_VALUES⟩ := exa_v cj7
  have E_VALUES : Exa s s.heap k_VALUES "[Lcom/example/dagsverke/dagsverke/job/WorkerState;" := Exa.start ev_VALUES cj7
  have O_VALUES : Sta s s.heap "com/example/dagsverke/dagsverke/job/WorkerState" "$VALUES" "[Lcom/example/dagsverke/dagsverke/job/WorkerState;" (.ref k_VALUES) := Sta.start ev_VALUES (Or.inl (hw _ (List.mem_of_getElem? (i := 51) rfl)))
  obtain ⟨cl_VALUES, Ar_VALUES⟩ := Arr.start ev_VALUES cj5
  obtain ⟨lz_VALUES, ln_VALUES⟩ := own_len (own_eqint cj9) ev_VALUES Ar_VALUES
  obtain ⟨kv_VALUES, hkv_VALUES⟩ : ∃ z, z = cl_VALUES.cls := ⟨_, rfl⟩
  have V_VALUES : Arv s s.heap k_VALUES kv_VALUES (.object "com/example/dagsverke/dagsverke/job/WorkerState") (4 : Int32) [(.ref k_RUNNING), (.ref k_QUIET), (.ref k_TERMINATE), (.ref k_TERMINATED)] .null := by
    rw [hkv_VALUES]
    exact Arv.start hfit Ar_VALUES lz_VALUES ln_VALUES (by decide) rfl ⟨(own_elem (own_eqref cj11 ev_RUNNING) ev_VALUES Ar_VALUES (j := 0) rfl), (own_elem (own_eqref cj15 ev_QUIET) ev_VALUES Ar_VALUES (j := 1) rfl), (own_elem (own_eqref cj19 ev_TERMINATE) ev_VALUES Ar_VALUES (j := 2) rfl), (own_elem (own_eqref cj23 ev_TERMINATED) ev_VALUES Ar_VALUES (j := 3) rfl), trivial⟩
  obtain ⟨n, o, h1, h2, h3, _, L, rfl, ⟨rfl, N⟩, hq⟩ := own_law l s _ hw tables_1 G1 k_RUNNING s_RUNNING t_RUNNING kb_RUNNING k_QUIET s_QUIET t_QUIET kb_QUIET k_TERMINATE s_TERMINATE t_TERMINATE kb_TERMINATE k_TERMINATED s_TERMINATED t_TERMINATED kb_TERMINATED k_VALUES kv_VALUES ⟨O_CS, P_CS, O_RUNNING, E_RUNNING, Fs_RUNNING, Es_RUNNING, Fc_RUNNING, Fv_RUNNING, V_RUNNING, O_QUIET, E_QUIET, Fs_QUIET, Es_QUIET, Fc_QUIET, Fv_QUIET, V_QUIET, O_TERMINATE, E_TERMINATE, Fs_TERMINATE, Es_TERMINATE, Fc_TERMINATE, Fv_TERMINATE, V_TERMINATE, O_TERMINATED, E_TERMINATED, Fs_TERMINATED, Es_TERMINATED, Fc_TERMINATED, Fv_TERMINATED, V_TERMINATED, O_VALUES, E_VALUES, V_VALUES⟩ i0 s.heap s.heap.size (Nat.le_refl _) (Old.start s) p e ha hc hk s m _ below hf ((Spec.applies_iff_loose hf).mp happ).1 ⟨rfl, State.Warmed39.refl s, rfl⟩ trivial
  refine ⟨n, _, h1, h2, h3, hpost _ _ _ _ _ _ ⟨Cond.after_iff.mpr rfl, Cond.after_iff.mpr (eq_i res_at (Term.int_eval (1)) rfl), trivial⟩ ⟨hq.1, hq.2.1, (hq.2.2.sift fun y hy => Or.inr (N y hy)).mono (by decide) (by decide)⟩⟩
theorem main_1_1 : Claimed_1_1 := comes_1 fun _ _ _ _ _ _ h hF => ⟨h.1, hF⟩
theorem main_1_2 : Claimed_1_2 := comes_1 fun _ _ _ _ _ _ h hF => ⟨h.2.1, hF⟩
end Jvm.Pilot.@@N@@
namespace Jvm.Pilot.@@N@@
open Jvm Jvm.ClassFile Sem Op Lib Jvm.Free Jvm.Stand Jvm.Pilot.@@N@@.Jvm.D
/-! MADE BY PROGRAM (witnessworld.py) out of the Statement's table words and the real class files: 22 classes; the members and pool entries that the words name. The judged class is class 1, her method 1. -/
namespace start1
open Jvm.ClassFile
def u (s : String) : CpInfo := .utf8 (stringToUtf16 s)
/-- a pool by its gaps: so many unusable entries, then the entry; so many at the end -/
def gap : Nat → List CpInfo → List CpInfo
  | 0, r => r
  | n + 1, r => .unusable :: gap n r
def poolList (es : List (Nat × CpInfo)) (last : Nat) : List CpInfo := es.foldr (fun e r => gap e.1 (e.2 :: r)) (gap last [])
def pool (es : List (Nat × CpInfo)) (last : Nat) : Array CpInfo := ⟨poolList es last⟩
def fileOf (pool : Array CpInfo) (this : Nat) (attrs : Array Attribute := #[]) (ms : Array MethodInfo := #[]) (fl : Nat := 33) (sup : Nat := 0) (ifs : Array Nat := #[]) (fds : Array FieldInfo := #[]) : ClassFile where
  minorVersion := 0
  majorVersion := 65
  constantPool := pool
  accessFlags := fl
  thisClass := this
  superClass := sup
  interfaces := ifs
  fields := fds
  methods := ms
  attributes := attrs
def plain (name : String) (sup : Option ClassId) : Class where
  name := name
  kind := .ordinary
  loader := none
  accessFlags := 33
  super := sup
  interfaces := #[]
  cf := none
  fields := #[]
  methods := #[]
  instanceTypes := #[]
  staticTypes := #[]
  resolved := #[]
  callSites := []
  init := .initialized
  statics := none
  mirror := none

def pool0 : Array CpInfo := pool [(5, u "<init>"), (0, u "()V"), (1, .class_ 10), (1, u "java/lang/Object"), (85, u "clone"), (0, u "()Ljava/lang/Object;")] 26

def k0c0 : Code := { maxStack := 0, maxLocals := 1, code := object_method_1_code, exceptionTable := #[], attributes := #[] }
def k0m0 : Method := { name := "<init>", desc := "()V", sig := { parameters := [], returnType := none }, accessFlags := 1, code := some k0c0 }
def k0m1 : Method := { name := "clone", desc := "()Ljava/lang/Object;", sig := { parameters := [], returnType := some (.object "java/lang/Object") }, accessFlags := 260, code := none }
/-- java/lang/Object -/
def k0 : Class := { plain "java/lang/Object" none with
  accessFlags := 33
  interfaces := #[]
  cf := some (fileOf pool0 8 #[] #[{ accessFlags := 1, nameIndex := 5, descriptorIndex := 6, attributes := #[] }, { accessFlags := 260, nameIndex := 96, descriptorIndex := 97, attributes := #[] }] 33 0 #[] #[])
  fields := #[]
  methods := #[k0m0, k0m1]
  instanceTypes := #[]
  staticTypes := #[]
  resolved := Array.replicate 124 none
  statics := none }

def pool1 : Array CpInfo := pool [(2, .class_ 4), (1, u "java/lang/Object"), (0, u "<init>"), (0, u "()V"), (0, .fieldref 8 9), (0, .class_ 10), (0, .nameAndType 11 12), (0, u "com/example/dagsverke/dagsverke/job/WorkerState"), (0, u "RUNNING"), (0, u "Lcom/example/dagsverke/dagsverke/job/WorkerState;"), (0, .fieldref 8 14), (0, .nameAndType 15 12), (0, u "QUIET"), (0, .fieldref 8 17), (0, .nameAndType 18 12), (0, u "TERMINATE"), (0, .fieldref 8 20), (0, .nameAndType 21 12), (0, u "TERMINATED"), (0, .class_ 23), (0, u "java/lang/String"), (0, .methodref 22 25), (0, .nameAndType 5 26), (0, u "([C)V"), (0, .methodref 8 28), (0, .nameAndType 29 30), (0, u "fromWireName"), (0, u "(Ljava/lang/String;)Lcom/example/dagsverke/dagsverke/job/WorkerState;"), (0, .methodref 8 32), (0, .nameAndType 33 34), (0, u "wireName"), (0, u "()Ljava/lang/String;"), (0, .methodref 22 36), (0, .nameAndType 37 38), (0, u "equals"), (0, u "(Ljava/lang/Object;)Z"), (0, .class_ 40), (0, u "com/example/dagsverke/dagsverke/job/WorkerStateFromWireNamePinLaw"), (2, u "law"), (0, u "(I)Z")] 5

def k1m0 : Method := { name := "<init>", desc := "()V", sig := { parameters := [], returnType := none }, accessFlags := 1, code := none }
def k1c1 : Code := { maxStack := 4, maxLocals := 6, code := code, exceptionTable := #[], attributes := #[] }
def k1m1 : Method := { name := "law", desc := "(I)Z", sig := { parameters := [.int], returnType := some .boolean }, accessFlags := 9, code := some k1c1 }
/-- com/example/dagsverke/dagsverke/job/WorkerStateFromWireNamePinLaw -/
def k1 : Class := { plain "com/example/dagsverke/dagsverke/job/WorkerStateFromWireNamePinLaw" (some 0) with
  accessFlags := 49
  interfaces := #[]
  cf := some (fileOf pool1 39 #[] #[{ accessFlags := 1, nameIndex := 5, descriptorIndex := 6, attributes := #[] }, { accessFlags := 9, nameIndex := 43, descriptorIndex := 44, attributes := #[] }] 49 2 #[] #[])
  fields := #[]
  methods := #[k1m0, k1m1]
  instanceTypes := #[]
  staticTypes := #[]
  resolved := Array.replicate 50 none
  statics := none }

def pool2 : Array CpInfo := pool [(1, .class_ 2), (0, u "java/lang/constant/Constable"), (0, .class_ 4), (0, u "java/lang/Object")] 6

/-- java/lang/constant/Constable -/
def k2 : Class := { plain "java/lang/constant/Constable" (some 0) with
  accessFlags := 1537
  interfaces := #[]
  cf := some (fileOf pool2 1 #[] #[] 1537 3 #[] #[])
  fields := #[]
  methods := #[]
  instanceTypes := #[]
  staticTypes := #[]
  resolved := Array.replicate 11 none
  statics := none }

def pool3 : Array CpInfo := pool [(1, .class_ 2), (0, u "java/lang/Comparable"), (0, .class_ 4), (0, u "java/lang/Object")] 7

/-- java/lang/Comparable -/
def k3 : Class := { plain "java/lang/Comparable" (some 0) with
  accessFlags := 1537
  interfaces := #[]
  cf := some (fileOf pool3 1 #[] #[] 1537 3 #[] #[])
  fields := #[]
  methods := #[]
  instanceTypes := #[]
  staticTypes := #[]
  resolved := Array.replicate 12 none
  statics := none }

def pool4 : Array CpInfo := pool [(1, .class_ 2), (0, u "java/io/Serializable"), (0, .class_ 4), (0, u "java/lang/Object")] 2

/-- java/io/Serializable -/
def k4 : Class := { plain "java/io/Serializable" (some 0) with
  accessFlags := 1537
  interfaces := #[]
  cf := some (fileOf pool4 1 #[] #[] 1537 3 #[] #[])
  fields := #[]
  methods := #[]
  instanceTypes := #[]
  staticTypes := #[]
  resolved := Array.replicate 7 none
  statics := none }

def pool5 : Array CpInfo := pool [(2, .class_ 4), (1, u "java/lang/Enum"), (0, u "name"), (0, u "Ljava/lang/String;"), (2, u "ordinal"), (0, u "I"), (1, .class_ 14), (1, u "java/lang/Object"), (4, u "hash"), (86, .class_ 108), (1, u "java/lang/Enum$EnumDesc"), (2, .class_ 112), (0, u "java/lang/constant/Constable"), (0, .class_ 114), (0, u "java/lang/Comparable"), (0, .class_ 116), (0, u "java/io/Serializable")] 87

/-- java/lang/Enum -/
def k5 : Class := { plain "java/lang/Enum" (some 0) with
  accessFlags := 1057
  interfaces := #[2, 3, 4]
  cf := some (fileOf pool5 2 #[.nestMembers #[106]] #[] 1057 12 #[111, 113, 115] #[{ accessFlags := 18, nameIndex := 5, descriptorIndex := 6, attributes := #[] }, { accessFlags := 18, nameIndex := 9, descriptorIndex := 10, attributes := #[] }, { accessFlags := 2, nameIndex := 19, descriptorIndex := 10, attributes := #[] }])
  fields := #[{ name := "name", type := (.object "java/lang/String"), accessFlags := 18, slot := 0, constantValue := 0 }, { name := "ordinal", type := .int, accessFlags := 18, slot := 1, constantValue := 0 }, { name := "hash", type := .int, accessFlags := 2, slot := 2, constantValue := 0 }]
  methods := #[]
  instanceTypes := #[(.object "java/lang/String"), .int, .int]
  staticTypes := #[]
  resolved := Array.replicate 204 none
  statics := none }

def pool6 : Array CpInfo := pool [(1, .class_ 2), (0, u "com/example/dagsverke/dagsverke/job/WorkerState"), (2, u "RUNNING"), (0, u "Lcom/example/dagsverke/dagsverke/job/WorkerState;"), (2, u "QUIET"), (2, u "TERMINATE"), (2, u "TERMINATED"), (0, .fieldref 1 17), (0, .nameAndType 18 19), (0, u "$VALUES"), (0, u "[Lcom/example/dagsverke/dagsverke/job/WorkerState;"), (0, .methodref 21 22), (0, .class_ 19), (0, .nameAndType 23 24), (0, u "clone"), (0, u "()Ljava/lang/Object;"), (1, .class_ 28), (1, u "java/lang/Enum"), (6, .fieldref 1 36), (0, .nameAndType 37 38), (0, u "wireName"), (0, u "Ljava/lang/String;"), (0, .methodref 1 40), (0, .nameAndType 41 42), (0, u "values"), (0, u "()[Lcom/example/dagsverke/dagsverke/job/WorkerState;"), (0, .methodref 44 45), (0, .class_ 46), (0, .nameAndType 47 48), (0, u "java/lang/String"), (0, u "equals"), (0, u "(Ljava/lang/Object;)Z"), (29, u "(Ljava/lang/String;)Lcom/example/dagsverke/dagsverke/job/WorkerState;"), (2, u "()Ljava/lang/String;"), (0, u "fromWireName")] 21

def k6c0 : Code := { maxStack := 1, maxLocals := 0, code := prog_13_method_1_code, exceptionTable := #[], attributes := #[] }
def k6m0 : Method := { name := "values", desc := "()[Lcom/example/dagsverke/dagsverke/job/WorkerState;", sig := { parameters := [], returnType := some (.array (.object "com/example/dagsverke/dagsverke/job/WorkerState")) }, accessFlags := 9, code := some k6c0 }
def k6c1 : Code := { maxStack := 1, maxLocals := 1, code := prog_13_method_4_code, exceptionTable := #[], attributes := #[] }
def k6m1 : Method := { name := "wireName", desc := "()Ljava/lang/String;", sig := { parameters := [], returnType := some (.object "java/lang/String") }, accessFlags := 1, code := some k6c1 }
def k6c2 : Code := { maxStack := 3, maxLocals := 5, code := prog_13_method_5_code, exceptionTable := #[], attributes := #[] }
def k6m2 : Method := { name := "fromWireName", desc := "(Ljava/lang/String;)Lcom/example/dagsverke/dagsverke/job/WorkerState;", sig := { parameters := [(.object "java/lang/String")], returnType := some (.object "com/example/dagsverke/dagsverke/job/WorkerState") }, accessFlags := 9, code := some k6c2 }
/-- com/example/dagsverke/dagsverke/job/WorkerState -/
def k6 : Class := { plain "com/example/dagsverke/dagsverke/job/WorkerState" (some 5) with
  accessFlags := 16433
  interfaces := #[]
  cf := some (fileOf pool6 1 #[] #[{ accessFlags := 9, nameIndex := 41, descriptorIndex := 42, attributes := #[] }, { accessFlags := 1, nameIndex := 37, descriptorIndex := 81, attributes := #[] }, { accessFlags := 9, nameIndex := 82, descriptorIndex := 78, attributes := #[] }] 16433 26 #[] #[{ accessFlags := 16409, nameIndex := 5, descriptorIndex := 6, attributes := #[] }, { accessFlags := 16409, nameIndex := 9, descriptorIndex := 6, attributes := #[] }, { accessFlags := 16409, nameIndex := 12, descriptorIndex := 6, attributes := #[] }, { accessFlags := 16409, nameIndex := 15, descriptorIndex := 6, attributes := #[] }, { accessFlags := 18, nameIndex := 37, descriptorIndex := 38, attributes := #[] }, { accessFlags := 4122, nameIndex := 18, descriptorIndex := 19, attributes := #[] }])
  fields := #[{ name := "RUNNING", type := (.object "com/example/dagsverke/dagsverke/job/WorkerState"), accessFlags := 16409, slot := 0, constantValue := 0 }, { name := "QUIET", type := (.object "com/example/dagsverke/dagsverke/job/WorkerState"), accessFlags := 16409, slot := 1, constantValue := 0 }, { name := "TERMINATE", type := (.object "com/example/dagsverke/dagsverke/job/WorkerState"), accessFlags := 16409, slot := 2, constantValue := 0 }, { name := "TERMINATED", type := (.object "com/example/dagsverke/dagsverke/job/WorkerState"), accessFlags := 16409, slot := 3, constantValue := 0 }, { name := "wireName", type := (.object "java/lang/String"), accessFlags := 18, slot := 3, constantValue := 0 }, { name := "$VALUES", type := (.array (.object "com/example/dagsverke/dagsverke/job/WorkerState")), accessFlags := 4122, slot := 4, constantValue := 0 }]
  methods := #[k6m0, k6m1, k6m2]
  instanceTypes := #[(.object "java/lang/String"), .int, .int, (.object "java/lang/String")]
  staticTypes := #[(.object "com/example/dagsverke/dagsverke/job/WorkerState"), (.object "com/example/dagsverke/dagsverke/job/WorkerState"), (.object "com/example/dagsverke/dagsverke/job/WorkerState"), (.object "com/example/dagsverke/dagsverke/job/WorkerState"), (.array (.object "com/example/dagsverke/dagsverke/job/WorkerState"))]
  resolved := Array.replicate 104 none
  statics := some 0 }

def pool7 : Array CpInfo := pool [(2, .class_ 4), (1, u "java/lang/CharSequence"), (42, .class_ 48), (0, u "java/lang/CharSequence$1CodePointIterator"), (10, .class_ 60), (0, u "java/lang/CharSequence$1CharIterator"), (5, .class_ 67), (0, u "java/lang/Object")] 63

/-- java/lang/CharSequence -/
def k7 : Class := { plain "java/lang/CharSequence" (some 0) with
  accessFlags := 1537
  interfaces := #[]
  cf := some (fileOf pool7 2 #[.nestMembers #[47, 59]] #[] 1537 66 #[] #[])
  fields := #[]
  methods := #[]
  instanceTypes := #[]
  staticTypes := #[]
  resolved := Array.replicate 131 none
  statics := none }

def pool8 : Array CpInfo := pool [(1, .class_ 2), (0, u "java/lang/constant/ConstantDesc"), (0, .class_ 4), (0, u "java/lang/Object")] 32

/-- java/lang/constant/ConstantDesc -/
def k8 : Class := { plain "java/lang/constant/ConstantDesc" (some 0) with
  accessFlags := 1537
  interfaces := #[]
  cf := some (fileOf pool8 1 #[] #[] 1537 3 #[] #[])
  fields := #[]
  methods := #[]
  instanceTypes := #[]
  staticTypes := #[]
  resolved := Array.replicate 37 none
  statics := none }

def pool9 : Array CpInfo := pool [(1, .methodref 2 3), (0, .class_ 4), (0, .nameAndType 5 6), (0, u "java/lang/Object"), (0, u "<init>"), (0, u "()V"), (2, .fieldref 10 11), (0, .class_ 12), (0, .nameAndType 13 14), (0, u "java/lang/String"), (0, u "value"), (0, u "[B"), (0, .fieldref 10 16), (0, .nameAndType 17 18), (0, u "coder"), (0, u "B"), (2, u "hash"), (0, u "I"), (2, u "hashIsZero"), (0, u "Z"), (0, .methodref 10 28), (0, .nameAndType 5 29), (0, u "([CIILjava/lang/Void;)V"), (8, .fieldref 10 39), (0, .nameAndType 40 26), (0, u "COMPACT_STRINGS"), (1, .class_ 44), (1, u "java/lang/StringUTF16"), (0, u "compress"), (1, .methodref 42 48), (0, .nameAndType 49 50), (0, u "coderFromArrayLen"), (0, u "([BI)B"), (56, .class_ 109), (1, u "java/lang/StringLatin1"), (67, .methodref 42 178), (0, .nameAndType 45 179), (0, u "([CII)[B"), (361, .methodref 107 542), (0, .nameAndType 543 544), (0, u "equals"), (0, u "([B[B)Z"), (28, u "(Ljava/lang/Object;)Z"), (1, .class_ 576), (0, u "java/lang/CharSequence"), (22, u "CASE_INSENSITIVE_ORDER"), (0, u "Ljava/util/Comparator;"), (409, u "([C)V"), (90, u "serialPersistentFields"), (0, u "[Ljava/io/ObjectStreamField;"), (0, .class_ 1104), (0, u "java/lang/String$CaseInsensitiveComparator"), (1, .class_ 1107), (0, u "java/io/Serializable"), (0, .class_ 1109), (0, u "java/lang/Comparable"), (0, .class_ 1111), (0, u "java/lang/constant/Constable"), (0, .class_ 1113), (0, u "java/lang/constant/ConstantDesc"), (2, u "serialVersionUID"), (0, u "J"), (3, u "REPL"), (0, u "C"), (2, u "LATIN1"), (1, u "UTF16")] 323

def k9m0 : Method := { name := "<init>", desc := "()V", sig := { parameters := [], returnType := none }, accessFlags := 1, code := none }
def k9c1 : Code := { maxStack := 5, maxLocals := 2, code := jdk_42_method_3_code, exceptionTable := #[], attributes := #[] }
def k9m1 : Method := { name := "<init>", desc := "([C)V", sig := { parameters := [(.array .char)], returnType := none }, accessFlags := 1, code := some k9c1 }
def k9c2 : Code := { maxStack := 2, maxLocals := 3, code := jdk_42_method_66_code, exceptionTable := #[], attributes := #[] }
def k9m2 : Method := { name := "equals", desc := "(Ljava/lang/Object;)Z", sig := { parameters := [(.object "java/lang/Object")], returnType := some .boolean }, accessFlags := 1, code := some k9c2 }
def k9c3 : Code := { maxStack := 4, maxLocals := 6, code := jdk_42_method_149_code, exceptionTable := #[], attributes := #[] }
def k9m3 : Method := { name := "<init>", desc := "([CIILjava/lang/Void;)V", sig := { parameters := [(.array .char), .int, .int, (.object "java/lang/Void")], returnType := none }, accessFlags := 2, code := some k9c3 }
/-- java/lang/String -/
def k9 : Class := { plain "java/lang/String" (some 0) with
  accessFlags := 49
  interfaces := #[4, 3, 7, 2, 8]
  cf := some (fileOf pool9 10 #[.nestMembers #[1103]] #[{ accessFlags := 1, nameIndex := 5, descriptorIndex := 6, attributes := #[] }, { accessFlags := 1, nameIndex := 5, descriptorIndex := 1010, attributes := #[] }, { accessFlags := 1, nameIndex := 543, descriptorIndex := 573, attributes := #[] }, { accessFlags := 2, nameIndex := 5, descriptorIndex := 29, attributes := #[] }] 49 2 #[1106, 1108, 575, 1110, 1112] #[{ accessFlags := 18, nameIndex := 13, descriptorIndex := 14, attributes := #[] }, { accessFlags := 18, nameIndex := 17, descriptorIndex := 18, attributes := #[] }, { accessFlags := 2, nameIndex := 21, descriptorIndex := 22, attributes := #[] }, { accessFlags := 2, nameIndex := 25, descriptorIndex := 26, attributes := #[] }, { accessFlags := 26, nameIndex := 1116, descriptorIndex := 1117, attributes := #[] }, { accessFlags := 24, nameIndex := 40, descriptorIndex := 26, attributes := #[] }, { accessFlags := 26, nameIndex := 1101, descriptorIndex := 1102, attributes := #[] }, { accessFlags := 26, nameIndex := 1121, descriptorIndex := 1122, attributes := #[] }, { accessFlags := 25, nameIndex := 599, descriptorIndex := 600, attributes := #[] }, { accessFlags := 24, nameIndex := 1125, descriptorIndex := 18, attributes := #[] }, { accessFlags := 24, nameIndex := 1127, descriptorIndex := 18, attributes := #[] }])
  fields := #[{ name := "value", type := (.array .byte), accessFlags := 18, slot := 0, constantValue := 0 }, { name := "coder", type := .byte, accessFlags := 18, slot := 1, constantValue := 0 }, { name := "hash", type := .int, accessFlags := 2, slot := 2, constantValue := 0 }, { name := "hashIsZero", type := .boolean, accessFlags := 2, slot := 3, constantValue := 0 }, { name := "serialVersionUID", type := .long, accessFlags := 26, slot := 0, constantValue := 0 }, { name := "COMPACT_STRINGS", type := .boolean, accessFlags := 24, slot := 1, constantValue := 0 }, { name := "serialPersistentFields", type := (.array (.object "java/io/ObjectStreamField")), accessFlags := 26, slot := 2, constantValue := 0 }, { name := "REPL", type := .char, accessFlags := 26, slot := 3, constantValue := 0 }, { name := "CASE_INSENSITIVE_ORDER", type := (.object "java/util/Comparator"), accessFlags := 25, slot := 4, constantValue := 0 }, { name := "LATIN1", type := .byte, accessFlags := 24, slot := 5, constantValue := 0 }, { name := "UTF16", type := .byte, accessFlags := 24, slot := 6, constantValue := 0 }]
  methods := #[k9m0, k9m1, k9m2, k9m3]
  instanceTypes := #[(.array .byte), .byte, .int, .boolean]
  staticTypes := #[.long, .boolean, (.array (.object "java/io/ObjectStreamField")), .char, (.object "java/util/Comparator"), .byte, .byte]
  resolved := Array.replicate 1451 none
  statics := some 1 }

def pool10 : Array CpInfo := pool [(6, .class_ 8), (1, u "java/lang/Object"), (0, u "<init>"), (0, u "()V"), (1, .class_ 14), (1, u "java/lang/StringUTF16"), (31, u "$assertionsDisabled"), (0, u "Z"), (13, u "HI_BYTE_SHIFT"), (0, u "I"), (2, u "LO_BYTE_SHIFT"), (49, .methodref 12 116), (0, .nameAndType 117 118), (0, u "compress"), (0, u "([CI[BII)I"), (3, u "([CII)[B"), (138, u "coderFromArrayLen"), (0, u "([BI)B"), (106, .class_ 371), (1, u "java/lang/StringUTF16$LinesSpliterator"), (58, u "MAX_LENGTH"), (196, .class_ 628), (0, u "java/lang/StringUTF16$CodePointsSpliterator"), (0, .class_ 630), (0, u "java/lang/StringUTF16$CharsSpliterator")] 4

def k10m0 : Method := { name := "<init>", desc := "()V", sig := { parameters := [], returnType := none }, accessFlags := 0, code := none }
def k10c1 : Code := { maxStack := 2, maxLocals := 2, code := jdk_52_method_15_code, exceptionTable := #[], attributes := #[] }
def k10m1 : Method := { name := "coderFromArrayLen", desc := "([BI)B", sig := { parameters := [(.array .byte), .int], returnType := some .byte }, accessFlags := 8, code := some k10c1 }
def k10c2 : Code := { maxStack := 5, maxLocals := 6, code := jdk_52_method_16_code, exceptionTable := #[], attributes := #[] }
def k10m2 : Method := { name := "compress", desc := "([CII)[B", sig := { parameters := [(.array .char), .int, .int], returnType := some (.array .byte) }, accessFlags := 9, code := some k10c2 }
def k10c3 : Code := { maxStack := 3, maxLocals := 7, code := jdk_52_method_21_code, exceptionTable := #[], attributes := #[] }
def k10m3 : Method := { name := "compress", desc := "([CI[BII)I", sig := { parameters := [(.array .char), .int, (.array .byte), .int, .int], returnType := some .int }, accessFlags := 9, code := some k10c3 }
/-- java/lang/StringUTF16 -/
def k10 : Class := { plain "java/lang/StringUTF16" (some 0) with
  accessFlags := 48
  interfaces := #[]
  cf := some (fileOf pool10 12 #[.nestMembers #[627, 629, 369]] #[{ accessFlags := 0, nameIndex := 9, descriptorIndex := 10, attributes := #[] }, { accessFlags := 8, nameIndex := 261, descriptorIndex := 262, attributes := #[] }, { accessFlags := 9, nameIndex := 117, descriptorIndex := 122, attributes := #[] }, { accessFlags := 9, nameIndex := 117, descriptorIndex := 118, attributes := #[] }] 48 6 #[] #[{ accessFlags := 26, nameIndex := 61, descriptorIndex := 62, attributes := #[] }, { accessFlags := 26, nameIndex := 65, descriptorIndex := 62, attributes := #[] }, { accessFlags := 24, nameIndex := 430, descriptorIndex := 62, attributes := #[] }, { accessFlags := 4120, nameIndex := 46, descriptorIndex := 47, attributes := #[] }])
  fields := #[{ name := "HI_BYTE_SHIFT", type := .int, accessFlags := 26, slot := 0, constantValue := 0 }, { name := "LO_BYTE_SHIFT", type := .int, accessFlags := 26, slot := 1, constantValue := 0 }, { name := "MAX_LENGTH", type := .int, accessFlags := 24, slot := 2, constantValue := 0 }, { name := "$assertionsDisabled", type := .boolean, accessFlags := 4120, slot := 3, constantValue := 0 }]
  methods := #[k10m0, k10m1, k10m2, k10m3]
  instanceTypes := #[]
  staticTypes := #[.int, .int, .int, .boolean]
  resolved := Array.replicate 635 none
  statics := none }

def pool11 : Array CpInfo := pool [(1, .class_ 2), (0, u "java/lang/Cloneable"), (0, .class_ 4), (0, u "java/lang/Object")] 2

/-- java/lang/Cloneable -/
def k11 : Class := { plain "java/lang/Cloneable" (some 0) with
  accessFlags := 1537
  interfaces := #[]
  cf := some (fileOf pool11 1 #[] #[] 1537 3 #[] #[])
  fields := #[]
  methods := #[]
  instanceTypes := #[]
  staticTypes := #[]
  resolved := Array.replicate 7 none
  statics := none }

def pool12 : Array CpInfo := pool [(4, .class_ 6), (1, u "java/lang/Object"), (0, u "<init>"), (0, u "()V"), (5, .class_ 16), (1, u "java/lang/StringLatin1"), (104, u "$assertionsDisabled"), (0, u "Z"), (98, .class_ 223), (1, u "java/lang/StringLatin1$LinesSpliterator"), (57, u "equals"), (0, u "([B[B)Z"), (107, .class_ 391), (0, u "java/lang/StringLatin1$CharsSpliterator")] 3

def k12m0 : Method := { name := "<init>", desc := "()V", sig := { parameters := [], returnType := none }, accessFlags := 0, code := none }
def k12c1 : Code := { maxStack := 3, maxLocals := 3, code := jdk_43_method_13_code, exceptionTable := #[], attributes := #[] }
def k12m1 : Method := { name := "equals", desc := "([B[B)Z", sig := { parameters := [(.array .byte), (.array .byte)], returnType := some .boolean }, accessFlags := 9, code := some k12c1 }
/-- java/lang/StringLatin1 -/
def k12 : Class := { plain "java/lang/StringLatin1" (some 0) with
  accessFlags := 48
  interfaces := #[]
  cf := some (fileOf pool12 14 #[.nestMembers #[390, 221]] #[{ accessFlags := 0, nameIndex := 7, descriptorIndex := 8, attributes := #[] }, { accessFlags := 9, nameIndex := 281, descriptorIndex := 282, attributes := #[] }] 48 4 #[] #[{ accessFlags := 4120, nameIndex := 121, descriptorIndex := 122, attributes := #[] }])
  fields := #[{ name := "$assertionsDisabled", type := .boolean, accessFlags := 4120, slot := 0, constantValue := 0 }]
  methods := #[k12m0, k12m1]
  instanceTypes := #[]
  staticTypes := #[.boolean]
  resolved := Array.replicate 395 none
  statics := none }

def pool13 : Array CpInfo := pool [(2, .class_ 4), (1, u "java/lang/Object"), (0, u "<init>"), (0, u "()V"), (17, .class_ 26), (1, u "jdk/internal/util/Preconditions"), (28, .class_ 56), (0, u "jdk/internal/util/Preconditions$4"), (57, .class_ 115), (0, u "jdk/internal/util/Preconditions$1"), (7, u "SIOOBE_FORMATTER"), (0, u "Ljava/util/function/BiFunction;"), (0, .class_ 126), (0, u "jdk/internal/util/Preconditions$2"), (3, u "AIOOBE_FORMATTER"), (0, .class_ 132), (0, u "jdk/internal/util/Preconditions$3"), (3, u "IOOBE_FORMATTER")] 57

def k13m0 : Method := { name := "<init>", desc := "()V", sig := { parameters := [], returnType := none }, accessFlags := 1, code := none }
/-- jdk/internal/util/Preconditions -/
def k13 : Class := { plain "jdk/internal/util/Preconditions" (some 0) with
  accessFlags := 33
  interfaces := #[]
  cf := some (fileOf pool13 24 #[.nestMembers #[55, 131, 125, 114]] #[{ accessFlags := 1, nameIndex := 5, descriptorIndex := 6, attributes := #[] }] 33 2 #[] #[{ accessFlags := 25, nameIndex := 123, descriptorIndex := 124, attributes := #[] }, { accessFlags := 25, nameIndex := 130, descriptorIndex := 124, attributes := #[] }, { accessFlags := 25, nameIndex := 136, descriptorIndex := 124, attributes := #[] }])
  fields := #[{ name := "SIOOBE_FORMATTER", type := (.object "java/util/function/BiFunction"), accessFlags := 25, slot := 0, constantValue := 0 }, { name := "AIOOBE_FORMATTER", type := (.object "java/util/function/BiFunction"), accessFlags := 25, slot := 1, constantValue := 0 }, { name := "IOOBE_FORMATTER", type := (.object "java/util/function/BiFunction"), accessFlags := 25, slot := 2, constantValue := 0 }]
  methods := #[k13m0]
  instanceTypes := #[]
  staticTypes := #[(.object "java/util/function/BiFunction"), (.object "java/util/function/BiFunction"), (.object "java/util/function/BiFunction")]
  resolved := Array.replicate 194 none
  statics := some 2 }

def pool14 : Array CpInfo := pool [(9, u "<init>"), (6, .class_ 18), (1, u "java/lang/Object"), (0, u "()V"), (1, .class_ 23), (1, u "jdk/internal/util/ArraysSupport"), (0, u "LOG2_ARRAY_LONG_INDEX_SCALE"), (0, u "I"), (2, u "U"), (0, u "Ljdk/internal/misc/Unsafe;"), (8, u "BIG_ENDIAN"), (0, u "Z"), (8, u "LOG2_BYTE_BIT_SIZE"), (4, u "LOG2_ARRAY_INT_INDEX_SCALE"), (54, u "JLA"), (0, u "Ljdk/internal/access/JavaLangAccess;"), (11, u "LOG2_ARRAY_BOOLEAN_INDEX_SCALE"), (9, u "LOG2_ARRAY_BYTE_INDEX_SCALE"), (5, u "LOG2_ARRAY_CHAR_INDEX_SCALE"), (5, u "LOG2_ARRAY_SHORT_INDEX_SCALE"), (18, u "LOG2_ARRAY_FLOAT_INDEX_SCALE"), (24, u "LOG2_ARRAY_DOUBLE_INDEX_SCALE"), (89, u "T_BOOLEAN"), (2, u "T_CHAR"), (1, u "T_FLOAT"), (1, u "T_DOUBLE"), (1, u "T_BYTE"), (1, u "T_SHORT"), (1, u "T_INT"), (1, u "T_LONG"), (1, u "SOFT_MAX_ARRAY_LENGTH")] 83

def k14m0 : Method := { name := "<init>", desc := "()V", sig := { parameters := [], returnType := none }, accessFlags := 2, code := none }
/-- jdk/internal/util/ArraysSupport -/
def k14 : Class := { plain "jdk/internal/util/ArraysSupport" (some 0) with
  accessFlags := 33
  interfaces := #[]
  cf := some (fileOf pool14 21 #[] #[{ accessFlags := 2, nameIndex := 9, descriptorIndex := 19, attributes := #[] }] 33 16 #[] #[{ accessFlags := 24, nameIndex := 28, descriptorIndex := 29, attributes := #[] }, { accessFlags := 26, nameIndex := 38, descriptorIndex := 39, attributes := #[] }, { accessFlags := 25, nameIndex := 121, descriptorIndex := 25, attributes := #[] }, { accessFlags := 25, nameIndex := 131, descriptorIndex := 25, attributes := #[] }, { accessFlags := 25, nameIndex := 137, descriptorIndex := 25, attributes := #[] }, { accessFlags := 25, nameIndex := 143, descriptorIndex := 25, attributes := #[] }, { accessFlags := 25, nameIndex := 53, descriptorIndex := 25, attributes := #[] }, { accessFlags := 25, nameIndex := 24, descriptorIndex := 25, attributes := #[] }, { accessFlags := 25, nameIndex := 162, descriptorIndex := 25, attributes := #[] }, { accessFlags := 25, nameIndex := 187, descriptorIndex := 25, attributes := #[] }, { accessFlags := 26, nameIndex := 48, descriptorIndex := 25, attributes := #[] }, { accessFlags := 25, nameIndex := 277, descriptorIndex := 25, attributes := #[] }, { accessFlags := 25, nameIndex := 280, descriptorIndex := 25, attributes := #[] }, { accessFlags := 25, nameIndex := 282, descriptorIndex := 25, attributes := #[] }, { accessFlags := 25, nameIndex := 284, descriptorIndex := 25, attributes := #[] }, { accessFlags := 25, nameIndex := 286, descriptorIndex := 25, attributes := #[] }, { accessFlags := 25, nameIndex := 288, descriptorIndex := 25, attributes := #[] }, { accessFlags := 25, nameIndex := 290, descriptorIndex := 25, attributes := #[] }, { accessFlags := 25, nameIndex := 292, descriptorIndex := 25, attributes := #[] }, { accessFlags := 26, nameIndex := 108, descriptorIndex := 109, attributes := #[] }, { accessFlags := 25, nameIndex := 294, descriptorIndex := 25, attributes := #[] }])
  fields := #[{ name := "U", type := (.object "jdk/internal/misc/Unsafe"), accessFlags := 24, slot := 0, constantValue := 0 }, { name := "BIG_ENDIAN", type := .boolean, accessFlags := 26, slot := 1, constantValue := 0 }, { name := "LOG2_ARRAY_BOOLEAN_INDEX_SCALE", type := .int, accessFlags := 25, slot := 2, constantValue := 0 }, { name := "LOG2_ARRAY_BYTE_INDEX_SCALE", type := .int, accessFlags := 25, slot := 3, constantValue := 0 }, { name := "LOG2_ARRAY_CHAR_INDEX_SCALE", type := .int, accessFlags := 25, slot := 4, constantValue := 0 }, { name := "LOG2_ARRAY_SHORT_INDEX_SCALE", type := .int, accessFlags := 25, slot := 5, constantValue := 0 }, { name := "LOG2_ARRAY_INT_INDEX_SCALE", type := .int, accessFlags := 25, slot := 6, constantValue := 0 }, { name := "LOG2_ARRAY_LONG_INDEX_SCALE", type := .int, accessFlags := 25, slot := 7, constantValue := 0 }, { name := "LOG2_ARRAY_FLOAT_INDEX_SCALE", type := .int, accessFlags := 25, slot := 8, constantValue := 0 }, { name := "LOG2_ARRAY_DOUBLE_INDEX_SCALE", type := .int, accessFlags := 25, slot := 9, constantValue := 0 }, { name := "LOG2_BYTE_BIT_SIZE", type := .int, accessFlags := 26, slot := 10, constantValue := 0 }, { name := "T_BOOLEAN", type := .int, accessFlags := 25, slot := 11, constantValue := 0 }, { name := "T_CHAR", type := .int, accessFlags := 25, slot := 12, constantValue := 0 }, { name := "T_FLOAT", type := .int, accessFlags := 25, slot := 13, constantValue := 0 }, { name := "T_DOUBLE", type := .int, accessFlags := 25, slot := 14, constantValue := 0 }, { name := "T_BYTE", type := .int, accessFlags := 25, slot := 15, constantValue := 0 }, { name := "T_SHORT", type := .int, accessFlags := 25, slot := 16, constantValue := 0 }, { name := "T_INT", type := .int, accessFlags := 25, slot := 17, constantValue := 0 }, { name := "T_LONG", type := .int, accessFlags := 25, slot := 18, constantValue := 0 }, { name := "JLA", type := (.object "jdk/internal/access/JavaLangAccess"), accessFlags := 26, slot := 19, constantValue := 0 }, { name := "SOFT_MAX_ARRAY_LENGTH", type := .int, accessFlags := 25, slot := 20, constantValue := 0 }]
  methods := #[k14m0]
  instanceTypes := #[]
  staticTypes := #[(.object "jdk/internal/misc/Unsafe"), .boolean, .int, .int, .int, .int, .int, .int, .int, .int, .int, .int, .int, .int, .int, .int, .int, .int, .int, (.object "jdk/internal/access/JavaLangAccess"), .int]
  resolved := Array.replicate 378 none
  statics := none }

/-- the primitive byte -/
def k15 : Class := { plain "byte" none with kind := .primitive 'B', accessFlags := 0x411 }
/-- [B -/
def k16 : Class := { plain "[B" (some 0) with kind := .array 15 .byte, interfaces := #[11, 4], accessFlags := 1041 }

/-- the primitive char -/
def k17 : Class := { plain "char" none with kind := .primitive 'C', accessFlags := 0x411 }
/-- [C -/
def k18 : Class := { plain "[C" (some 0) with kind := .array 17 .char, interfaces := #[11, 4], accessFlags := 1041 }

/-- the primitive int -/
def k19 : Class := { plain "int" none with kind := .primitive 'I', accessFlags := 0x411 }
/-- [I -/
def k20 : Class := { plain "[I" (some 0) with kind := .array 19 .int, interfaces := #[11, 4], accessFlags := 1041 }

/-- [Lcom/example/dagsverke/dagsverke/job/WorkerState; -/
def k21 : Class := { plain "[Lcom/example/dagsverke/dagsverke/job/WorkerState;" (some 0) with kind := .array 6 (.object "com/example/dagsverke/dagsverke/job/WorkerState"), interfaces := #[11, 4], accessFlags := 1041 }

def heap : Heap := #[{ cls := 6, slots := #[.ref 4, .ref 5, .ref 6, .ref 7, .ref 3], vm := .statics 6 },
  { cls := 9, slots := #[.long 0, .int 1, .null, .int 0, .null, .int 0, .int 0], vm := .statics 9 },
  { cls := 13, slots := #[.null, .null, .null], vm := .statics 13 },
  { cls := 21, slots := #[.ref 4, .ref 5, .ref 6, .ref 7], vm := .none },
  { cls := 6, slots := #[.null, .int 0, .int 0, .ref 8], vm := .none },
  { cls := 6, slots := #[.null, .int 1, .int 0, .ref 9], vm := .none },
  { cls := 6, slots := #[.null, .int 2, .int 0, .ref 10], vm := .none },
  { cls := 6, slots := #[.null, .int 3, .int 0, .ref 11], vm := .none },
  { cls := 9, slots := #[.ref 12, .int 0, .int 0, .int 0], vm := .none },
  { cls := 9, slots := #[.ref 13, .int 0, .int 0, .int 0], vm := .none },
  { cls := 9, slots := #[.ref 14, .int 0, .int 0, .int 0], vm := .none },
  { cls := 9, slots := #[.ref 15, .int 0, .int 0, .int 0], vm := .none },
  { cls := 16, slots := #[.int 114, .int 117, .int 110, .int 110, .int 105, .int 110, .int 103], vm := .none },
  { cls := 16, slots := #[.int 113, .int 117, .int 105, .int 101, .int 116], vm := .none },
  { cls := 16, slots := #[.int 116, .int 101, .int 114, .int 109, .int 105, .int 110, .int 97, .int 116, .int 101], vm := .none },
  { cls := 16, slots := #[.int 116, .int 101, .int 114, .int 109, .int 105, .int 110, .int 97, .int 116, .int 101, .int 100], vm := .none }]
def classes : Array Class := #[k0, k1, k2, k3, k4, k5, k6, k7, k8, k9, k10, k11, k12, k13, k14, k15, k16, k17, k18, k19, k20, k21]
def interned : List (Array UInt16 × Addr) := []
def slotsUsed : Nat := 82
def theMethod : MethodId := ⟨1, 1⟩
def args0 : Array Value := #[.int 5]
def aboutOver (below : List Frame) : State where
  vm := { classes := classes, interned := interned.toArray }
  heap := heap
  slotsUsed := slotsUsed
  threads := #[{ frames := .invoking theMethod args0 :: below }]
def below0 : List Frame := [.native { method := ⟨0, 0⟩, args := #[] }]
def about1 : State := aboutOver below0
def p0 : Program := .bare "" "" ""
def e0 : Env := launch0.env 0 0 0
theorem w_frames : about1.frames = Frame.invoking theMethod args0 :: below0 := rfl
set_option maxRecDepth 65536 in
theorem w_args : argsFit about1.vm theMethod args0 = true := by decide +kernel
set_option maxRecDepth 65536 in
theorem w_heap : heapFits about1 = true := by decide +kernel
set_option maxRecDepth 65536 in
theorem w_runnable : about1.curStatus? = some .runnable := by decide +kernel
set_option maxRecDepth 65536 in
theorem w_alone : about1.alone = true := by decide +kernel
set_option maxRecDepth 65536 in
theorem w_named : about1.methodNamed? x = some theMethod := by decide +kernel
set_option maxRecDepth 65536 in
theorem w_hears : about1.hears theMethod below0 = true := by decide +kernel
set_option maxRecDepth 65536 in
theorem w_ripe : about1.ripe theMethod args0 below0 = true := by decide +kernel
theorem w_running : about1.status = .running := rfl
set_option maxRecDepth 65536 in
theorem w_room : about1.hasRoom e0.platform room_1 = true :=
  launch0.hasRoom_least _ room_1 (by decide +kernel) (by decide +kernel) (by decide +kernel) (by decide +kernel) (by decide +kernel) (by decide +kernel)
theorem allAtoms_all (ts : List Jvm.Cond) (a : Array Jvm.Value) (st : Jvm.State) : (allAtoms ts).before a st = ts.all (fun c => c.before a st) := by
  induction ts with
  | nil => rfl
  | cons c t ih =>
    show (Jvm.Cond.and c (allAtoms t)).before a st = _
    rw [Jvm.Cond.before_and, ih, List.all_cons]
def words1 : List Jvm.Cond := Jvm.Cond.code x code maxLocals ret :: tables_1
/-- a 'code' word, met by the world's own term for the bytes: nothing is compared byte by byte -/
theorem code_word {y : MethodName} {bytes : ByteArray} {mx : Nat} {rt : Option FieldType} {a : Array Value} {s : State} {m : MethodId} {meth : Method} {c : Code} (h1 : s.methodNamed? y = some m) (h2 : s.vm.method? m = some meth) (h3 : meth.code = some c) (h4 : c.code = bytes)
    (h5 : (c.maxLocals == mx && c.exceptionTable.isEmpty && decide (c.maxStack ≤ mostOperands) && decide (meth.sig.returnType = rt) && !meth.locks && decide (parseMethodDescriptor y.desc = some meth.sig)) = true) : (Jvm.Cond.code y bytes mx rt).before a s = true := by
  simp only [Bool.and_eq_true, beq_iff_eq, Bool.not_eq_true', decide_eq_true_eq] at h5
  obtain ⟨⟨⟨⟨⟨g1, g2⟩, g3⟩, g4⟩, g5⟩, g6⟩ := h5
  simp [Cond.before, Cond.holds, Cond.value, h1, h2, h3, h4, g1, g2, g3, g4, g5, g6]
def isCode : Jvm.Cond → Bool
  | .code _ _ _ _ => true
  | _ => false
theorem all_split {L : List Jvm.Cond} {P : Jvm.Cond → Bool} (h1 : L.all (fun c => isCode c || P c) = true) (h2 : ∀ c ∈ L.filter isCode, P c = true) : L.all P = true := by
  refine List.all_eq_true.mpr fun c hc => ?_
  have h := List.all_eq_true.mp h1 c hc
  rcases Bool.eq_false_or_eq_true (isCode c) with hi | hi
  · exact h2 c (List.mem_filter.mpr ⟨hc, hi⟩)
  · simpa [hi] using h
set_option maxRecDepth 65536 in
theorem w_c0 : (Jvm.Cond.code x code maxLocals ret).before args0 about1 = true := code_word (m := ⟨1, 1⟩) (meth := k1m1) (c := k1c1) (by decide +kernel) rfl rfl rfl (by decide +kernel)
set_option maxRecDepth 65536 in
theorem w_c1 : (Jvm.Cond.code ({ cls := "java/lang/String", name := "<init>", desc := "([C)V" } : Jvm.MethodName) jdk_42_method_3_code (2 : Nat) (Option.none : Option Jvm.ClassFile.FieldType)).before args0 about1 = true := code_word (m := ⟨9, 1⟩) (meth := k9m1) (c := k9c1) (by decide +kernel) rfl rfl rfl (by decide +kernel)
set_option maxRecDepth 65536 in
theorem w_c2 : (Jvm.Cond.code ({ cls := "java/lang/String", name := "<init>", desc := "([CIILjava/lang/Void;)V" } : Jvm.MethodName) jdk_42_method_149_code (6 : Nat) (Option.none : Option Jvm.ClassFile.FieldType)).before args0 about1 = true := code_word (m := ⟨9, 3⟩) (meth := k9m3) (c := k9c3) (by decide +kernel) rfl rfl rfl (by decide +kernel)
set_option maxRecDepth 65536 in
theorem w_c3 : (Jvm.Cond.code ({ cls := "java/lang/Object", name := "<init>", desc := "()V" } : Jvm.MethodName) object_method_1_code (1 : Nat) (Option.none : Option Jvm.ClassFile.FieldType)).before args0 about1 = true := code_word (m := ⟨0, 0⟩) (meth := k0m0) (c := k0c0) (by decide +kernel) rfl rfl rfl (by decide +kernel)
set_option maxRecDepth 65536 in
theorem w_c4 : (Jvm.Cond.code ({ cls := "java/lang/StringUTF16", name := "compress", desc := "([CII)[B" } : Jvm.MethodName) jdk_52_method_16_code (6 : Nat) (Option.some (Jvm.ClassFile.FieldType.array Jvm.ClassFile.FieldType.byte))).before args0 about1 = true := code_word (m := ⟨10, 2⟩) (meth := k10m2) (c := k10c2) (by decide +kernel) rfl rfl rfl (by decide +kernel)
set_option maxRecDepth 65536 in
theorem w_c5 : (Jvm.Cond.code ({ cls := "java/lang/StringUTF16", name := "compress", desc := "([CI[BII)I" } : Jvm.MethodName) jdk_52_method_21_code (7 : Nat) (Option.some Jvm.ClassFile.FieldType.int)).before args0 about1 = true := code_word (m := ⟨10, 3⟩) (meth := k10m3) (c := k10c3) (by decide +kernel) rfl rfl rfl (by decide +kernel)
set_option maxRecDepth 65536 in
theorem w_c6 : (Jvm.Cond.code ({ cls := "java/lang/StringUTF16", name := "coderFromArrayLen", desc := "([BI)B" } : Jvm.MethodName) jdk_52_method_15_code (2 : Nat) (Option.some Jvm.ClassFile.FieldType.byte)).before args0 about1 = true := code_word (m := ⟨10, 1⟩) (meth := k10m1) (c := k10c1) (by decide +kernel) rfl rfl rfl (by decide +kernel)
set_option maxRecDepth 65536 in
theorem w_c7 : (Jvm.Cond.code ({ cls := "com/example/dagsverke/dagsverke/job/WorkerState", name := "fromWireName", desc := "(Ljava/lang/String;)Lcom/example/dagsverke/dagsverke/job/WorkerState;" } : Jvm.MethodName) prog_13_method_5_code (5 : Nat) (Option.some (Jvm.ClassFile.FieldType.object "com/example/dagsverke/dagsverke/job/WorkerState"))).before args0 about1 = true := code_word (m := ⟨6, 2⟩) (meth := k6m2) (c := k6c2) (by decide +kernel) rfl rfl rfl (by decide +kernel)
set_option maxRecDepth 65536 in
theorem w_c8 : (Jvm.Cond.code ({ cls := "com/example/dagsverke/dagsverke/job/WorkerState", name := "values", desc := "()[Lcom/example/dagsverke/dagsverke/job/WorkerState;" } : Jvm.MethodName) prog_13_method_1_code (0 : Nat) (Option.some (Jvm.ClassFile.FieldType.array (Jvm.ClassFile.FieldType.object "com/example/dagsverke/dagsverke/job/WorkerState")))).before args0 about1 = true := code_word (m := ⟨6, 0⟩) (meth := k6m0) (c := k6c0) (by decide +kernel) rfl rfl rfl (by decide +kernel)
set_option maxRecDepth 65536 in
theorem w_c9 : (Jvm.Cond.code ({ cls := "java/lang/String", name := "equals", desc := "(Ljava/lang/Object;)Z" } : Jvm.MethodName) jdk_42_method_66_code (3 : Nat) (Option.some Jvm.ClassFile.FieldType.boolean)).before args0 about1 = true := code_word (m := ⟨9, 2⟩) (meth := k9m2) (c := k9c2) (by decide +kernel) rfl rfl rfl (by decide +kernel)
set_option maxRecDepth 65536 in
theorem w_c10 : (Jvm.Cond.code ({ cls := "java/lang/StringLatin1", name := "equals", desc := "([B[B)Z" } : Jvm.MethodName) jdk_43_method_13_code (3 : Nat) (Option.some Jvm.ClassFile.FieldType.boolean)).before args0 about1 = true := code_word (m := ⟨12, 1⟩) (meth := k12m1) (c := k12c1) (by decide +kernel) rfl rfl rfl (by decide +kernel)
set_option maxRecDepth 65536 in
theorem w_c11 : (Jvm.Cond.code ({ cls := "com/example/dagsverke/dagsverke/job/WorkerState", name := "wireName", desc := "()Ljava/lang/String;" } : Jvm.MethodName) prog_13_method_4_code (1 : Nat) (Option.some (Jvm.ClassFile.FieldType.object "java/lang/String"))).before args0 about1 = true := code_word (m := ⟨6, 1⟩) (meth := k6m1) (c := k6c1) (by decide +kernel) rfl rfl rfl (by decide +kernel)
def codes1 : List Jvm.Cond := [Jvm.Cond.code x code maxLocals ret, Jvm.Cond.code ({ cls := "java/lang/String", name := "<init>", desc := "([C)V" } : Jvm.MethodName) jdk_42_method_3_code (2 : Nat) (Option.none : Option Jvm.ClassFile.FieldType), Jvm.Cond.code ({ cls := "java/lang/String", name := "<init>", desc := "([CIILjava/lang/Void;)V" } : Jvm.MethodName) jdk_42_method_149_code (6 : Nat) (Option.none : Option Jvm.ClassFile.FieldType), Jvm.Cond.code ({ cls := "java/lang/Object", name := "<init>", desc := "()V" } : Jvm.MethodName) object_method_1_code (1 : Nat) (Option.none : Option Jvm.ClassFile.FieldType), Jvm.Cond.code ({ cls := "java/lang/StringUTF16", name := "compress", desc := "([CII)[B" } : Jvm.MethodName) jdk_52_method_16_code (6 : Nat) (Option.some (Jvm.ClassFile.FieldType.array Jvm.ClassFile.FieldType.byte)), Jvm.Cond.code ({ cls := "java/lang/StringUTF16", name := "compress", desc := "([CI[BII)I" } : Jvm.MethodName) jdk_52_method_21_code (7 : Nat) (Option.some Jvm.ClassFile.FieldType.int), Jvm.Cond.code ({ cls := "java/lang/StringUTF16", name := "coderFromArrayLen", desc := "([BI)B" } : Jvm.MethodName) jdk_52_method_15_code (2 : Nat) (Option.some Jvm.ClassFile.FieldType.byte), Jvm.Cond.code ({ cls := "com/example/dagsverke/dagsverke/job/WorkerState", name := "fromWireName", desc := "(Ljava/lang/String;)Lcom/example/dagsverke/dagsverke/job/WorkerState;" } : Jvm.MethodName) prog_13_method_5_code (5 : Nat) (Option.some (Jvm.ClassFile.FieldType.object "com/example/dagsverke/dagsverke/job/WorkerState")), Jvm.Cond.code ({ cls := "com/example/dagsverke/dagsverke/job/WorkerState", name := "values", desc := "()[Lcom/example/dagsverke/dagsverke/job/WorkerState;" } : Jvm.MethodName) prog_13_method_1_code (0 : Nat) (Option.some (Jvm.ClassFile.FieldType.array (Jvm.ClassFile.FieldType.object "com/example/dagsverke/dagsverke/job/WorkerState"))), Jvm.Cond.code ({ cls := "java/lang/String", name := "equals", desc := "(Ljava/lang/Object;)Z" } : Jvm.MethodName) jdk_42_method_66_code (3 : Nat) (Option.some Jvm.ClassFile.FieldType.boolean), Jvm.Cond.code ({ cls := "java/lang/StringLatin1", name := "equals", desc := "([B[B)Z" } : Jvm.MethodName) jdk_43_method_13_code (3 : Nat) (Option.some Jvm.ClassFile.FieldType.boolean), Jvm.Cond.code ({ cls := "com/example/dagsverke/dagsverke/job/WorkerState", name := "wireName", desc := "()Ljava/lang/String;" } : Jvm.MethodName) prog_13_method_4_code (1 : Nat) (Option.some (Jvm.ClassFile.FieldType.object "java/lang/String"))]
set_option maxRecDepth 65536 in
theorem codes_eq : words1.filter isCode = codes1 := rfl
theorem w_codes : ∀ c ∈ words1.filter isCode, c.before args0 about1 = true := by
  rw [codes_eq]
  intro c hc
  simp only [codes1, List.mem_cons, List.not_mem_nil, or_false] at hc
  rcases hc with rfl | rfl | rfl | rfl | rfl | rfl | rfl | rfl | rfl | rfl | rfl | rfl
  · exact w_c0
  · exact w_c1
  · exact w_c2
  · exact w_c3
  · exact w_c4
  · exact w_c5
  · exact w_c6
  · exact w_c7
  · exact w_c8
  · exact w_c9
  · exact w_c10
  · exact w_c11
set_option maxRecDepth 65536 in
theorem w_t1 : (words1.take 24).all (fun c => isCode c || c.before args0 about1) = true := by decide +kernel
set_option maxRecDepth 65536 in
theorem w_t2 : ((words1.drop 24).take 24).all (fun c => isCode c || c.before args0 about1) = true := by decide +kernel
set_option maxRecDepth 65536 in
theorem w_t3 : (((words1.drop 24).drop 24).take 24).all (fun c => isCode c || c.before args0 about1) = true := by decide +kernel
set_option maxRecDepth 65536 in
theorem w_t4 : (((words1.drop 24).drop 24).drop 24).all (fun c => isCode c || c.before args0 about1) = true := by decide +kernel
theorem w_tables : (allAtoms (Jvm.Cond.code x code maxLocals ret :: tables_1)).before args0 about1 = true := by
  rw [allAtoms_all]
  show words1.all (fun c => c.before args0 about1) = true
  refine all_split ?_ w_codes
  rw [← List.take_append_drop 24 words1, List.all_append, w_t1, ← List.take_append_drop 24 (words1.drop 24), List.all_append, w_t2, ← List.take_append_drop 24 ((words1.drop 24).drop 24), List.all_append, w_t3, w_t4]
  rfl
set_option maxRecDepth 65536 in
theorem w_rest : rest_1_c.before args0 about1 = true := by decide +kernel
set_option maxRecDepth 65536 in
theorem w_case : (Jvm.Cond.and given_1 narrow_1).before args0 about1 = true := by decide +kernel
theorem w_applies : (headSpec (Jvm.Cond.code x code maxLocals ret :: tables_1) room_1).applies x e0.platform about1 = true :=
  (Spec.applies_iff w_frames).mpr ⟨w_running, w_runnable, w_alone, w_named, w_hears, w_ripe, w_room, w_tables⟩
theorem atStart : AtStart classFile x code maxLocals ret World_1 tables_1 room_1 Calls_1 rest_1 Pre_1 launch0 p0 e0 about1 theMethod args0 below0 :=
  ⟨lists_1, trivial, launch0.admits_env _ _ _, launch0.least_env, fairChoices_fair.cas, fairChoices_fair.clock, w_frames, w_args, w_heap, w_applies, trivial, w_rest, w_case⟩
end start1
theorem witness_1 : WitnessClaimed_1 := ⟨start1.p0, start1.e0, start1.about1, start1.theMethod, start1.args0, start1.below0, start1.atStart⟩
end Jvm.Pilot.@@N@@
