import JvmDerived
import JvmDerived.Pilot.@@N@@Statement
import JvmDerived.Pilot.@@N@@Code
set_option linter.unusedVariables false
set_option linter.unusedSimpArgs false
namespace Jvm.RoadKit
open Sem ClassFile Op Lib Jvm.Stand Jvm.Free Jvm.LawKit
section New
variable {p : Program} {l : Launch} {e : Env} {R : Room} {s : State} {m : MethodId} {args : Array Value} {below : List Frame} {meth : Method} {c : Code} {T : State} {locs : List Loc} {cells slots : Nat}
theorem retI (X : Stand p l e R s m args below meth c T locs cells slots) (hx : p.tables.exec = Jvm.exec) {pc : Nat} {Ls : Array Slot} {z : Int32} {rest : List Value} (hret : meth.sig.returnType = some .int) (hd : decode c.code pc = .ok (.ireturn, 1)) {fs : List Frame}
    (hl : ∀ (f : JFrame) (acts : List Action), f.method = m → f.locked = none → f.entered = [] → (doReturn e (T.setTop f) acts (some (.int z))).1 = T.setFrames fs) : Steps p.tables e below (T.setTop (mkF m pc Ls (.int z :: rest))) (T.setFrames fs) := by
  have hm' : T.vm.method? m = some meth := X.method'
  have hn : narrow .int (.int z) = .int z := rfl
  show Steps p.tables e below (T.setTop { method := m, pc := pc, locals := Ls, stack := _ :: rest, locked := none }) _
  jvm_step X.here [X.here.top, hx, hd, hm', hret, hn]
  first | (intro acts; rw [hl _ acts rfl rfl rfl]) | rw [hl _ _ rfl rfl rfl]
  exact Steps.refl _
end New
end Jvm.RoadKit
/- laws to paste: Road.backV (cut by pick.py; bodies as the Statement names them) -/
namespace Jvm.Pilot.@@N@@
namespace StrChars
open Jvm Sem ClassFile Op Lib Jvm.Stand Jvm.Free.XT Jvm.Free.ALB Jvm.Free.JM Jvm.Free
open Jvm.Lib.Cold (StaticIs)
/-- a char array whose places are chars -/
def Ch (a : Addr) (A : Cell) (U : State) : Prop := Arr .char a A U ∧ Typed .char A
theorem Ch.mv {a : Addr} {A : Cell} {U U' : State} (h : Ch a A U) (hal : U.vm.Alike U'.vm) (hh : U'.heap = U.heap) : Ch a A U' := ⟨h.1.mv hal hh, h.2⟩
theorem Ch.keep {a : Addr} {A : Cell} {U U' : State} (h : Ch a A U) (hal : U.vm.Alike U'.vm) (hk : U'.heap[a]? = some A) : Ch a A U' := ⟨h.1.keep hal hk, h.2⟩
/-- what place i of a char[]'s cell holds -/
def cv (A : Cell) (i : Nat) : Int32 := match A.slots[i]? with | some (.int x) => x | _ => 0
theorem Ch.get {a : Addr} {A : Cell} {U : State} (h : Ch a A U) {i : Nat} (hi : i < A.slots.size) : A.slots[i]? = some (.int (cv A i)) := by
  have e := Array.getElem?_eq_getElem hi
  have f := h.2 i _ e
  unfold cv; rw [e]
  generalize A.slots[i] = v at f
  cases v <;> simp [fits] at f ⊢
/-- the byte that i2b leaves of a char -/
def lo8 (x : Int32) : Int32 := x.toInt8.toInt32
theorem fits_lo8 (y : Int32) : fits .byte (.int (lo8 y)) = true := by
  have h1 := y.toInt8.le_toInt
  have h2 := y.toInt8.toInt_lt
  simp only [lo8, fits, Bool.and_eq_true, decide_eq_true_eq, Int32.le_iff_toInt_le, Int8.toInt_toInt32, show (-128 : Int32).toInt = -128 from by decide, show (127 : Int32).toInt = 127 from by decide]
  omega
/-- A' is A but that each place j of lo .. hi - 1 holds f j -/
def Laid (A A' : Cell) (lo hi : Nat) (f : Nat → Value) : Prop := A'.cls = A.cls ∧ A'.vm = A.vm ∧ A'.slots.size = A.slots.size ∧ ∀ i, A'.slots[i]? = if lo ≤ i ∧ i < hi then some (f i) else A.slots[i]?
theorem Laid.zero (A : Cell) (lo : Nat) (f : Nat → Value) : Laid A A lo (lo + 0) f := ⟨rfl, rfl, rfl, fun i => by rw [if_neg (by omega)]⟩
theorem Laid.step {A Ak : Cell} {lo k : Nat} {f : Nat → Value} {v : Value} (h : Laid A Ak lo k f) (hlo : lo ≤ k) (hk : k < Ak.slots.size) (hv : v = f k) : Laid A (Ak.setSlot k v) lo (k + 1) f := by
  refine ⟨h.1, h.2.1, by simpa [Cell.setSlot] using h.2.2.1, fun i => ?_⟩
  by_cases e : k = i
  · subst e; rw [Cell.slots_setSlot_self v hk, if_pos (by omega), hv]
  · rw [Cell.slots_setSlot_ne v e, h.2.2.2 i]
    by_cases q : lo ≤ i ∧ i < k
    · rw [if_pos q, if_pos (by omega)]
    · rw [if_neg q, if_neg (by omega)]
def U16 : String := "java/lang/StringUTF16"
namespace Cmp5
def yN : MethodName := ⟨"java/lang/StringUTF16", "compress", "([CI[BII)I"⟩
abbrev yB : ByteArray := jdk_52_method_21_code
theorem d0 : decode yB 0 = .ok (.iconst 0, 1) := by decide +kernel
theorem d1 : decode yB 1 = .ok (.istore 5, 2) := by decide +kernel
theorem d3 : decode yB 3 = .ok (.iload 5, 2) := by decide +kernel
theorem d5 : decode yB 5 = .ok (.iload 4, 2) := by decide +kernel
theorem d7 : decode yB 7 = .ok (.if_icmp (.ge) 37, 3) := by decide +kernel
theorem d10 : decode yB 10 = .ok (.aload_n 0, 1) := by decide +kernel
theorem d11 : decode yB 11 = .ok (.iload_n 1, 1) := by decide +kernel
theorem d12 : decode yB 12 = .ok (.caload, 1) := by decide +kernel
theorem d13 : decode yB 13 = .ok (.istore 6, 2) := by decide +kernel
theorem d15 : decode yB 15 = .ok (.iload 6, 2) := by decide +kernel
theorem d17 : decode yB 17 = .ok (.sipush 255, 3) := by decide +kernel
theorem d20 : decode yB 20 = .ok (.if_icmp (.le) 6, 3) := by decide +kernel
theorem d26 : decode yB 26 = .ok (.aload_n 2, 1) := by decide +kernel
theorem d27 : decode yB 27 = .ok (.iload_n 3, 1) := by decide +kernel
theorem d28 : decode yB 28 = .ok (.iload 6, 2) := by decide +kernel
theorem d30 : decode yB 30 = .ok (.i2b, 1) := by decide +kernel
theorem d31 : decode yB 31 = .ok (.bastore, 1) := by decide +kernel
theorem d32 : decode yB 32 = .ok (.iinc 1 1, 3) := by decide +kernel
theorem d35 : decode yB 35 = .ok (.iinc 3 1, 3) := by decide +kernel
theorem d38 : decode yB 38 = .ok (.iinc 5 1, 3) := by decide +kernel
theorem d41 : decode yB 41 = .ok (.goto (-38), 3) := by decide +kernel
theorem d44 : decode yB 44 = .ok (.iload 4, 2) := by decide +kernel
theorem d46 : decode yB 46 = .ok (.ireturn, 1) := by decide +kernel
def site : List Cond := []
def tab : Cond := tabOf yN yB 7 (some .int) site
def P (b : Addr) (A : Cell) (d : Addr) (B : Cell) (o q len : Nat) (args : Array Value) (s : State) : Prop := args = #[.ref b, .int (Int32.ofNat o), .ref d, .int (Int32.ofNat q), .int (Int32.ofNat len)] ∧ Ch b A s ∧ Arr .byte d B s ∧ b ≠ d ∧ o + len ≤ A.slots.size ∧ q + len ≤ B.slots.size ∧ ∀ i, i < len → ¬ 255 < cv A (o + i)
def E (b : Addr) (A : Cell) (d : Addr) (B : Cell) (o q len : Nat) (r : Option Value) (s u : State) : Prop := r = some (.int (Int32.ofNat len)) ∧ ∃ B', Put d B' s u ∧ Laid B B' q (q + len) (fun j => Value.int (lo8 (cv A (o + (j - q)))))
/-- no char of the range above 255: len; the places written hold each char's low byte -/
theorem law (l : Launch) (b : Addr) (A : Cell) (d : Addr) (B : Cell) (o q len : Nat) : Law l yN 5 5 0 0 yB 7 (some .int) site (P b A d B o q len) (E b A d B o q len) (copyLocs d q len) 0 0 := by
  refine Law.of_walk (plainFor_of_name (by decide +kernel)) (by decide +kernel) (by decide +kernel) (by decide) (fun _ _ h => by rw [h.1]; rfl) (fun _ U U' hal hh h => ⟨h.1, h.2.1.mv hal hh, h.2.2.1.mv hal hh, h.2.2.2⟩) (fun r U U' V V' h1 hal h2 h => ⟨h.1, h.2.elim fun B' q => ⟨B', q.1.mv h1 h2, q.2⟩⟩) ?_
  intro p e s m args below meth c s₁ X0 hexec hbytes hml hret hlk hnm hown hh0 W hP
  obtain ⟨rfl, hA, hB, hne, l1, l2, hp⟩ := hP
  have c1 : Steps p.tables e below (s₁.setTop (entryFrame m #[.ref b, .int (Int32.ofNat o), .ref d, .int (Int32.ofNat q), .int (Int32.ofNat len)] 7)) (s₁.setTop (mkF m 0 #[.val (.ref b), .val (.int (Int32.ofNat o)), .val (.ref d), .val (.int (Int32.ofNat q)), .val (.int (Int32.ofNat len)), .unset, .unset] [])) := entry rfl
  have hA0 := hA.1.mv X0.warmed.alike hh0
  have hB0 := hB.mv X0.warmed.alike hh0
  have a31 := hA.1.2.2.2
  have c2 : Steps p.tables e below (s₁.setTop (entryFrame m #[.ref b, .int (Int32.ofNat o), .ref d, .int (Int32.ofNat q), .int (Int32.ofNat len)] 7)) (s₁.setTop (mkF m 3 #[.val (.ref b), .val (.int (Int32.ofNat o)), .val (.ref d), .val (.int (Int32.ofNat q)), .val (.int (Int32.ofNat len)), .val (.int 0), .unset] [])) := c1.trans (by
    refine iconstV X0.here hexec rfl 0 (hb hbytes d0) (by decide) ?_
    refine XS.istore X0.here hexec rfl (hb hbytes d1) rfl rfl ?_
    exact Steps.refl _)
  have loop : ∀ (r i : Nat), i + r = len → ∀ (z : Slot), (z = .unset ∨ ∃ w, z = .val w ∧ w.category = 1) → ∀ (Tl : State) (Bk : Cell), Stand p l e { frames := 0, locals := 0, cells := 0, slots := 0 } s m #[.ref b, .int (Int32.ofNat o), .ref d, .int (Int32.ofNat q), .int (Int32.ofNat len)] below meth c Tl ([] ++ copyLocs d q i) 0 0 → Put d Bk s₁ Tl → Laid B Bk q (q + i) (fun j => Value.int (lo8 (cv A (o + (j - q))))) →
      Steps p.tables e below (s₁.setTop (entryFrame m #[.ref b, .int (Int32.ofNat o), .ref d, .int (Int32.ofNat q), .int (Int32.ofNat len)] 7)) (Tl.setTop (mkF m 3 #[.val (.ref b), .val (.int (Int32.ofNat (o + i))), .val (.ref d), .val (.int (Int32.ofNat (q + i))), .val (.int (Int32.ofNat len)), .val (.int (Int32.ofNat i)), z] [])) → ∃ (T' : State) (B' : Cell) (z' : Slot), Stand p l e { frames := 0, locals := 0, cells := 0, slots := 0 } s m #[.ref b, .int (Int32.ofNat o), .ref d, .int (Int32.ofNat q), .int (Int32.ofNat len)] below meth c T' ([] ++ copyLocs d q len) 0 0 ∧ Put d B' s₁ T' ∧ Laid B B' q (q + len) (fun j => Value.int (lo8 (cv A (o + (j - q))))) ∧
      Steps p.tables e below (s₁.setTop (entryFrame m #[.ref b, .int (Int32.ofNat o), .ref d, .int (Int32.ofNat q), .int (Int32.ofNat len)] 7)) (T'.setTop (mkF m 3 #[.val (.ref b), .val (.int (Int32.ofNat (o + len))), .val (.ref d), .val (.int (Int32.ofNat (q + len))), .val (.int (Int32.ofNat len)), .val (.int (Int32.ofNat len)), z'] [])) := by
    intro r
    induction r with
    | zero =>
      intro i hi z hz Tl Bk Xl pl fl cl
      have hil : i = len := by omega
      rw [hil] at Xl fl cl
      exact ⟨Tl, Bk, z, Xl, pl, fl, cl⟩
    | succ r ih =>
      intro i hi z hz Tl Bk Xl pl fl cl
      have all := X0.warmed.alike.symm.trans Xl.warmed.alike
      have hAl := hA0.keep all (pl.other hne hA0.1)
      have hBk := hB0.like all pl.1 fl.1 fl.2.1 fl.2.2.1
      have hlt : q + i < Bk.slots.size := by rw [fl.2.2.1]; omega
      have c3 : Steps p.tables e below (s₁.setTop (entryFrame m #[.ref b, .int (Int32.ofNat o), .ref d, .int (Int32.ofNat q), .int (Int32.ofNat len)] 7)) (Tl.setTop (mkF m 12 #[.val (.ref b), .val (.int (Int32.ofNat (o + i))), .val (.ref d), .val (.int (Int32.ofNat (q + i))), .val (.int (Int32.ofNat len)), .val (.int (Int32.ofNat i)), z] [.int (Int32.ofNat (o + i)), .ref b])) := cl.trans (by
        refine XS.iload Xl.here hexec rfl (hb hbytes d3) rfl ?_
        refine XS.iload Xl.here hexec rfl (hb hbytes d5) rfl ?_
        refine XS.icmpNo Xl.here hexec rfl (hb hbytes d7) rfl (ii_ge_f (lt32 (by omega) (by omega))) ?_
        refine XS.aloadN Xl.here hexec rfl (hb hbytes d10) rfl rfl ?_
        refine XS.iloadN Xl.here hexec rfl (hb hbytes d11) rfl ?_
        exact Steps.refl _)
      have c4 : Steps p.tables e below (s₁.setTop (entryFrame m #[.ref b, .int (Int32.ofNat o), .ref d, .int (Int32.ofNat q), .int (Int32.ofNat len)] 7)) (Tl.setTop (mkF m 13 #[.val (.ref b), .val (.int (Int32.ofNat (o + i))), .val (.ref d), .val (.int (Int32.ofNat (q + i))), .val (.int (Int32.ofNat len)), .val (.int (Int32.ofNat i)), z] [.int (cv A (o + i))])) := c3.trans (by
        refine Xl.aget hexec hAl rfl (hA.get (i := o + i) (by omega)) rfl rfl (hb hbytes d12) ?_
        exact Steps.refl _)
      have c5 : Steps p.tables e below (s₁.setTop (entryFrame m #[.ref b, .int (Int32.ofNat o), .ref d, .int (Int32.ofNat q), .int (Int32.ofNat len)] 7)) (Tl.setTop (mkF m 15 #[.val (.ref b), .val (.int (Int32.ofNat (o + i))), .val (.ref d), .val (.int (Int32.ofNat (q + i))), .val (.int (Int32.ofNat len)), .val (.int (Int32.ofNat i)), .val (.int (cv A (o + i)))] [])) := c4.trans (by
        refine XS.istoreS Xl.here hexec rfl (hb hbytes d13) rfl rfl hz ?_
        exact Steps.refl _)
      have c6 : Steps p.tables e below (s₁.setTop (entryFrame m #[.ref b, .int (Int32.ofNat o), .ref d, .int (Int32.ofNat q), .int (Int32.ofNat len)] 7)) (Tl.setTop (mkF m 31 #[.val (.ref b), .val (.int (Int32.ofNat (o + i))), .val (.ref d), .val (.int (Int32.ofNat (q + i))), .val (.int (Int32.ofNat len)), .val (.int (Int32.ofNat i)), .val (.int (cv A (o + i)))] [.int (lo8 (cv A (o + i))), .int (Int32.ofNat (q + i)), .ref d])) := c5.trans (by
        refine XS.iload Xl.here hexec rfl (hb hbytes d15) rfl ?_
        refine sipushV Xl.here hexec rfl 255 (hb hbytes d17) (by decide) ?_
        refine XS.icmpYes Xl.here hexec rfl (pc0 := 20) rfl (hb hbytes d20) rfl (ii_le_t (hp i (by omega))) (by decide) rfl ?_
        refine XS.aloadN Xl.here hexec rfl (hb hbytes d26) rfl rfl ?_
        refine XS.iloadN Xl.here hexec rfl (hb hbytes d27) rfl ?_
        refine XS.iload Xl.here hexec rfl (hb hbytes d28) rfl ?_
        refine i2b Xl.here hexec rfl (hb hbytes d30) rfl ?_
        exact Steps.refl _)
      obtain ⟨T7, X7, p7, st7⟩ := Xl.aput hexec hBk rfl hlt rfl (fits_lo8 (cv A (o + i))) (g := (mkF m 31 #[.val (.ref b), .val (.int (Int32.ofNat (o + i))), .val (.ref d), .val (.int (Int32.ofNat (q + i))), .val (.int (Int32.ofNat len)), .val (.int (Int32.ofNat i)), .val (.int (cv A (o + i)))] [.int (lo8 (cv A (o + i))), .int (Int32.ofNat (q + i)), .ref d])) rfl (rest := []) rfl (hb hbytes d31)
      have c8 : Steps p.tables e below (s₁.setTop (entryFrame m #[.ref b, .int (Int32.ofNat o), .ref d, .int (Int32.ofNat q), .int (Int32.ofNat len)] 7)) (T7.setTop (mkF m 32 #[.val (.ref b), .val (.int (Int32.ofNat (o + i))), .val (.ref d), .val (.int (Int32.ofNat (q + i))), .val (.int (Int32.ofNat len)), .val (.int (Int32.ofNat i)), .val (.int (cv A (o + i)))] [])) := c6.trans (st7 _ (Steps.refl _))
      have c9 : Steps p.tables e below (s₁.setTop (entryFrame m #[.ref b, .int (Int32.ofNat o), .ref d, .int (Int32.ofNat q), .int (Int32.ofNat len)] 7)) (T7.setTop (mkF m 3 #[.val (.ref b), .val (.int (Int32.ofNat (o + i) + 1)), .val (.ref d), .val (.int (Int32.ofNat (q + i) + 1)), .val (.int (Int32.ofNat len)), .val (.int (Int32.ofNat i + 1)), .val (.int (cv A (o + i)))] [])) := c8.trans (by
        refine iincV X7.here hexec rfl 1 (hb hbytes d32) (by decide) rfl rfl ?_
        refine iincV X7.here hexec rfl 1 (hb hbytes d35) (by decide) rfl rfl ?_
        refine iincV X7.here hexec rfl 1 (hb hbytes d38) (by decide) rfl rfl ?_
        refine XS.goto X7.here hexec rfl (pc0 := 41) rfl (hb hbytes d41) (by decide) rfl ?_
        exact Steps.refl _)
      have c10 : Steps p.tables e below (s₁.setTop (entryFrame m #[.ref b, .int (Int32.ofNat o), .ref d, .int (Int32.ofNat q), .int (Int32.ofNat len)] 7)) (T7.setTop (mkF m 3 #[.val (.ref b), .val (.int (Int32.ofNat (o + (i + 1)))), .val (.ref d), .val (.int (Int32.ofNat (q + (i + 1)))), .val (.int (Int32.ofNat len)), .val (.int (Int32.ofNat (i + 1))), .val (.int (cv A (o + i)))] [])) := by
        have := c9
        rw [succ32, succ32, succ32] at this
        exact this
      exact ih (i + 1) (by omega) _ (Or.inr ⟨_, rfl, rfl⟩) T7 _ (by rw [copyLocs_step, ← List.append_assoc]; exact X7) (pl.trans p7) (fl.step (by omega) hlt (by simp)) c10
  obtain ⟨T9, B9, z9, X9, p9, f9, g9⟩ := loop len 0 (by omega) .unset (Or.inl rfl) s₁ B (by simpa [copyLocs] using X0) ⟨hB0.1, fun _ _ => rfl, rfl⟩ (Laid.zero _ _ _) c2
  have c11 : Steps p.tables e below (s₁.setTop (entryFrame m #[.ref b, .int (Int32.ofNat o), .ref d, .int (Int32.ofNat q), .int (Int32.ofNat len)] 7)) (T9.setTop (mkF m 46 #[.val (.ref b), .val (.int (Int32.ofNat (o + len))), .val (.ref d), .val (.int (Int32.ofNat (q + len))), .val (.int (Int32.ofNat len)), .val (.int (Int32.ofNat len)), z9] [.int (Int32.ofNat len)])) := g9.trans (by
    refine XS.iload X9.here hexec rfl (hb hbytes d3) rfl ?_
    refine XS.iload X9.here hexec rfl (hb hbytes d5) rfl ?_
    refine XS.icmpYes X9.here hexec rfl (pc0 := 7) rfl (hb hbytes d7) rfl (ii_ge_t (nlt32 (by omega) (Nat.le_refl _))) (by decide) rfl ?_
    refine XS.iload X9.here hexec rfl (hb hbytes d44) rfl ?_
    exact Steps.refl _)
  exact ⟨T9, some (.int (Int32.ofNat len)), _, _, _, X9, by simp, rfl, rfl, (fun h => by cases h), ⟨rfl, B9, p9.from hh0, f9⟩, fun fs hl => c11.trans (X9.ireturnOut hexec hret rfl (Or.inl rfl) (hb hbytes d46) hl)⟩
end Cmp5
namespace Cmp3
def yN : MethodName := ⟨"java/lang/StringUTF16", "compress", "([CII)[B"⟩
abbrev yB : ByteArray := jdk_52_method_16_code
theorem d0 : decode yB 0 = .ok (.iload_n 2, 1) := by decide +kernel
theorem d1 : decode yB 1 = .ok (.newarray .byte, 2) := by decide +kernel
theorem d3 : decode yB 3 = .ok (.astore_n 3, 1) := by decide +kernel
theorem d4 : decode yB 4 = .ok (.aload_n 0, 1) := by decide +kernel
theorem d5 : decode yB 5 = .ok (.iload_n 1, 1) := by decide +kernel
theorem d6 : decode yB 6 = .ok (.aload_n 3, 1) := by decide +kernel
theorem d7 : decode yB 7 = .ok (.iconst 0, 1) := by decide +kernel
theorem d8 : decode yB 8 = .ok (.iload_n 2, 1) := by decide +kernel
theorem d9 : decode yB 9 = .ok (.invokestatic 115, 3) := by decide +kernel
theorem d12 : decode yB 12 = .ok (.istore 4, 2) := by decide +kernel
theorem d14 : decode yB 14 = .ok (.iload 4, 2) := by decide +kernel
theorem d16 : decode yB 16 = .ok (.iload_n 2, 1) := by decide +kernel
theorem d17 : decode yB 17 = .ok (.if_icmp (.eq) 40, 3) := by decide +kernel
theorem d57 : decode yB 57 = .ok (.aload_n 3, 1) := by decide +kernel
theorem d58 : decode yB 58 = .ok (.areturn, 1) := by decide +kernel
def site : List Cond := [.arrayClass .byte, Cmp5.tab] ++ staticW U16 115 Cmp5.yN
def tab : Cond := tabOf yN yB 6 (some (.array .byte)) site
def P (b : Addr) (A : Cell) (o len : Nat) (args : Array Value) (s : State) : Prop := args = #[.ref b, .int (Int32.ofNat o), .int (Int32.ofNat len)] ∧ Ch b A s ∧ o + len ≤ A.slots.size ∧ len ≤ 536870912 ∧ ∀ i, i < len → ¬ 255 < cv A (o + i)
def E (b : Addr) (A : Cell) (o len : Nat) (r : Option Value) (s u : State) : Prop := NewArr .byte "[B" len (fun j => .int (lo8 (cv A (o + j)))) r s u ∧ u.heap.size = s.heap.size + 1
/-- no char of the range above 255: a new byte[] of their low bytes -/
theorem law (l : Launch) (b : Addr) (A : Cell) (o len : Nat) : Law l yN 3 3 1 18 yB 6 (some (.array .byte)) site (P b A o len) (E b A o len) [] 1 len := by
  refine Law.of_walk (plainFor_of_name (by decide +kernel)) (by decide +kernel) (by decide +kernel) (by decide) (fun _ _ h => by rw [h.1]; rfl) (fun _ U U' hal hh h => ⟨h.1, h.2.1.mv hal hh, h.2.2⟩) (fun r U U' V V' h1 hal h2 h => ⟨NewArr.mv r U U' V V' h1 hal h2 h.1, by rw [h1, h2]; exact h.2⟩) ?_
  intro p e s m args below meth c s₁ X0 hexec hbytes hml hret hlk hnm hown hh0 W hP
  obtain ⟨rfl, hA, l1, l2, hp⟩ := hP
  have a31 := hA.1.2.2.2
  have c1 : Steps p.tables e below (s₁.setTop (entryFrame m #[.ref b, .int (Int32.ofNat o), .int (Int32.ofNat len)] 6)) (s₁.setTop (mkF m 0 #[.val (.ref b), .val (.int (Int32.ofNat o)), .val (.int (Int32.ofNat len)), .unset, .unset, .unset] [])) := entry rfl
  have c2 : Steps p.tables e below (s₁.setTop (entryFrame m #[.ref b, .int (Int32.ofNat o), .int (Int32.ofNat len)] 6)) (s₁.setTop (mkF m 1 #[.val (.ref b), .val (.int (Int32.ofNat o)), .val (.int (Int32.ofNat len)), .unset, .unset, .unset] [.int (Int32.ofNat len)])) := c1.trans (by
    refine XS.iloadN X0.here hexec rfl (hb hbytes d0) rfl ?_
    exact Steps.refl _)
  obtain ⟨T3, B3, X3, ba3, bs3, bv3, bh3, bf3, st3⟩ := X0.anew hexec (atype := .byte) (wk W (.arrayClass .byte)) rfl (by show len * 1 ≤ _; omega) (by omega) (g := (mkF m 1 #[.val (.ref b), .val (.int (Int32.ofNat o)), .val (.int (Int32.ofNat len)), .unset, .unset, .unset] [.int (Int32.ofNat len)])) rfl (hb hbytes d1) (rest := []) rfl (Nat.le_refl _) (by show 0 + len ≤ len; omega)
  rw [hh0] at ba3 st3
  have kp3 : XT.Kept s T3 := (XT.Kept.of_eq hh0).push bh3
  have hA3 := hA.keep X3.warmed.alike (kp3 _ _ hA.1.1)
  have hne : b ≠ s.heap.size := hA.1.ne
  have c4 : Steps p.tables e below (s₁.setTop (entryFrame m #[.ref b, .int (Int32.ofNat o), .int (Int32.ofNat len)] 6)) (T3.setTop (mkF m 3 #[.val (.ref b), .val (.int (Int32.ofNat o)), .val (.int (Int32.ofNat len)), .unset, .unset, .unset] [.ref s.heap.size])) := c2.trans (st3 _ (Steps.refl _))
  have c5 : Steps p.tables e below (s₁.setTop (entryFrame m #[.ref b, .int (Int32.ofNat o), .int (Int32.ofNat len)] 6)) (T3.setTop (mkF m 9 #[.val (.ref b), .val (.int (Int32.ofNat o)), .val (.int (Int32.ofNat len)), .val (.ref s.heap.size), .unset, .unset] [.int (Int32.ofNat len), .int 0, .ref s.heap.size, .int (Int32.ofNat o), .ref b])) := c4.trans (by
    refine XS.astoreN X3.here hexec rfl (hb hbytes d3) rfl rfl rfl ?_
    refine XS.aloadN X3.here hexec rfl (hb hbytes d4) rfl rfl ?_
    refine XS.iloadN X3.here hexec rfl (hb hbytes d5) rfl ?_
    refine XS.aloadN X3.here hexec rfl (hb hbytes d6) rfl rfl ?_
    refine iconstV X3.here hexec rfl 0 (hb hbytes d7) (by decide) ?_
    refine XS.iloadN X3.here hexec rfl (hb hbytes d8) rfl ?_
    exact Steps.refl _)
  obtain ⟨v6, T6, X6, E6, g6⟩ := X3.callS hexec (Cmp5.law l b A s.heap.size B3 o 0 len) hown (wks W (staticW U16 115 Cmp5.yN)) (wk W Cmp5.tab) (W := 0) (Nat.le_of_ble_eq_true rfl) (Nat.le_of_ble_eq_true rfl) (Nat.le_refl _) (by show 0 + len + 0 ≤ len; omega) (g := (mkF m 9 #[.val (.ref b), .val (.int (Int32.ofNat o)), .val (.int (Int32.ofNat len)), .val (.ref s.heap.size), .unset, .unset] [.int (Int32.ofNat len), .int (Int32.ofNat 0), .ref s.heap.size, .int (Int32.ofNat o), .ref b])) rfl (by rw [hml]; rfl) c5 (argsL := [.ref b, .int (Int32.ofNat o), .ref s.heap.size, .int (Int32.ofNat 0), .int (Int32.ofNat len)]) (rest := []) rfl rfl (by show 2 * 0 + 0 ≤ _; decide) (hb hbytes d9) (⟨rfl, hA3, ba3, hne, l1, by rw [bs3]; simp, hp⟩)
  obtain ⟨rfl, B6, p6, f6⟩ := E6
  have c7 : Steps p.tables e below (s₁.setTop (entryFrame m #[.ref b, .int (Int32.ofNat o), .int (Int32.ofNat len)] 6)) (T6.setTop (mkF m 12 #[.val (.ref b), .val (.int (Int32.ofNat o)), .val (.int (Int32.ofNat len)), .val (.ref s.heap.size), .unset, .unset] [.int (Int32.ofNat len)])) := g6
  have c8 : Steps p.tables e below (s₁.setTop (entryFrame m #[.ref b, .int (Int32.ofNat o), .int (Int32.ofNat len)] 6)) (T6.setTop (mkF m 58 #[.val (.ref b), .val (.int (Int32.ofNat o)), .val (.int (Int32.ofNat len)), .val (.ref s.heap.size), .val (.int (Int32.ofNat len)), .unset] [.ref s.heap.size])) := c7.trans (by
    refine XS.istore X6.here hexec rfl (hb hbytes d12) rfl rfl ?_
    refine XS.iload X6.here hexec rfl (hb hbytes d14) rfl ?_
    refine XS.iloadN X6.here hexec rfl (hb hbytes d16) rfl ?_
    refine XS.icmpYes X6.here hexec rfl (pc0 := 17) rfl (hb hbytes d17) rfl (ii_eq_t rfl) (by decide) rfl ?_
    refine XS.aloadN X6.here hexec rfl (hb hbytes d57) rfl rfl ?_
    exact Steps.refl _)
  have X8 := X6.wide (L' := []) (cells' := 1) (slots' := len) (fun x hx hlt => by
    simp only [List.nil_append, copyLocs, List.mem_map, List.mem_range] at hx
    obtain ⟨i, -, rfl⟩ := hx
    exact absurd hlt (Nat.lt_irrefl _)) (Nat.le_refl _) (by omega)
  exact ⟨T6, some (.ref s.heap.size), _, _, _, X8, rfl, rfl, rfl, (fun h => by cases h), ⟨⟨rfl, B6, ba3.like (X3.warmed.alike.symm.trans X6.warmed.alike) p6.1 f6.1 f6.2.1 f6.2.2.1, f6.2.1.trans bv3, by rw [X6.warmed.alike.findClass, f6.1]; exact bf3, by rw [f6.2.2.1, bs3]; simp, fun j hj => by rw [f6.2.2.2 j, if_pos (by omega)]; rfl, kp3.put p6 (Nat.le_refl _)⟩, by rw [p6.2.2, bh3, hh0]; simp⟩, fun fs hl => c8.trans (X8.areturnOut hexec rfl hret rfl (hb hbytes d58) hl)⟩
end Cmp3
namespace CodL
def yN : MethodName := ⟨"java/lang/StringUTF16", "coderFromArrayLen", "([BI)B"⟩
abbrev yB : ByteArray := jdk_52_method_15_code
theorem d0 : decode yB 0 = .ok (.iload_n 1, 1) := by decide +kernel
theorem d1 : decode yB 1 = .ok (.aload_n 0, 1) := by decide +kernel
theorem d2 : decode yB 2 = .ok (.arraylength, 1) := by decide +kernel
theorem d3 : decode yB 3 = .ok (.isub, 1) := by decide +kernel
theorem d4 : decode yB 4 = .ok (.bipush 31, 2) := by decide +kernel
theorem d6 : decode yB 6 = .ok (.iushr, 1) := by decide +kernel
theorem d7 : decode yB 7 = .ok (.i2b, 1) := by decide +kernel
theorem d8 : decode yB 8 = .ok (.ireturn, 1) := by decide +kernel
def site : List Cond := []
def tab : Cond := tabOf yN yB 2 (some .byte) site
def P (d : Addr) (B : Cell) (args : Array Value) (s : State) : Prop := args = #[.ref d, .int (Int32.ofNat B.slots.size)] ∧ Arr .byte d B s
def E (r : Option Value) (s u : State) : Prop := XT.PureE (some (.int 0)) r s u
/-- an array as long as the number of chars: LATIN1 -/
theorem law (l : Launch) (d : Addr) (B : Cell) : Law l yN 2 2 0 0 yB 2 (some .byte) site (P d B) E [] 0 0 := by
  refine Law.of_walk (plainFor_of_name (by decide +kernel)) (by decide +kernel) (by decide +kernel) (by decide) (fun _ _ h => by rw [h.1]; rfl) (fun _ U U' hal hh h => ⟨h.1, h.2.mv hal hh⟩) (fun r U U' V V' h1 hal h2 h => XT.PureE.mv r U U' V V' h1 hal h2 h) ?_
  intro p e s m args below meth c s₁ X0 hexec hbytes hml hret hlk hnm hown hh0 W hP
  obtain ⟨rfl, hB⟩ := hP
  have hB0 := hB.mv X0.warmed.alike hh0
  have c1 : Steps p.tables e below (s₁.setTop (entryFrame m #[.ref d, .int (Int32.ofNat B.slots.size)] 2)) (s₁.setTop (mkF m 0 #[.val (.ref d), .val (.int (Int32.ofNat B.slots.size))] [])) := entry rfl
  have c2 : Steps p.tables e below (s₁.setTop (entryFrame m #[.ref d, .int (Int32.ofNat B.slots.size)] 2)) (s₁.setTop (mkF m 2 #[.val (.ref d), .val (.int (Int32.ofNat B.slots.size))] [.ref d, .int (Int32.ofNat B.slots.size)])) := c1.trans (by
    refine XS.iloadN X0.here hexec rfl (hb hbytes d0) rfl ?_
    refine XS.aloadN X0.here hexec rfl (hb hbytes d1) rfl rfl ?_
    exact Steps.refl _)
  have c3 : Steps p.tables e below (s₁.setTop (entryFrame m #[.ref d, .int (Int32.ofNat B.slots.size)] 2)) (s₁.setTop (mkF m 8 #[.val (.ref d), .val (.int (Int32.ofNat B.slots.size))] [.int (lo8 (ushr (Int32.ofNat B.slots.size - Int32.ofNat B.slots.size) 31))])) := c2.trans (by
    refine X0.alen hexec hB0 rfl rfl (hb hbytes d2) ?_
    refine XS.isub X0.here hexec rfl (hb hbytes d3) rfl ?_
    refine bipushV X0.here hexec rfl 31 (hb hbytes d4) (by decide) ?_
    refine iushr X0.here hexec rfl (hb hbytes d6) rfl ?_
    refine i2b X0.here hexec rfl (hb hbytes d7) rfl ?_
    exact Steps.refl _)
  have e0 : lo8 (ushr (Int32.ofNat B.slots.size - Int32.ofNat B.slots.size) 31) = 0 := by rw [Int32.sub_self]; decide
  rw [e0] at c3
  exact ⟨s₁, some (.int 0), _, _, _, X0, rfl, rfl, rfl, (fun h => by cases h), ⟨rfl, hh0⟩, fun fs hl => c3.trans (X0.ireturnOut hexec hret rfl (Or.inr (Or.inr (Or.inl rfl))) (hb hbytes d8) hl)⟩
end CodL
/-- the String at a is Latin-1 over a new byte[] (the heap's one new cell): the low bytes of the len chars of A from o on; every cell but a is kept -/
def Got (a : Addr) (D : Cell) (fV fC : Field) (A : Cell) (o len : Nat) (r : Option Value) (s u : State) : Prop := r = none ∧ ∃ D' V : Cell, Blank "java/lang/String" a D' u ∧ Same D D' [fV.slot, fC.slot] ∧ D'.slots[fV.slot]? = some (.ref s.heap.size) ∧ D'.slots[fC.slot]? = some (.int 0) ∧ Arr .byte s.heap.size V u ∧ V.vm = .none ∧ u.vm.findClass "[B" = some V.cls ∧ V.slots.size = len ∧ (∀ j, j < len → V.slots[j]? = some (.int (lo8 (cv A (o + j))))) ∧ (∀ (y : Addr) (c : Cell), y ≠ a → s.heap[y]? = some c → u.heap[y]? = some c) ∧ u.heap.size = s.heap.size + 1
theorem Got.mv {a : Addr} {D A : Cell} {fV fC : Field} {o len : Nat} : ∀ r (U U' V V' : State), U'.heap = U.heap → V.vm.Alike V'.vm → V'.heap = V.heap → Got a D fV fC A o len r U V → Got a D fV fC A o len r U' V' :=
  fun r U U' V V' h1 hal h2 ⟨e0, D', X, a1, a2, a3, a4, a5, a6, a7, a8, a9, a10, a11⟩ => ⟨e0, D', X, a1.mv hal h2, a2, by rw [h1]; exact a3, a4, by rw [h1]; exact a5.mv hal h2, a6, by rw [hal.findClass]; exact a7, a8, a9, by rw [h1, h2]; exact a10, by rw [h1, h2]; exact a11⟩
namespace New4
def yN : MethodName := ⟨"java/lang/String", "<init>", "([CIILjava/lang/Void;)V"⟩
abbrev yB : ByteArray := jdk_42_method_149_code
theorem d0 : decode yB 0 = .ok (.aload_n 0, 1) := by decide +kernel
theorem d1 : decode yB 1 = .ok (.invokespecial 1, 3) := by decide +kernel
theorem d4 : decode yB 4 = .ok (.iload_n 3, 1) := by decide +kernel
theorem d5 : decode yB 5 = .ok (.ifCond (.ne) 22, 3) := by decide +kernel
theorem d27 : decode yB 27 = .ok (.getstatic 38, 3) := by decide +kernel
theorem d30 : decode yB 30 = .ok (.ifCond (.eq) 28, 3) := by decide +kernel
theorem d33 : decode yB 33 = .ok (.aload_n 1, 1) := by decide +kernel
theorem d34 : decode yB 34 = .ok (.iload_n 2, 1) := by decide +kernel
theorem d35 : decode yB 35 = .ok (.iload_n 3, 1) := by decide +kernel
theorem d36 : decode yB 36 = .ok (.invokestatic 177, 3) := by decide +kernel
theorem d39 : decode yB 39 = .ok (.astore 5, 2) := by decide +kernel
theorem d41 : decode yB 41 = .ok (.aload_n 0, 1) := by decide +kernel
theorem d42 : decode yB 42 = .ok (.aload 5, 2) := by decide +kernel
theorem d44 : decode yB 44 = .ok (.iload_n 3, 1) := by decide +kernel
theorem d45 : decode yB 45 = .ok (.invokestatic 47, 3) := by decide +kernel
theorem d48 : decode yB 48 = .ok (.putfield 15, 3) := by decide +kernel
theorem d51 : decode yB 51 = .ok (.aload_n 0, 1) := by decide +kernel
theorem d52 : decode yB 52 = .ok (.aload 5, 2) := by decide +kernel
theorem d54 : decode yB 54 = .ok (.putfield 9, 3) := by decide +kernel
theorem d57 : decode yB 57 = .ok (.return_, 1) := by decide +kernel
def site : List Cond := [.fieldLink "java/lang/String" 38 "java/lang/String" "COMPACT_STRINGS" "Z", Cmp3.tab, CodL.tab, .laysFinal "java/lang/String" "java/lang/String" "value" "[B", .fieldLink "java/lang/String" 9 "java/lang/String" "value" "[B", .laysFinal "java/lang/String" "java/lang/String" "coder" "B", .fieldLink "java/lang/String" 15 "java/lang/String" "coder" "B"] ++ objW "java/lang/String" 1 ++ staticW "java/lang/String" 177 Cmp3.yN ++ staticW "java/lang/String" 47 CodL.yN
def tab : Cond := tabOf yN yB 6 none site
def P (a : Addr) (D : Cell) (fV fC : Field) (b : Addr) (A : Cell) (z : Int32) (o len : Nat) (args : Array Value) (s : State) : Prop := args = #[.ref a, .ref b, .int (Int32.ofNat o), .int (Int32.ofNat len), .null] ∧ Blank "java/lang/String" a D s ∧ Found "java/lang/String" "value" "[B" fV s ∧ Found "java/lang/String" "coder" "B" fC s ∧ Ch b A s ∧ StaticIs s "java/lang/String" "COMPACT_STRINGS" "Z" (.int z) ∧ ¬ z = 0 ∧ 0 < len ∧ o + len ≤ A.slots.size ∧ len ≤ 536870912 ∧ ∀ i, i < len → ¬ 255 < cv A (o + i)
def E (a : Addr) (D : Cell) (fV fC : Field) (A : Cell) (o len : Nat) (r : Option Value) (s u : State) : Prop := Got a D fV fC A o len r s u
/-- len > 0, no char of the range above 255: a Latin-1 String of their low bytes -/
theorem law (l : Launch) (a : Addr) (D : Cell) (fV fC : Field) (b : Addr) (A : Cell) (z : Int32) (o len : Nat) : Law l yN 5 4 2 35 yB 6 none site (P a D fV fC b A z o len) (E a D fV fC A o len) [⟨a, fC.slot⟩, ⟨a, fV.slot⟩] 1 len := by
  refine Law.of_walk (plainFor_of_name (by decide +kernel)) (by decide +kernel) (by decide +kernel) (by decide) (fun _ _ h => by rw [h.1]; rfl) (fun _ U U' hal hh h => ⟨h.1, h.2.1.mv hal hh, h.2.2.1.al hal, h.2.2.2.1.al hal, h.2.2.2.2.1.mv hal hh, h.2.2.2.2.2.1.there hal hh, h.2.2.2.2.2.2⟩) (fun r U U' V V' h1 hal h2 h => Got.mv r U U' V V' h1 hal h2 h) ?_
  intro p e s m args below meth c s₁ X0 hexec hbytes hml hret hlk hnm hown hh0 W hP
  obtain ⟨rfl, hB, f1, f2, hA, s1, hz, l0, l1, l2, hp⟩ := hP
  have a31 := hA.1.2.2.2
  have c1 : Steps p.tables e below (s₁.setTop (entryFrame m #[.ref a, .ref b, .int (Int32.ofNat o), .int (Int32.ofNat len), .null] 6)) (s₁.setTop (mkF m 0 #[.val (.ref a), .val (.ref b), .val (.int (Int32.ofNat o)), .val (.int (Int32.ofNat len)), .val .null, .unset] [])) := entry rfl
  have c2 : Steps p.tables e below (s₁.setTop (entryFrame m #[.ref a, .ref b, .int (Int32.ofNat o), .int (Int32.ofNat len), .null] 6)) (s₁.setTop (mkF m 1 #[.val (.ref a), .val (.ref b), .val (.int (Int32.ofNat o)), .val (.int (Int32.ofNat len)), .val .null, .unset] [.ref a])) := c1.trans (by
    refine XS.aloadN X0.here hexec rfl (hb hbytes d0) rfl rfl ?_
    exact Steps.refl _)
  obtain ⟨T3, X3, q3, st3⟩ := X0.oinit hexec hown (wks W (objW "java/lang/String" 1)) (g := (mkF m 1 #[.val (.ref a), .val (.ref b), .val (.int (Int32.ofNat o)), .val (.int (Int32.ofNat len)), .val .null, .unset] [.ref a])) rfl (by rw [hml]; rfl) (rest := []) rfl (hb hbytes d1) (W := 0) (by show 2 * 0 + 0 ≤ _; decide) (Nat.le_of_ble_eq_true rfl) (Nat.le_of_ble_eq_true rfl)
  have hh3 := q3.trans hh0
  have c4 : Steps p.tables e below (s₁.setTop (entryFrame m #[.ref a, .ref b, .int (Int32.ofNat o), .int (Int32.ofNat len), .null] 6)) (T3.setTop (mkF m 27 #[.val (.ref a), .val (.ref b), .val (.int (Int32.ofNat o)), .val (.int (Int32.ofNat len)), .val .null, .unset] [])) := (c2.trans (st3 _ (Steps.refl _))).trans (by
    refine XS.iloadN X3.here hexec rfl (hb hbytes d4) rfl ?_
    refine XS.ifYes X3.here hexec rfl (pc0 := 5) rfl (hb hbytes d5) rfl (i0_ne_t (nz32 (by omega) l0)) (by decide) rfl ?_
    exact Steps.refl _)
  obtain ⟨T5, X5, q5, st5⟩ := X3.sget hexec hown (wk W (.fieldLink "java/lang/String" 38 "java/lang/String" "COMPACT_STRINGS" "Z")) s1 (fun _ _ h => by rw [hh3]; exact h) (g := (mkF m 27 #[.val (.ref a), .val (.ref b), .val (.int (Int32.ofNat o)), .val (.int (Int32.ofNat len)), .val .null, .unset] [])) rfl (hb hbytes d27)
  have hh5 := q5.trans hh3
  have c6 : Steps p.tables e below (s₁.setTop (entryFrame m #[.ref a, .ref b, .int (Int32.ofNat o), .int (Int32.ofNat len), .null] 6)) (T5.setTop (mkF m 30 #[.val (.ref a), .val (.ref b), .val (.int (Int32.ofNat o)), .val (.int (Int32.ofNat len)), .val .null, .unset] [.int z])) := c4.trans (st5 _ (Steps.refl _))
  have c7 : Steps p.tables e below (s₁.setTop (entryFrame m #[.ref a, .ref b, .int (Int32.ofNat o), .int (Int32.ofNat len), .null] 6)) (T5.setTop (mkF m 36 #[.val (.ref a), .val (.ref b), .val (.int (Int32.ofNat o)), .val (.int (Int32.ofNat len)), .val .null, .unset] [.int (Int32.ofNat len), .int (Int32.ofNat o), .ref b])) := c6.trans (by
    refine XS.ifNo X5.here hexec rfl (hb hbytes d30) rfl (i0_eq_f hz) ?_
    refine XS.aloadN X5.here hexec rfl (hb hbytes d33) rfl rfl ?_
    refine XS.iloadN X5.here hexec rfl (hb hbytes d34) rfl ?_
    refine XS.iloadN X5.here hexec rfl (hb hbytes d35) rfl ?_
    exact Steps.refl _)
  obtain ⟨v8, T8, X8, E8, g8⟩ := X5.callS hexec (Cmp3.law l b A o len) hown (wks W (staticW "java/lang/String" 177 Cmp3.yN)) (wk W Cmp3.tab) (W := 0) (Nat.le_of_ble_eq_true rfl) (Nat.le_of_ble_eq_true rfl) (Nat.le_refl _) (by show 0 + len ≤ len; omega) (g := (mkF m 36 #[.val (.ref a), .val (.ref b), .val (.int (Int32.ofNat o)), .val (.int (Int32.ofNat len)), .val .null, .unset] [.int (Int32.ofNat len), .int (Int32.ofNat o), .ref b])) rfl (by rw [hml]; rfl) c7 (argsL := [.ref b, .int (Int32.ofNat o), .int (Int32.ofNat len)]) (rest := []) rfl rfl (by show 2 * 0 + 0 ≤ _; decide) (hb hbytes d36) (⟨rfl, hA.mv X5.warmed.alike hh5, l1, l2, hp⟩)
  obtain ⟨e8, z8⟩ := E8
  obtain ⟨rfl, N, n1, n2, n3, n4, n5, n6⟩ := NewArr.mv _ T5 s _ _ hh5.symm (Vm.Alike.refl _) rfl e8
  rw [hh5] at z8
  have hB1 := hB.keep X8.warmed.alike (n6 _ _ hB.1)
  have hne : s.heap.size ≠ a := (Nat.ne_of_lt (Array.getElem?_eq_some_iff.mp hB.1).1).symm
  have c9 : Steps p.tables e below (s₁.setTop (entryFrame m #[.ref a, .ref b, .int (Int32.ofNat o), .int (Int32.ofNat len), .null] 6)) (T8.setTop (mkF m 39 #[.val (.ref a), .val (.ref b), .val (.int (Int32.ofNat o)), .val (.int (Int32.ofNat len)), .val .null, .unset] [.ref s.heap.size])) := g8
  have c10 : Steps p.tables e below (s₁.setTop (entryFrame m #[.ref a, .ref b, .int (Int32.ofNat o), .int (Int32.ofNat len), .null] 6)) (T8.setTop (mkF m 45 #[.val (.ref a), .val (.ref b), .val (.int (Int32.ofNat o)), .val (.int (Int32.ofNat len)), .val .null, .val (.ref s.heap.size)] [.int (Int32.ofNat N.slots.size), .ref s.heap.size, .ref a])) := by
    have hc : Steps p.tables e below (s₁.setTop (entryFrame m #[.ref a, .ref b, .int (Int32.ofNat o), .int (Int32.ofNat len), .null] 6)) (T8.setTop (mkF m 45 #[.val (.ref a), .val (.ref b), .val (.int (Int32.ofNat o)), .val (.int (Int32.ofNat len)), .val .null, .val (.ref s.heap.size)] [.int (Int32.ofNat len), .ref s.heap.size, .ref a])) := c9.trans (by
      refine XS.astore X8.here hexec rfl (hb hbytes d39) rfl rfl rfl ?_
      refine XS.aloadN X8.here hexec rfl (hb hbytes d41) rfl rfl ?_
      refine XS.aload X8.here hexec rfl (hb hbytes d42) rfl rfl ?_
      refine XS.iloadN X8.here hexec rfl (hb hbytes d44) rfl ?_
      exact Steps.refl _)
    rw [n4]; exact hc
  obtain ⟨v11, T11, X11, E11, g11⟩ := X8.callS hexec (CodL.law l s.heap.size N) hown (wks W (staticW "java/lang/String" 47 CodL.yN)) (wk W CodL.tab) (W := 1) (Nat.le_of_ble_eq_true rfl) (Nat.le_of_ble_eq_true rfl) (Nat.le_refl _) (by show 0 + len + 0 ≤ len; omega) (g := (mkF m 45 #[.val (.ref a), .val (.ref b), .val (.int (Int32.ofNat o)), .val (.int (Int32.ofNat len)), .val .null, .val (.ref s.heap.size)] [.int (Int32.ofNat N.slots.size), .ref s.heap.size, .ref a])) rfl (by rw [hml]; rfl) c10 (argsL := [.ref s.heap.size, .int (Int32.ofNat N.slots.size)]) (rest := [.ref a]) rfl rfl (by show 2 * 0 + (1 + 0) ≤ _; decide) (hb hbytes d45) (⟨rfl, n1⟩)
  obtain ⟨rfl, q11⟩ := E11
  have hB11 := hB1.mv (X8.warmed.alike.symm.trans X11.warmed.alike) q11
  have c12 : Steps p.tables e below (s₁.setTop (entryFrame m #[.ref a, .ref b, .int (Int32.ofNat o), .int (Int32.ofNat len), .null] 6)) (T11.setTop (mkF m 48 #[.val (.ref a), .val (.ref b), .val (.int (Int32.ofNat o)), .val (.int (Int32.ofNat len)), .val .null, .val (.ref s.heap.size)] [.int 0, .ref a])) := g11
  obtain ⟨T13, X13, p13, bl13, sl13, st13⟩ := X11.finit hexec hown (wk W (.fieldLink "java/lang/String" 15 "java/lang/String" "coder" "B")) (Or.inr ⟨_, (wk W (.laysFinal "java/lang/String" "java/lang/String" "coder" "B"))⟩) (Or.inl ⟨rfl, hnm⟩) f2 (Or.inl rfl) hB11 (t := .byte) (by decide +kernel) rfl (g := (mkF m 48 #[.val (.ref a), .val (.ref b), .val (.int (Int32.ofNat o)), .val (.int (Int32.ofNat len)), .val .null, .val (.ref s.heap.size)] [.int 0, .ref a])) rfl (rest := []) rfl (hb hbytes d48)
  have c14 : Steps p.tables e below (s₁.setTop (entryFrame m #[.ref a, .ref b, .int (Int32.ofNat o), .int (Int32.ofNat len), .null] 6)) (T13.setTop (mkF m 54 #[.val (.ref a), .val (.ref b), .val (.int (Int32.ofNat o)), .val (.int (Int32.ofNat len)), .val .null, .val (.ref s.heap.size)] [.ref s.heap.size, .ref a])) := (c12.trans (st13 _ (Steps.refl _))).trans (by
    refine XS.aloadN X13.here hexec rfl (hb hbytes d51) rfl rfl ?_
    refine XS.aload X13.here hexec rfl (hb hbytes d52) rfl rfl ?_
    exact Steps.refl _)
  obtain ⟨T15, X15, p15, bl15, sl15, st15⟩ := X13.finit hexec hown (wk W (.fieldLink "java/lang/String" 9 "java/lang/String" "value" "[B")) (Or.inr ⟨_, (wk W (.laysFinal "java/lang/String" "java/lang/String" "value" "[B"))⟩) (Or.inl ⟨rfl, hnm⟩) f1 (Or.inl rfl) bl13 (t := (.array .byte)) (by decide +kernel) rfl (g := (mkF m 54 #[.val (.ref a), .val (.ref b), .val (.int (Int32.ofNat o)), .val (.int (Int32.ofNat len)), .val .null, .val (.ref s.heap.size)] [.ref s.heap.size, .ref a])) rfl (rest := []) rfl (hb hbytes d54)
  have c16 : Steps p.tables e below (s₁.setTop (entryFrame m #[.ref a, .ref b, .int (Int32.ofNat o), .int (Int32.ofNat len), .null] 6)) (T15.setTop (mkF m 57 #[.val (.ref a), .val (.ref b), .val (.int (Int32.ofNat o)), .val (.int (Int32.ofNat len)), .val .null, .val (.ref s.heap.size)] [])) := c14.trans (st15 _ (Steps.refl _))
  have ap := apart (Or.inr ⟨_, (wk W (.laysFinal "java/lang/String" "java/lang/String" "value" "[B"))⟩) (Or.inr ⟨_, (wk W (.laysFinal "java/lang/String" "java/lang/String" "coder" "B"))⟩) f1 f2 (t₁ := .array .byte) (t₂ := .byte) (by decide +kernel) (by decide +kernel) (by decide)
  have al := X8.warmed.alike.symm.trans X15.warmed.alike
  have n7 : T11.heap[s.heap.size]? = some N := by rw [q11]; exact n1.1
  exact ⟨T15, none, _, _, _, X15, by simp, rfl, by omega, (fun _ => rfl), ⟨rfl, _, N, bl15, ((Same.refl D _).set _ (by simp)).set _ (by simp), sl15, (Cell.slots_setSlot_ne _ ap).trans sl13, n1.keep al (p15.other hne (p13.other hne n7)), n2, by rw [al.findClass]; exact n3, n4, n5, fun y c h1 h2 => p15.other h1 (p13.other h1 (by rw [q11]; exact n6 y c h2)), by rw [p15.2.2, p13.2.2, q11]; exact z8⟩, fun fs hl => c16.trans (X15.returnOut hexec hret (hb hbytes d57) hl)⟩
end New4
namespace New1
def yN : MethodName := ⟨"java/lang/String", "<init>", "([C)V"⟩
abbrev yB : ByteArray := jdk_42_method_3_code
theorem d0 : decode yB 0 = .ok (.aload_n 0, 1) := by decide +kernel
theorem d1 : decode yB 1 = .ok (.aload_n 1, 1) := by decide +kernel
theorem d2 : decode yB 2 = .ok (.iconst 0, 1) := by decide +kernel
theorem d3 : decode yB 3 = .ok (.aload_n 1, 1) := by decide +kernel
theorem d4 : decode yB 4 = .ok (.arraylength, 1) := by decide +kernel
theorem d5 : decode yB 5 = .ok (.aconst_null, 1) := by decide +kernel
theorem d6 : decode yB 6 = .ok (.invokespecial 27, 3) := by decide +kernel
theorem d9 : decode yB 9 = .ok (.return_, 1) := by decide +kernel
def site : List Cond := [New4.tab] ++ initW "java/lang/String" 27 New4.yN
def tab : Cond := tabOf yN yB 2 none site
def P (a : Addr) (D : Cell) (fV fC : Field) (b : Addr) (A : Cell) (z : Int32) (args : Array Value) (s : State) : Prop := args = #[.ref a, .ref b] ∧ Blank "java/lang/String" a D s ∧ Found "java/lang/String" "value" "[B" fV s ∧ Found "java/lang/String" "coder" "B" fC s ∧ Ch b A s ∧ StaticIs s "java/lang/String" "COMPACT_STRINGS" "Z" (.int z) ∧ ¬ z = 0 ∧ 0 < A.slots.size ∧ A.slots.size ≤ 536870912 ∧ ∀ i, i < A.slots.size → ¬ 255 < cv A i
def E (a : Addr) (D : Cell) (fV fC : Field) (A : Cell) (r : Option Value) (s u : State) : Prop := Got a D fV fC A 0 A.slots.size r s u
/-- new String(chars), not empty, no char above 255: a Latin-1 String of their low bytes -/
theorem law (l : Launch) (a : Addr) (D : Cell) (fV fC : Field) (b : Addr) (A : Cell) (z : Int32) : Law l yN 2 1 3 52 yB 2 none site (P a D fV fC b A z) (E a D fV fC A) [⟨a, fC.slot⟩, ⟨a, fV.slot⟩] 1 A.slots.size := by
  refine Law.of_walk (plainFor_of_name (by decide +kernel)) (by decide +kernel) (by decide +kernel) (by decide) (fun _ _ h => by rw [h.1]; rfl) (fun _ U U' hal hh h => ⟨h.1, h.2.1.mv hal hh, h.2.2.1.al hal, h.2.2.2.1.al hal, h.2.2.2.2.1.mv hal hh, h.2.2.2.2.2.1.there hal hh, h.2.2.2.2.2.2⟩) (fun r U U' V V' h1 hal h2 h => Got.mv r U U' V V' h1 hal h2 h) ?_
  intro p e s m args below meth c s₁ X0 hexec hbytes hml hret hlk hnm hown hh0 W hP
  obtain ⟨rfl, hB, f1, f2, hA, s1, hz, l0, l2, hp⟩ := hP
  have c1 : Steps p.tables e below (s₁.setTop (entryFrame m #[.ref a, .ref b] 2)) (s₁.setTop (mkF m 0 #[.val (.ref a), .val (.ref b)] [])) := entry rfl
  have c2 : Steps p.tables e below (s₁.setTop (entryFrame m #[.ref a, .ref b] 2)) (s₁.setTop (mkF m 6 #[.val (.ref a), .val (.ref b)] [.null, .int (Int32.ofNat A.slots.size), .int 0, .ref b, .ref a])) := c1.trans (by
    refine XS.aloadN X0.here hexec rfl (hb hbytes d0) rfl rfl ?_
    refine XS.aloadN X0.here hexec rfl (hb hbytes d1) rfl rfl ?_
    refine iconstV X0.here hexec rfl 0 (hb hbytes d2) (by decide) ?_
    refine XS.aloadN X0.here hexec rfl (hb hbytes d3) rfl rfl ?_
    refine X0.alen hexec (hA.1.mv X0.warmed.alike hh0) rfl rfl (hb hbytes d4) ?_
    refine XS.aconstNull X0.here hexec rfl (hb hbytes d5) ?_
    exact Steps.refl _)
  obtain ⟨v3, T3, X3, E3, g3⟩ := X0.callN hexec (New4.law l a D fV fC b A z 0 A.slots.size) rfl hown (wks W (initW "java/lang/String" 27 New4.yN)) (W New4.tab (by simp only [site, List.mem_cons, List.mem_append, true_or, or_true])) (W := 0) (Nat.le_of_ble_eq_true rfl) (Nat.le_of_ble_eq_true rfl) (Nat.le_refl _) (by show 0 + A.slots.size ≤ A.slots.size; omega) (g := (mkF m 6 #[.val (.ref a), .val (.ref b)] [.null, .int (Int32.ofNat A.slots.size), .int (Int32.ofNat 0), .ref b, .ref a])) rfl (by rw [hml]; rfl) c2 (argsL := [.ref b, .int (Int32.ofNat 0), .int (Int32.ofNat A.slots.size), .null]) (rest := []) rfl rfl (by show 2 * 0 + 0 ≤ _; decide) (hb hbytes d6) (⟨rfl, hB.mv X0.warmed.alike hh0, f1.al X0.warmed.alike, f2.al X0.warmed.alike, hA.mv X0.warmed.alike hh0, s1.there X0.warmed.alike hh0, hz, l0, by omega, l2, fun i hi => by rw [Nat.zero_add]; exact hp i hi⟩)
  have e0 := Got.mv _ s₁ s _ _ hh0.symm (Vm.Alike.refl _) rfl E3
  obtain rfl := e0.1
  have c4 : Steps p.tables e below (s₁.setTop (entryFrame m #[.ref a, .ref b] 2)) (T3.setTop (mkF m 9 #[.val (.ref a), .val (.ref b)] [])) := g3
  exact ⟨T3, none, _, _, _, X3, by simp, rfl, by omega, (fun _ => rfl), e0, fun fs hl => c4.trans (X3.returnOut hexec hret (hb hbytes d9) hl)⟩
theorem pays {l : Launch} {R : Room} {p : Program} {e : Env} {below : List Frame} {s : State} {sargs : Array Value} {len W : Nat} (a : Addr) (D : Cell) (fV fC : Field) (b : Addr) (A : Cell) (z : Int32) (htab : tab.before sargs s = true) (hfr : 4 ≤ R.frames) (hlo : W + 65 ≤ R.locals) :
    Back l R p e below s sargs yN len W (fun A₁ a₁ => A₁.cells + 1 ≤ R.cells ∧ A₁.slots + A.slots.size ≤ R.slots ∧ P a D fV fC b A z a₁ A₁.U) (fun A₁ _ v₁ B₁ => E a D fV fC A v₁ A₁.U B₁.U ∧ B₁.locs = A₁.locs ++ [⟨a, fC.slot⟩, ⟨a, fV.slot⟩] ∧ B₁.cells = A₁.cells + 1 ∧ B₁.slots = A₁.slots + A.slots.size) :=
  (law l a D fV fC b A z).pays htab hfr (by omega)
end New1
end StrChars
namespace StrChars.Road
open Jvm Sem ClassFile Op Lib Jvm.Stand Jvm.Free Jvm.Free.XT
open Jvm.Lib.Cold (StaticIs)
abbrev ST : String := "java/lang/String"
/-- every table word that New1's law asks, flat -/
abbrev words : List Jvm.Cond := [.code New1.yN New1.yB 2 none, .initialized ST, .methodLink ST 27 New4.yN, .instanceMethod New4.yN,
  .code New4.yN New4.yB 6 none, .fieldLink ST 38 ST "COMPACT_STRINGS" "Z", .laysFinal ST ST "value" "[B", .fieldLink ST 9 ST "value" "[B", .laysFinal ST ST "coder" "B", .fieldLink ST 15 ST "coder" "B",
  .methodLink ST 1 Lib.objectInit, .instanceMethod Lib.objectInit, .code Lib.objectInit ⟨#[0xb1]⟩ 1 none, .methodLink ST 177 Cmp3.yN, .static Cmp3.yN, .methodLink ST 47 CodL.yN, .static CodL.yN,
  .code Cmp3.yN Cmp3.yB 6 (some (.array .byte)), .initialized U16, .arrayClass .byte, .methodLink U16 115 Cmp5.yN, .static Cmp5.yN, .code Cmp5.yN Cmp5.yB 7 (some .int), .code CodL.yN CodL.yB 2 (some .byte)]
theorem tab_of {a : Array Value} {s : State} (h : ∀ w ∈ words, w.before a s = true) : New1.tab.before a s = true := by
  have h5 : Cmp5.tab.before a s = true := unparts (wk h (.code Cmp5.yN Cmp5.yB 7 (some .int))) (wks h (.initialized Cmp5.yN.cls :: Cmp5.site))
  have hc : CodL.tab.before a s = true := unparts (wk h (.code CodL.yN CodL.yB 2 (some .byte))) (wks h (.initialized CodL.yN.cls :: CodL.site))
  have q5 : ∀ w ∈ Cmp5.tab :: words, w.before a s = true := fun w hw => (List.mem_cons.mp hw).elim (fun e => e ▸ h5) (h w)
  have h3 : Cmp3.tab.before a s = true := unparts (wk q5 (.code Cmp3.yN Cmp3.yB 6 (some (.array .byte)))) (wks q5 (.initialized Cmp3.yN.cls :: Cmp3.site))
  have q3 : ∀ w ∈ Cmp3.tab :: CodL.tab :: words, w.before a s = true := fun w hw => (List.mem_cons.mp hw).elim (fun e => e ▸ h3) fun hw => (List.mem_cons.mp hw).elim (fun e => e ▸ hc) (h w)
  have h4 : New4.tab.before a s = true := unparts (wk q3 (.code New4.yN New4.yB 6 none)) (wks q3 (.initialized New4.yN.cls :: New4.site))
  have q4 : ∀ w ∈ New4.tab :: words, w.before a s = true := fun w hw => (List.mem_cons.mp hw).elim (fun e => e ▸ h4) (h w)
  exact unparts (wk q4 (.code New1.yN New1.yB 2 none)) (wks q4 (.initialized New1.yN.cls :: New1.site))
/-- the words ride from the start Z to the walk's own state -/
theorem moved {Z s : State} {a0 args : Array Value} (hZ : Z.Warmed39 s.vm) (hw : ∀ d ∈ words, d.before a0 Z = true) : ∀ d ∈ words, d.before args s = true := fun d hd => by
  have q := hw d hd
  have t : ∀ d ∈ words, d = .arrayClass .byte ∨ (d.onTables && d.keepsFace) = true := by decide +kernel
  rcases t d hd with rfl | t
  · exact RoadKit.mvA hZ q
  · exact RoadKit.mv hZ q t
/-- WHAT COMES BACK, over the tables of the start Z: h the heap at the call, h' behind it -/
def Q (Z : State) (x : Addr) (A : Cell) (h : Heap) (v : Option Value) (h' : Heap) (L : List Loc) : Prop := v = none ∧ (∀ y ∈ L, y.base = x) ∧ RoadKit.Keep h h' [x] ∧ h'.size = h.size + 1 ∧ RoadKit.Exa Z h' x ST ∧ RoadKit.Fld Z h' x ST "value" "[B" (.ref h.size) ∧ RoadKit.Fld Z h' x ST "coder" "B" (.int 0) ∧
  (∃ V : Cell, RoadKit.Arr Z h' h.size V .byte ∧ V.vm = .none ∧ Z.vm.findClass "[B" = some V.cls ∧ V.slots.size = A.slots.size ∧ ∀ j, j < A.slots.size → V.slots[j]? = some (.int (lo8 (cv A j)))) ∧
  ∀ (O n d : String) (w : Value), RoadKit.Fld Z h x O n d w → RoadKit.slotOf Z O n d ≠ RoadKit.slotOf Z ST "value" "[B" → RoadKit.slotOf Z O n d ≠ RoadKit.slotOf Z ST "coder" "B" → RoadKit.Fld Z h' x O n d w
/-- **new String(chars) AT A CALL, IN THE ROAD'S FORM**: for specialBack behind newO: x the fresh String, b the char[] with the cell A -/
theorem back {p : Program} {l : Launch} {e : Env} {R : Room} {s : State} {args : Array Value} {below : List Frame} {len W : Nat} {Z : State} {a0 : Array Value} {h : Heap} (hZ : Z.Warmed39 s.vm) (hw : ∀ d ∈ words, d.before a0 Z = true) {kI : Nat} (wi : (Jvm.Cond.instantiable ST kI).before a0 Z = true)
    {x b : Addr} {A : Cell} {z : Int32} {v0 c0 : Value} (E : RoadKit.Exa Z h x ST) (V : RoadKit.Fld Z h x ST "value" "[B" v0) (C : RoadKit.Fld Z h x ST "coder" "B" c0) (K : RoadKit.Arr Z h b A .char) (hty : Typed .char A) (S : RoadKit.Sta Z h ST "COMPACT_STRINGS" "Z" (.int z)) (hz : ¬ z = 0)
    (l0 : 0 < A.slots.size) (l2 : A.slots.size ≤ 536870912) (hp : ∀ i, i < A.slots.size → ¬ 255 < cv A i) (hfr : 4 ≤ R.frames) (hlo : W + 65 ≤ R.locals) :
    Back l R p e below s args New1.yN len W (fun P a => a = #[.ref x, .ref b] ∧ P.U.heap = h ∧ P.cells + 1 ≤ R.cells ∧ P.slots + A.slots.size ≤ R.slots)
      (fun P _ v B => ∃ L, Q Z x A h v B.U.heap L ∧ B.locs = P.locs ++ L ∧ B.cells = P.cells + 1 ∧ B.slots = P.slots + A.slots.size) := by
  intro m meth c P g ig mk a X hg hsize hdg hW hn hp'
  obtain ⟨rfl, rfl, r1, r2⟩ := hp'
  have al : Z.vm.Alike P.U.vm := hZ.alike.trans X.warmed.alike
  obtain ⟨D, cfV, kV, iV, fV, hD, gV, stV, knV, obV, asV, slV⟩ := id V
  obtain ⟨D', cfC, kC, iC, fC, hD', gC, stC, -, -, asC, slC⟩ := id C
  cases hD.symm.trans hD'
  obtain ⟨D2, kD, e1, e2, e3, e4, e5⟩ := id E
  cases hD.symm.trans e1
  obtain ⟨c2, k2, i1, i2, i3, -⟩ := Cond.instantiable_spec wi
  cases e2.symm.trans i1
  cases e3.symm.trans i2
  obtain ⟨kU, u1, u2⟩ := al.2.2 _ _ e3
  have hB : Blank ST x D P.U := ⟨hD, ⟨knV, fun q hq => by rw [hq] at obV; cases obV⟩, by rw [al.findClass]; exact e2, kU, u1, by rw [u2]; exact i3, by rw [u2]; exact e5 i3⟩
  have F1 : Found ST "value" "[B" fV P.U := ⟨SBG.found_only al ⟨cfV, kV, iV, gV⟩, stV⟩
  have F2 : Found ST "coder" "B" fC P.U := ⟨SBG.found_only al ⟨cfC, kC, iC, gC⟩, stC⟩
  have hA : Ch b A P.U := ⟨⟨K.1, State.isArrayOf_alike al K.2.1, K.2.2, by omega⟩, hty⟩
  have hS : StaticIs P.U ST "COMPACT_STRINGS" "Z" (.int z) := by
    obtain ⟨cfS, iS, kS, fS, st, cS, t1, t2, t3, t4, t5, t6, t7⟩ := S
    exact StaticIs.there (s := { Z with heap := P.U.heap }) ⟨cfS, iS, kS, fS, st, cS, t1, t2, t3, t4, t5, (fun q => by rw [q] at t6; cases t6), t7⟩ al rfl
  obtain ⟨v, B, X', ⟨⟨hv, E', V', q1, q2, q3, q4, q5, q6, q7, q8, q9, q10, q11⟩, hl, hc, hs⟩, st⟩ := New1.pays x D fV fC b A z (tab_of (moved hZ hw)) hfr hlo m meth c P g ig mk _ X hg hsize hdg hW hn ⟨r1, r2, rfl, hB, F1, F2, hA, hS, hz, l0, l2, hp⟩
  have al' : Z.vm.Alike B.U.vm := hZ.alike.trans X'.warmed.alike
  have hsz : E'.slots.size = D.slots.size := by
    obtain ⟨-, -, -, kB, w1, w2, w3⟩ := q1
    obtain ⟨kB', y1, y2⟩ := al'.2.2 _ _ e3
    rw [q2.2.1] at w1
    cases w1.symm.trans y1
    rw [w3, e5 i3, y2]
  refine ⟨v, B, X', ⟨_, ⟨hv, ?_, ⟨by omega, fun y cy hy hn' => q10 y cy (by simpa using hn') hy, fun y cy hy => ?_⟩, q11, ⟨E', _, q1.1, by rw [q2.2.1]; exact e2, by rw [q2.2.1]; exact e3, by rw [q2.1]; exact obV, fun _ => by rw [hsz]; exact e5 i3⟩,
    ⟨E', cfV, kV, iV, fV, q1.1, gV, stV, by rw [q2.1]; exact knV, by rw [q2.1]; exact obV, by rw [q2.2.1]; exact asV, q3⟩, ⟨E', cfC, kC, iC, fC, q1.1, gC, stC, by rw [q2.1]; exact knV, by rw [q2.1]; exact obV, by rw [q2.2.1]; exact asC, q4⟩,
    ⟨V', ⟨q5.1, State.isArrayOf_alike al'.symm q5.2.1, q5.2.2.1⟩, q6, by rw [← al'.findClass]; exact q7, q8, fun j hj => by have := q9 j hj; rwa [Nat.zero_add] at this⟩, fun O n d w F n1 n2 => ?_⟩, hl, hc, hs⟩, st⟩
  · intro y hy
    simp only [List.mem_cons, List.not_mem_nil, or_false] at hy
    rcases hy with rfl | rfl <;> rfl
  · by_cases q : y = x
    · subst q
      cases hD.symm.trans hy
      exact ⟨E', q1.1, q2.2.1, q2.1, hsz⟩
    · exact ⟨cy, q10 y cy q hy, rfl, rfl, rfl⟩
  · obtain ⟨D3, cf, k, i, f, g1, g2, g3, g4, g5, g6, g7⟩ := F
    cases hD.symm.trans g1
    simp only [RoadKit.slotOf, g2, gV, gC, Option.map_some, Option.getD_some] at n1 n2
    exact ⟨E', cf, k, i, f, q1.1, g2, g3, by rw [q2.1]; exact g4, by rw [q2.1]; exact g5, by rw [q2.2.1]; exact g6, by rw [q2.2.2 f.slot (by simp [n1, n2])]; exact g7⟩
end StrChars.Road
namespace StrChars.Road
open Jvm Sem ClassFile Op Lib Jvm.Stand Jvm.Free Jvm.Free.XT
/-- WHAT COMES BACK, the byte[] as a list of values -/
def QA (Z : State) (x : Addr) (zn : Int32) (cs : List Int32) (h : Heap) (v : Option Value) (h' : Heap) (L : List Loc) : Prop := v = none ∧ (∀ y ∈ L, y.base = x) ∧ RoadKit.Keep h h' [x] ∧ h'.size = h.size + 1 ∧ RoadKit.Exa Z h' x ST ∧ RoadKit.Fld Z h' x ST "value" "[B" (.ref h.size) ∧ RoadKit.Fld Z h' x ST "coder" "B" (.int 0) ∧
  (∃ kb, Z.vm.findClass "[B" = some kb ∧ RoadKit.Arv Z h' h.size kb .byte zn (cs.map fun c => .int (lo8 c)) (.int 0)) ∧
  ∀ (O n d : String) (w : Value), RoadKit.Fld Z h x O n d w → RoadKit.slotOf Z O n d ≠ RoadKit.slotOf Z ST "value" "[B" → RoadKit.slotOf Z O n d ≠ RoadKit.slotOf Z ST "coder" "B" → RoadKit.Fld Z h' x O n d w
/-- **new String(chars) AT A CALL, THE ARRAYS AS LISTS**: the char[] at b holds cs, not empty, no char above 255 -/
theorem backArv {p : Program} {l : Launch} {e : Env} {R : Room} {s : State} {args : Array Value} {below : List Frame} {len W : Nat} {Z : State} {a0 : Array Value} {h : Heap} (hZ : Z.Warmed39 s.vm) (hw : ∀ d ∈ words, d.before a0 Z = true) {kI : Nat} (wi : (Jvm.Cond.instantiable ST kI).before a0 Z = true)
    {x b : Addr} {k : ClassId} {zn z : Int32} {cs : List Int32} {dv v0 c0 : Value} (E : RoadKit.Exa Z h x ST) (V : RoadKit.Fld Z h x ST "value" "[B" v0) (C : RoadKit.Fld Z h x ST "coder" "B" c0) (K : RoadKit.Arv Z h b k .char zn (cs.map Value.int) dv) (S : RoadKit.Sta Z h ST "COMPACT_STRINGS" "Z" (.int z)) (hz : ¬ z = 0)
    (hlen : zn.toNatClampNeg = cs.length) (h0 : 0 < cs.length) (hbig : cs.length ≤ 536870912) (hall : ∀ c ∈ cs, ¬ 255 < c) (hfr : 4 ≤ R.frames) (hlo : W + 65 ≤ R.locals) :
    Back l R p e below s args New1.yN len W (fun P a => a = #[.ref x, .ref b] ∧ P.U.heap = h ∧ P.cells + 1 ≤ R.cells ∧ P.slots + cs.length ≤ R.slots)
      (fun P _ v B => ∃ L, QA Z x zn cs h v B.U.heap L ∧ B.locs = P.locs ++ L ∧ B.cells = P.cells + 1 ∧ B.slots = P.slots + cs.length) := by
  obtain ⟨A, K1, K2, K3, K4, K5, K6⟩ := K
  have e : A.slots.size = cs.length := K3.trans hlen
  have hat : ∀ (i : Nat) (hi : i < cs.length), A.slots[i]? = some (.int cs[i]) := fun i hi => by rw [K5 i (by omega)]; simp [List.getD_eq_getElem?_getD, hi]
  have hcv : ∀ (i : Nat) (hi : i < cs.length), cv A i = cs[i] := fun i hi => by unfold cv; rw [hat i hi]
  have hty : Typed .char A := fun i v hv => by
    have hi : i < A.slots.size := (Array.getElem?_eq_some_iff.mp hv).1
    have q := K5 i hi
    rw [hv] at q
    rw [Option.some.inj q]
    exact K6 i hi
  refine Back.mono (back hZ hw wi E V C K1 hty S hz (by omega) (by omega) (fun i hi => by rw [hcv i (by omega)]; exact hall _ (List.getElem_mem _)) hfr hlo) (fun P a hp => ⟨hp.1, hp.2.1, hp.2.2.1, by rw [e]; exact hp.2.2.2⟩) (fun P a v B hp hq => ?_)
  obtain ⟨L, ⟨q1, q2, q3, q4, q5, q6, q7, ⟨V', v1, v2, v3, v4, v5⟩, q9⟩, hl, hc, hs⟩ := hq
  refine ⟨L, ⟨q1, q2, q3, q4, q5, q6, q7, ⟨V'.cls, v3, V', v1, rfl, by rw [v4, e, hlen], K4, fun i hi => ?_, fun i hi => ?_⟩, q9⟩, hl, hc, by rw [hs, e]⟩
  · have hi' : i < cs.length := by omega
    rw [v5 i (by omega), hcv i hi']; simp [List.getD_eq_getElem?_getD, hi']
  · have hi' : i < cs.length := by omega
    simp only [List.getD_eq_getElem?_getD, List.getElem?_map, List.getElem?_eq_getElem hi', Option.map_some, Option.getD_some]
    exact fits_lo8 _
end StrChars.Road
namespace StrChars.Road
open Jvm Sem ClassFile Op Lib Jvm.Stand Jvm.Free Jvm.Free.XT
/-- WHAT COMES BACK, in the writer's own shape -/
def QV (Z : State) (x : Addr) (N : Int32) (bs : List Int32) (h : Heap) (n0 : Nat) (v : Option Value) (h' : Heap) (L : List Loc) : Prop := v = none ∧ RoadKit.Fr n0 L ∧ RoadKit.Keep h h' [x] ∧ RoadKit.Exa Z h' x ST ∧ RoadKit.Fld Z h' x ST "coder" "B" (.int 0) ∧
  ∃ (t : Addr) (kb : ClassId), n0 ≤ t ∧ h.size ≤ t ∧ ¬ t = x ∧ RoadKit.Fld Z h' x ST "value" "[B" (.ref t) ∧ RoadKit.Arv Z h' t kb .byte N (bs.map Value.int) (.int 0)
/-- **new String(chars) AT A CALL, FOR THE WRITER**: a char[] of n known ints, each 0 to 255 -/
theorem backV {p : Program} {l : Launch} {e : Env} {R : Room} {s : State} {args : Array Value} {below : List Frame} {len W : Nat} {Z : State} {a0 : Array Value} {h : Heap} (hZ : Z.Warmed39 s.vm) (hw : ∀ d ∈ words, d.before a0 Z = true) {kI : Nat} (wi : (Jvm.Cond.instantiable ST kI).before a0 Z = true)
    {x b : Addr} {kC : ClassId} {cs bs : List Int32} {d v0 c0 : Value} {z N : Int32} {n n0 : Nat} (hx0 : n0 ≤ x) (hh0 : n0 ≤ h.size) (E : RoadKit.Exa Z h x ST) (V : RoadKit.Fld Z h x ST "value" "[B" v0) (C : RoadKit.Fld Z h x ST "coder" "B" c0) (K : RoadKit.Arv Z h b kC .char N (cs.map Value.int) d) (S : RoadKit.Sta Z h ST "COMPACT_STRINGS" "Z" (.int z)) (hz : ¬ z = 0)
    (hn : cs.length = n) (hN : N = Int32.ofNat n) (l0 : 0 < n) (l2 : n ≤ 4000) (hp : ∀ c ∈ cs, ¬ c < 0 ∧ ¬ (255 : Int32) < c) (hb : bs = cs.map (fun c => c.toInt8.toInt32)) (hfr : 4 ≤ R.frames) (hlo : W + 65 ≤ R.locals) :
    Back l R p e below s args (⟨"java/lang/String", "<init>", "([C)V"⟩ : MethodName) len W (fun P a => a = #[.ref x, .ref b] ∧ P.U.heap = h ∧ P.cells + 1 ≤ R.cells ∧ P.slots + n ≤ R.slots)
      (fun P _ v B => ∃ L, QV Z x N bs h n0 v B.U.heap L ∧ B.locs = P.locs ++ L ∧ B.cells = P.cells + 1 ∧ B.slots = P.slots + n) := by
  subst hn hN hb
  refine Back.mono (backArv hZ hw wi E V C K S hz (n32 (by omega)) l0 (by omega) (fun c hc => (hp c hc).2) hfr hlo) (fun P a hp => hp) (fun P a v B hp hq => ?_)
  obtain ⟨L, ⟨q1, q2, q3, q4, q5, q6, q7, ⟨kb, v1, v2⟩, q9⟩, hl, hc, hs⟩ := hq
  exact ⟨L, ⟨q1, fun y hy => by rw [q2 y hy]; exact hx0, q3, q5, q7, h.size, kb, hh0, Nat.le_refl _, Nat.ne_of_gt E.lt, q6, by rw [List.map_map]; exact v2⟩, hl, hc, hs⟩
end StrChars.Road
end Jvm.Pilot.@@N@@
namespace Jvm.Pilot.@@N@@
open Jvm Jvm.ClassFile Sem Op Lib Jvm.Free Jvm.Stand Jvm.LawKit Jvm.RoadKit Bundle Jvm.Pilot.@@N@@.Jvm.D
theorem own_pack {p : Program} {l : Launch} {e : Env} {R : Room} {s : State} {m : MethodId} {args : Array Value} {below : List Frame} {meth : Method} {c : Code} {T : State} {locs : List Loc} {cells slots n0 : Nat} (X : Stand p l e R s m args below meth c T locs cells slots) (N : Fr n0 locs) : ∃ L, Stand p l e R s m args below meth c T L cells slots ∧ Fr n0 L := ⟨_, X, N⟩
theorem own_c0 {P : Int32 → Prop} : ∀ x ∈ ([] : List Int32), P x := fun _ h => nomatch h
theorem own_cS {P : Int32 → Prop} {y : Int32} {L : List Int32} (q : P y) (r : ∀ x ∈ L, P x) : ∀ x ∈ y :: L, P x := fun x h => (List.mem_cons.mp h).elim (fun e => e ▸ q) (r x)
theorem own_up (cs : List Int32) (h : ∀ c ∈ cs, ¬ c < 0 ∧ ¬ (255 : Int32) < c) : ∀ c ∈ cs, ¬ c < 0 ∧ ¬ (65535 : Int32) < c := fun c hc => ⟨(h c hc).1, fun q => (h c hc).2 (by rw [Int32.lt_iff_toInt_lt] at q ⊢; have e1 : (65535 : Int32).toInt = 65535 := rfl; have e2 : (255 : Int32).toInt = 255 := rfl; omega)⟩
theorem own_m32 (x : Int32) : ∃ k : Fin 256, (x &&& 255) = Int32.ofNat k.val := by
  have h : (x &&& 255).toBitVec.toNat < 256 := by
    simp only [Int32.toBitVec_and, BitVec.toNat_and]
    exact Nat.lt_succ_of_le Nat.and_le_right
  refine ⟨⟨_, h⟩, ?_⟩
  apply Int32.toBitVec_inj.mp
  show _ = BitVec.ofNat 32 _
  rw [BitVec.ofNat_toNat]; simp
theorem own_m64 (x : Int64) : ∃ k : Fin 256, (x &&& 255).toInt32 = Int32.ofNat k.val := by
  have h : (x &&& 255).toBitVec.toNat < 256 := by
    simp only [Int64.toBitVec_and, BitVec.toNat_and]
    exact Nat.lt_succ_of_le Nat.and_le_right
  refine ⟨⟨_, h⟩, ?_⟩
  have e : (x &&& 255) = Int64.ofNat (x &&& 255).toBitVec.toNat := by
    apply Int64.toBitVec_inj.mp
    show _ = BitVec.ofNat 64 _
    rw [BitVec.ofNat_toNat]; simp
  have t : ∀ k : Fin 256, (Int64.ofNat k.val).toInt32 = Int32.ofNat k.val := by decide +kernel
  exact (congrArg Int64.toInt32 e).trans (t ⟨_, h⟩)
theorem own_eqint {args : Array Value} {s : State} {t : Term} {k : Int32} (h : (Jvm.Cond.eq t (.int k)).value args s none s [] = some true) : t.eval args s none [] s = some (.int k) := by
  simp only [Cond.value, Term.eval] at h
  cases ht : t.eval args s none [] s with
  | none => simp [ht] at h
  | some x => cases x <;> simp [ht] at h ⊢ <;> exact h
def own_Qlaw (h0 : Heap) (n0 : Nat) (v : Option Value) (h : Heap) (L : List Loc) : Prop := v = some (.int 1) ∧ Fr n0 L
theorem own_hws_words : ∀ d ∈ StrChars.Road.words, d ∈ tables_1 := by decide +kernel
theorem own_strAtoms : ∀ d ∈ Bundle.stringAtoms, d ∈ tables_1 := by decide +kernel
def own_iteq (u w a b : Int32) : Int32 := if u = w then a else b
def own_itlt (u w a b : Int32) : Int32 := if u < w then a else b
def own_Glob (Z : State) (G1 : Int32) (k_WORD : Addr) (k_STRING : Addr) (k_STRING_START : Addr) (k_STRING_MIDDLE : Addr) (k_STRING_END : Addr) (k_SYMBOL : Addr) (k_END : Addr) : Prop := (Sta Z Z.heap "java/lang/String" "COMPACT_STRINGS" "Z" (.int G1)) ∧ (¬ (G1 = (0 : Int32))) ∧ (Sta Z Z.heap "com/example/mudwright/mudwright/Token$Kind" "WORD" "Lcom/example/mudwright/mudwright/Token$Kind;" (.ref k_WORD)) ∧ (Exa Z Z.heap k_WORD "com/example/mudwright/mudwright/Token$Kind") ∧ (Sta Z Z.heap "com/example/mudwright/mudwright/Token$Kind" "STRING" "Lcom/example/mudwright/mudwright/Token$Kind;" (.ref k_STRING)) ∧ (Exa Z Z.heap k_STRING "com/example/mudwright/mudwright/Token$Kind") ∧ (Sta Z Z.heap "com/example/mudwright/mudwright/Token$Kind" "STRING_START" "Lcom/example/mudwright/mudwright/Token$Kind;" (.ref k_STRING_START)) ∧ (Exa Z Z.heap k_STRING_START "com/example/mudwright/mudwright/Token$Kind") ∧ (Sta Z Z.heap "com/example/mudwright/mudwright/Token$Kind" "STRING_MIDDLE" "Lcom/example/mudwright/mudwright/Token$Kind;" (.ref k_STRING_MIDDLE)) ∧ (Exa Z Z.heap k_STRING_MIDDLE "com/example/mudwright/mudwright/Token$Kind") ∧ (Sta Z Z.heap "com/example/mudwright/mudwright/Token$Kind" "STRING_END" "Lcom/example/mudwright/mudwright/Token$Kind;" (.ref k_STRING_END)) ∧ (Exa Z Z.heap k_STRING_END "com/example/mudwright/mudwright/Token$Kind") ∧ (Sta Z Z.heap "com/example/mudwright/mudwright/Token$Kind" "SYMBOL" "Lcom/example/mudwright/mudwright/Token$Kind;" (.ref k_SYMBOL)) ∧ (Exa Z Z.heap k_SYMBOL "com/example/mudwright/mudwright/Token$Kind") ∧ (Sta Z Z.heap "com/example/mudwright/mudwright/Token$Kind" "END" "Lcom/example/mudwright/mudwright/Token$Kind;" (.ref k_END)) ∧ (Exa Z Z.heap k_END "com/example/mudwright/mudwright/Token$Kind") ∧ (k_WORD ≠ k_STRING_MIDDLE) ∧ (k_WORD ≠ k_STRING_END) ∧ (k_STRING ≠ k_STRING_MIDDLE) ∧ (k_STRING ≠ k_STRING_END) ∧ (k_STRING_START ≠ k_STRING_MIDDLE) ∧ (k_STRING_START ≠ k_STRING_END) ∧ (k_STRING_MIDDLE ≠ k_STRING_END) ∧ (k_SYMBOL ≠ k_STRING_MIDDLE) ∧ (k_SYMBOL ≠ k_STRING_END) ∧ (k_END ≠ k_STRING_MIDDLE) ∧ (k_END ≠ k_STRING_END)
def own_k (p : Int32) : Int32 := ((p &&& (2147483647 : Int32)) % (7 : Int32))
theorem own_kc (p : Int32) : own_k p = 0 ∨ own_k p = 1 ∨ own_k p = 2 ∨ own_k p = 3 ∨ own_k p = 4 ∨ own_k p = 5 ∨ own_k p = 6 := by
  have h0 : 0 ≤ (p &&& 2147483647).toInt := (c_and p 2147483647 (by decide)).1
  have h1 := (c_irem (p &&& 2147483647) 7 7 (by decide)).1 h0
  have e : ∀ z : Int32, z.toInt = (p &&& 2147483647).toInt % 7 → z = 0 ∨ z = 1 ∨ z = 2 ∨ z = 3 ∨ z = 4 ∨ z = 5 ∨ z = 6 := by
    intro z hz
    have q : z.toInt = 0 ∨ z.toInt = 1 ∨ z.toInt = 2 ∨ z.toInt = 3 ∨ z.toInt = 4 ∨ z.toInt = 5 ∨ z.toInt = 6 := by omega
    rcases q with q | q | q | q | q | q | q
    · exact Or.inl (Int32.toInt_inj.mp q)
    · exact Or.inr (Or.inl (Int32.toInt_inj.mp q))
    · exact Or.inr (Or.inr (Or.inl (Int32.toInt_inj.mp q)))
    · exact Or.inr (Or.inr (Or.inr (Or.inl (Int32.toInt_inj.mp q))))
    · exact Or.inr (Or.inr (Or.inr (Or.inr (Or.inl (Int32.toInt_inj.mp q)))))
    · exact Or.inr (Or.inr (Or.inr (Or.inr (Or.inr (Or.inl (Int32.toInt_inj.mp q))))))
    · exact Or.inr (Or.inr (Or.inr (Or.inr (Or.inr (Or.inr (Int32.toInt_inj.mp q))))))
  exact e _ h1
def own_ch (p : Int32) : Int32 := (nar .char ((p &&& (255 : Int32)).toUInt32.toUInt16.toUInt32.toInt32))
theorem own_rng_ch (p : Int32) : ¬ own_ch p < 0 ∧ ¬ (255 : Int32) < own_ch p := by
  have t : ∀ k : Fin 256, ¬ nar .char ((Int32.ofNat k.val).toUInt32.toUInt16.toUInt32.toInt32) < 0 ∧ ¬ (255 : Int32) < nar .char ((Int32.ofNat k.val).toUInt32.toUInt16.toUInt32.toInt32) := by decide +kernel
  unfold own_ch
  obtain ⟨k, hk⟩ := own_m32 p
  rw [hk]; exact t k
theorem own_d_method_2_0 : decode method_2_code 0 = .ok (.iload_n 0, 1) := by decide +kernel
theorem own_d_method_2_1 : decode method_2_code 1 = .ok (.ifCond .ne 7, 3) := by decide +kernel
theorem own_d_method_2_4 : decode method_2_code 4 = .ok (.getstatic 7, 3) := by decide +kernel
theorem own_d_method_2_7 : decode method_2_code 7 = .ok (.areturn, 1) := by decide +kernel
theorem own_pn0 : plainName "com/example/mudwright/mudwright/TokenIsAfterValuePinLaw" = true := by first | (simp [plainName, overriddenIn]; done) | decide +kernel
def own_Qrm_kind0 (Z : State) (G1 : Int32) (k_WORD : Addr) (k_STRING : Addr) (k_STRING_START : Addr) (k_STRING_MIDDLE : Addr) (k_STRING_END : Addr) (k_SYMBOL : Addr) (k_END : Addr) (p1 : Int32) (h0 : Heap) (n0 : Nat) (v : Option Value) (h : Heap) (L : List Loc) : Prop := (v = some (.ref k_WORD)) ∧ (Fr n0 L) ∧ (h = h0)
theorem own_efrm_kind0 (m : MethodId) (p1 : Int32) : entryFrame m #[(.int p1)] 1 = mkF m 0 #[.val (.int p1)] [] := by first | (simp [entryFrame, mkF, argsToLocals, Value.category]; done) | rfl
set_option maxRecDepth 65536 in
set_option maxHeartbeats 40000000 in
theorem own_rm_kind0 (l : Launch) (Z : State) (a0 : Array Value) (hw : ∀ d ∈ tables_1, d.before a0 Z = true) (ws : List Jvm.Cond) (G1 : Int32) (k_WORD : Addr) (k_STRING : Addr) (k_STRING_START : Addr) (k_STRING_MIDDLE : Addr) (k_STRING_END : Addr) (k_SYMBOL : Addr) (k_END : Addr) (gl : own_Glob Z G1 k_WORD k_STRING k_STRING_START k_STRING_MIDDLE k_STRING_END k_SYMBOL k_END) (p1 : Int32) (h0 : Heap) (n0 : Nat) (Z0 : n0 ≤ h0.size) (X00 : Old Z n0 h0) (hc1 : p1 = (0 : Int32)) :
    MetFree l (⟨"com/example/mudwright/mudwright/TokenIsAfterValuePinLaw", "kindOf", "(I)Lcom/example/mudwright/mudwright/Token$Kind;"⟩ : MethodName) (head1 (Jvm.Cond.code (⟨"com/example/mudwright/mudwright/TokenIsAfterValuePinLaw", "kindOf", "(I)Lcom/example/mudwright/mudwright/Token$Kind;"⟩ : MethodName) method_2_code 1 (some (.object "com/example/mudwright/mudwright/Token$Kind")) :: ws) ({ frames := 0, cells := 0, slots := 0, locals := 0 } : Room)) (fun a U => a = #[(.int p1)] ∧ Z.Warmed39 U.vm ∧ U.heap = h0) (fun _ _ _ _ _ => True) (fun _ U o U' => ∃ v L, o = .returned v ∧ own_Qrm_kind0 Z G1 k_WORD k_STRING k_STRING_START k_STRING_MIDDLE k_STRING_END k_SYMBOL k_END p1 h0 n0 v U'.heap L ∧ FrameEnd U o U' L ({ frames := 0, cells := 0, slots := 0, locals := 0 } : Room).cells ({ frames := 0, cells := 0, slots := 0, locals := 0 } : Room).slots) := by
  refine MetFree.of_bodySF (plainFor_of_name own_pn0) hisR ?_
  intro p e s m args below meth c s₁ Bd hml0 hP hK
  obtain ⟨rfl, hZ, hh⟩ := hP
  obtain ⟨O_CS, P_CS, O_WORD, E_WORD, O_STRING, E_STRING, O_STRING_START, E_STRING_START, O_STRING_MIDDLE, E_STRING_MIDDLE, O_STRING_END, E_STRING_END, O_SYMBOL, E_SYMBOL, O_END, E_END, ne_WORD_STRING_MIDDLE, ne_WORD_STRING_END, ne_STRING_STRING_MIDDLE, ne_STRING_STRING_END, ne_STRING_START_STRING_MIDDLE, ne_STRING_START_STRING_END, ne_STRING_MIDDLE_STRING_END, ne_SYMBOL_STRING_MIDDLE, ne_SYMBOL_STRING_END, ne_END_STRING_MIDDLE, ne_END_STRING_END⟩ := id gl
  have hx := Bd.exec
  have hby := Bd.bytes
  have hml : c.maxLocals = 1 := hml0
  have hown : s.vm.findClass "com/example/mudwright/mudwright/TokenIsAfterValuePinLaw" = some m.cls := findClass_of_methodNamed Bd.named
  have hnm := (name_of_methodNamed Bd.named Bd.method).1
  have X0 : Stand p l e ({ frames := 0, cells := 0, slots := 0, locals := 0 } : Room) s m #[(.int p1)] below meth c s₁ [] 0 0 := Stand.of_body Bd
  have e0 : s₁.heap = h0 := by rw [← hh, Bd.state]; rfl
  have N0 := Fr.nil n0
  have pre0 : ∀ t, Steps p.tables e below (s₁.setTop (mkF m 0 #[.val (.int p1)] [])) t → Steps p.tables e below (s₁.setTop (entryFrame m #[(.int p1)] 1)) t := fun t k => castTop (own_efrm_kind0 m p1) k
  obtain ⟨T1, X1, e1, st1⟩ := getS2 X0 hx hZ hown (host := "") (Or.inl (hw _ (List.mem_of_getElem? (i := 5) rfl))) Via.refl e0 (O_WORD.ext X00.2) (g := (mkF m 4 #[.val (.int p1)] [])) rfl (hb hby own_d_method_2_4)
  obtain ⟨fs, hr, hrun, hended, hW, hsame⟩ := X1.leave (v := some (.ref k_WORD)) (fun h => by rw [Bd.returns] at h; cases h)
  refine ⟨_, _, pre0 _ ?_, hrun, hended, _, _, rfl, ?_, ⟨_, rfl⟩, hW, hsame.mono (by decide) (by decide)⟩
  · show Steps p.tables e below (s₁.setTop (mkF m 0 #[.val (.int p1)] [])) _
    refine XS.iloadN X0.here hx rfl (hb hby own_d_method_2_0) rfl ?_
    show Steps p.tables e below (s₁.setTop (mkF m 1 #[.val (.int p1)] [(.int p1)])) _
    refine XS.ifNo X0.here hx rfl (hb hby own_d_method_2_1) rfl ((if0 _ _).trans (teq hc1).2) ?_
    show Steps p.tables e below (s₁.setTop (mkF m 4 #[.val (.int p1)] [])) _
    refine st1 _ ?_
    show Steps p.tables e below (T1.setTop (mkF m 7 #[.val (.int p1)] [(.ref k_WORD)])) _
    jvm_step X1.here [X1.here.top, hx, (hb hby own_d_method_2_7), X1.method', Bd.returns, Value.isRef, FieldType.isReference]
    first | (intro acts; rw [hr _ acts rfl rfl rfl]) | rw [hr _ _ rfl rfl rfl]
    exact Steps.refl _
  · show own_Qrm_kind0 Z G1 k_WORD k_STRING k_STRING_START k_STRING_MIDDLE k_STRING_END k_SYMBOL k_END p1 h0 n0 _ T1.heap _
    rw [e1]
    exact ⟨rfl, N0, rfl⟩
theorem own_d_method_2_8 : decode method_2_code 8 = .ok (.iload_n 0, 1) := by decide +kernel
theorem own_d_method_2_9 : decode method_2_code 9 = .ok (.iconst 1, 1) := by decide +kernel
theorem own_d_method_2_10 : decode method_2_code 10 = .ok (.if_icmp .ne 7, 3) := by decide +kernel
theorem own_d_method_2_13 : decode method_2_code 13 = .ok (.getstatic 13, 3) := by decide +kernel
theorem own_d_method_2_16 : decode method_2_code 16 = .ok (.areturn, 1) := by decide +kernel
def own_Qrm_kind1 (Z : State) (G1 : Int32) (k_WORD : Addr) (k_STRING : Addr) (k_STRING_START : Addr) (k_STRING_MIDDLE : Addr) (k_STRING_END : Addr) (k_SYMBOL : Addr) (k_END : Addr) (p1 : Int32) (h0 : Heap) (n0 : Nat) (v : Option Value) (h : Heap) (L : List Loc) : Prop := (v = some (.ref k_STRING)) ∧ (Fr n0 L) ∧ (h = h0)
theorem own_efrm_kind1 (m : MethodId) (p1 : Int32) : entryFrame m #[(.int p1)] 1 = mkF m 0 #[.val (.int p1)] [] := by first | (simp [entryFrame, mkF, argsToLocals, Value.category]; done) | rfl
set_option maxRecDepth 65536 in
set_option maxHeartbeats 40000000 in
theorem own_rm_kind1 (l : Launch) (Z : State) (a0 : Array Value) (hw : ∀ d ∈ tables_1, d.before a0 Z = true) (ws : List Jvm.Cond) (G1 : Int32) (k_WORD : Addr) (k_STRING : Addr) (k_STRING_START : Addr) (k_STRING_MIDDLE : Addr) (k_STRING_END : Addr) (k_SYMBOL : Addr) (k_END : Addr) (gl : own_Glob Z G1 k_WORD k_STRING k_STRING_START k_STRING_MIDDLE k_STRING_END k_SYMBOL k_END) (p1 : Int32) (h0 : Heap) (n0 : Nat) (Z0 : n0 ≤ h0.size) (X00 : Old Z n0 h0) (hc1 : ¬ (p1 = (0 : Int32))) (hc2 : p1 = (1 : Int32)) :
    MetFree l (⟨"com/example/mudwright/mudwright/TokenIsAfterValuePinLaw", "kindOf", "(I)Lcom/example/mudwright/mudwright/Token$Kind;"⟩ : MethodName) (head1 (Jvm.Cond.code (⟨"com/example/mudwright/mudwright/TokenIsAfterValuePinLaw", "kindOf", "(I)Lcom/example/mudwright/mudwright/Token$Kind;"⟩ : MethodName) method_2_code 1 (some (.object "com/example/mudwright/mudwright/Token$Kind")) :: ws) ({ frames := 0, cells := 0, slots := 0, locals := 0 } : Room)) (fun a U => a = #[(.int p1)] ∧ Z.Warmed39 U.vm ∧ U.heap = h0) (fun _ _ _ _ _ => True) (fun _ U o U' => ∃ v L, o = .returned v ∧ own_Qrm_kind1 Z G1 k_WORD k_STRING k_STRING_START k_STRING_MIDDLE k_STRING_END k_SYMBOL k_END p1 h0 n0 v U'.heap L ∧ FrameEnd U o U' L ({ frames := 0, cells := 0, slots := 0, locals := 0 } : Room).cells ({ frames := 0, cells := 0, slots := 0, locals := 0 } : Room).slots) := by
  refine MetFree.of_bodySF (plainFor_of_name own_pn0) hisR ?_
  intro p e s m args below meth c s₁ Bd hml0 hP hK
  obtain ⟨rfl, hZ, hh⟩ := hP
  obtain ⟨O_CS, P_CS, O_WORD, E_WORD, O_STRING, E_STRING, O_STRING_START, E_STRING_START, O_STRING_MIDDLE, E_STRING_MIDDLE, O_STRING_END, E_STRING_END, O_SYMBOL, E_SYMBOL, O_END, E_END, ne_WORD_STRING_MIDDLE, ne_WORD_STRING_END, ne_STRING_STRING_MIDDLE, ne_STRING_STRING_END, ne_STRING_START_STRING_MIDDLE, ne_STRING_START_STRING_END, ne_STRING_MIDDLE_STRING_END, ne_SYMBOL_STRING_MIDDLE, ne_SYMBOL_STRING_END, ne_END_STRING_MIDDLE, ne_END_STRING_END⟩ := id gl
  have hx := Bd.exec
  have hby := Bd.bytes
  have hml : c.maxLocals = 1 := hml0
  have hown : s.vm.findClass "com/example/mudwright/mudwright/TokenIsAfterValuePinLaw" = some m.cls := findClass_of_methodNamed Bd.named
  have hnm := (name_of_methodNamed Bd.named Bd.method).1
  have X0 : Stand p l e ({ frames := 0, cells := 0, slots := 0, locals := 0 } : Room) s m #[(.int p1)] below meth c s₁ [] 0 0 := Stand.of_body Bd
  have e0 : s₁.heap = h0 := by rw [← hh, Bd.state]; rfl
  have N0 := Fr.nil n0
  have pre0 : ∀ t, Steps p.tables e below (s₁.setTop (mkF m 0 #[.val (.int p1)] [])) t → Steps p.tables e below (s₁.setTop (entryFrame m #[(.int p1)] 1)) t := fun t k => castTop (own_efrm_kind1 m p1) k
  obtain ⟨T1, X1, e1, st1⟩ := getS2 X0 hx hZ hown (host := "") (Or.inl (hw _ (List.mem_of_getElem? (i := 87) rfl))) Via.refl e0 (O_STRING.ext X00.2) (g := (mkF m 13 #[.val (.int p1)] [])) rfl (hb hby own_d_method_2_13)
  obtain ⟨fs, hr, hrun, hended, hW, hsame⟩ := X1.leave (v := some (.ref k_STRING)) (fun h => by rw [Bd.returns] at h; cases h)
  refine ⟨_, _, pre0 _ ?_, hrun, hended, _, _, rfl, ?_, ⟨_, rfl⟩, hW, hsame.mono (by decide) (by decide)⟩
  · show Steps p.tables e below (s₁.setTop (mkF m 0 #[.val (.int p1)] [])) _
    refine XS.iloadN X0.here hx rfl (hb hby own_d_method_2_0) rfl ?_
    show Steps p.tables e below (s₁.setTop (mkF m 1 #[.val (.int p1)] [(.int p1)])) _
    refine XS.ifYes X0.here hx rfl (pc0 := 1) (pc' := 8) rfl (hb hby own_d_method_2_1) rfl ((if0 _ _).trans (feq hc1).2) (by decide) (by decide) ?_
    show Steps p.tables e below (s₁.setTop (mkF m 8 #[.val (.int p1)] [])) _
    refine XS.iloadN X0.here hx rfl (hb hby own_d_method_2_8) rfl ?_
    show Steps p.tables e below (s₁.setTop (mkF m 9 #[.val (.int p1)] [(.int p1)])) _
    refine XS.iconst X0.here hx rfl (hb hby own_d_method_2_9) ?_
    show Steps p.tables e below (s₁.setTop (mkF m 10 #[.val (.int p1)] [(.int (1 : Int32)), (.int p1)])) _
    refine XS.icmpNo X0.here hx rfl (hb hby own_d_method_2_10) rfl (teq hc2).2 ?_
    show Steps p.tables e below (s₁.setTop (mkF m 13 #[.val (.int p1)] [])) _
    refine st1 _ ?_
    show Steps p.tables e below (T1.setTop (mkF m 16 #[.val (.int p1)] [(.ref k_STRING)])) _
    jvm_step X1.here [X1.here.top, hx, (hb hby own_d_method_2_16), X1.method', Bd.returns, Value.isRef, FieldType.isReference]
    first | (intro acts; rw [hr _ acts rfl rfl rfl]) | rw [hr _ _ rfl rfl rfl]
    exact Steps.refl _
  · show own_Qrm_kind1 Z G1 k_WORD k_STRING k_STRING_START k_STRING_MIDDLE k_STRING_END k_SYMBOL k_END p1 h0 n0 _ T1.heap _
    rw [e1]
    exact ⟨rfl, N0, rfl⟩
theorem own_d_method_2_17 : decode method_2_code 17 = .ok (.iload_n 0, 1) := by decide +kernel
theorem own_d_method_2_18 : decode method_2_code 18 = .ok (.iconst 2, 1) := by decide +kernel
theorem own_d_method_2_19 : decode method_2_code 19 = .ok (.if_icmp .ne 7, 3) := by decide +kernel
theorem own_d_method_2_22 : decode method_2_code 22 = .ok (.getstatic 16, 3) := by decide +kernel
theorem own_d_method_2_25 : decode method_2_code 25 = .ok (.areturn, 1) := by decide +kernel
def own_Qrm_kind2 (Z : State) (G1 : Int32) (k_WORD : Addr) (k_STRING : Addr) (k_STRING_START : Addr) (k_STRING_MIDDLE : Addr) (k_STRING_END : Addr) (k_SYMBOL : Addr) (k_END : Addr) (p1 : Int32) (h0 : Heap) (n0 : Nat) (v : Option Value) (h : Heap) (L : List Loc) : Prop := (v = some (.ref k_STRING_START)) ∧ (Fr n0 L) ∧ (h = h0)
theorem own_efrm_kind2 (m : MethodId) (p1 : Int32) : entryFrame m #[(.int p1)] 1 = mkF m 0 #[.val (.int p1)] [] := by first | (simp [entryFrame, mkF, argsToLocals, Value.category]; done) | rfl
set_option maxRecDepth 65536 in
set_option maxHeartbeats 40000000 in
theorem own_rm_kind2 (l : Launch) (Z : State) (a0 : Array Value) (hw : ∀ d ∈ tables_1, d.before a0 Z = true) (ws : List Jvm.Cond) (G1 : Int32) (k_WORD : Addr) (k_STRING : Addr) (k_STRING_START : Addr) (k_STRING_MIDDLE : Addr) (k_STRING_END : Addr) (k_SYMBOL : Addr) (k_END : Addr) (gl : own_Glob Z G1 k_WORD k_STRING k_STRING_START k_STRING_MIDDLE k_STRING_END k_SYMBOL k_END) (p1 : Int32) (h0 : Heap) (n0 : Nat) (Z0 : n0 ≤ h0.size) (X00 : Old Z n0 h0) (hc1 : ¬ (p1 = (0 : Int32))) (hc2 : ¬ (p1 = (1 : Int32))) (hc3 : p1 = (2 : Int32)) :
    MetFree l (⟨"com/example/mudwright/mudwright/TokenIsAfterValuePinLaw", "kindOf", "(I)Lcom/example/mudwright/mudwright/Token$Kind;"⟩ : MethodName) (head1 (Jvm.Cond.code (⟨"com/example/mudwright/mudwright/TokenIsAfterValuePinLaw", "kindOf", "(I)Lcom/example/mudwright/mudwright/Token$Kind;"⟩ : MethodName) method_2_code 1 (some (.object "com/example/mudwright/mudwright/Token$Kind")) :: ws) ({ frames := 0, cells := 0, slots := 0, locals := 0 } : Room)) (fun a U => a = #[(.int p1)] ∧ Z.Warmed39 U.vm ∧ U.heap = h0) (fun _ _ _ _ _ => True) (fun _ U o U' => ∃ v L, o = .returned v ∧ own_Qrm_kind2 Z G1 k_WORD k_STRING k_STRING_START k_STRING_MIDDLE k_STRING_END k_SYMBOL k_END p1 h0 n0 v U'.heap L ∧ FrameEnd U o U' L ({ frames := 0, cells := 0, slots := 0, locals := 0 } : Room).cells ({ frames := 0, cells := 0, slots := 0, locals := 0 } : Room).slots) := by
  refine MetFree.of_bodySF (plainFor_of_name own_pn0) hisR ?_
  intro p e s m args below meth c s₁ Bd hml0 hP hK
  obtain ⟨rfl, hZ, hh⟩ := hP
  obtain ⟨O_CS, P_CS, O_WORD, E_WORD, O_STRING, E_STRING, O_STRING_START, E_STRING_START, O_STRING_MIDDLE, E_STRING_MIDDLE, O_STRING_END, E_STRING_END, O_SYMBOL, E_SYMBOL, O_END, E_END, ne_WORD_STRING_MIDDLE, ne_WORD_STRING_END, ne_STRING_STRING_MIDDLE, ne_STRING_STRING_END, ne_STRING_START_STRING_MIDDLE, ne_STRING_START_STRING_END, ne_STRING_MIDDLE_STRING_END, ne_SYMBOL_STRING_MIDDLE, ne_SYMBOL_STRING_END, ne_END_STRING_MIDDLE, ne_END_STRING_END⟩ := id gl
  have hx := Bd.exec
  have hby := Bd.bytes
  have hml : c.maxLocals = 1 := hml0
  have hown : s.vm.findClass "com/example/mudwright/mudwright/TokenIsAfterValuePinLaw" = some m.cls := findClass_of_methodNamed Bd.named
  have hnm := (name_of_methodNamed Bd.named Bd.method).1
  have X0 : Stand p l e ({ frames := 0, cells := 0, slots := 0, locals := 0 } : Room) s m #[(.int p1)] below meth c s₁ [] 0 0 := Stand.of_body Bd
  have e0 : s₁.heap = h0 := by rw [← hh, Bd.state]; rfl
  have N0 := Fr.nil n0
  have pre0 : ∀ t, Steps p.tables e below (s₁.setTop (mkF m 0 #[.val (.int p1)] [])) t → Steps p.tables e below (s₁.setTop (entryFrame m #[(.int p1)] 1)) t := fun t k => castTop (own_efrm_kind2 m p1) k
  obtain ⟨T1, X1, e1, st1⟩ := getS2 X0 hx hZ hown (host := "") (Or.inl (hw _ (List.mem_of_getElem? (i := 86) rfl))) Via.refl e0 (O_STRING_START.ext X00.2) (g := (mkF m 22 #[.val (.int p1)] [])) rfl (hb hby own_d_method_2_22)
  obtain ⟨fs, hr, hrun, hended, hW, hsame⟩ := X1.leave (v := some (.ref k_STRING_START)) (fun h => by rw [Bd.returns] at h; cases h)
  refine ⟨_, _, pre0 _ ?_, hrun, hended, _, _, rfl, ?_, ⟨_, rfl⟩, hW, hsame.mono (by decide) (by decide)⟩
  · show Steps p.tables e below (s₁.setTop (mkF m 0 #[.val (.int p1)] [])) _
    refine XS.iloadN X0.here hx rfl (hb hby own_d_method_2_0) rfl ?_
    show Steps p.tables e below (s₁.setTop (mkF m 1 #[.val (.int p1)] [(.int p1)])) _
    refine XS.ifYes X0.here hx rfl (pc0 := 1) (pc' := 8) rfl (hb hby own_d_method_2_1) rfl ((if0 _ _).trans (feq hc1).2) (by decide) (by decide) ?_
    show Steps p.tables e below (s₁.setTop (mkF m 8 #[.val (.int p1)] [])) _
    refine XS.iloadN X0.here hx rfl (hb hby own_d_method_2_8) rfl ?_
    show Steps p.tables e below (s₁.setTop (mkF m 9 #[.val (.int p1)] [(.int p1)])) _
    refine XS.iconst X0.here hx rfl (hb hby own_d_method_2_9) ?_
    show Steps p.tables e below (s₁.setTop (mkF m 10 #[.val (.int p1)] [(.int (1 : Int32)), (.int p1)])) _
    refine XS.icmpYes X0.here hx rfl (pc0 := 10) (pc' := 17) rfl (hb hby own_d_method_2_10) rfl (feq hc2).2 (by decide) (by decide) ?_
    show Steps p.tables e below (s₁.setTop (mkF m 17 #[.val (.int p1)] [])) _
    refine XS.iloadN X0.here hx rfl (hb hby own_d_method_2_17) rfl ?_
    show Steps p.tables e below (s₁.setTop (mkF m 18 #[.val (.int p1)] [(.int p1)])) _
    refine XS.iconst X0.here hx rfl (hb hby own_d_method_2_18) ?_
    show Steps p.tables e below (s₁.setTop (mkF m 19 #[.val (.int p1)] [(.int (2 : Int32)), (.int p1)])) _
    refine XS.icmpNo X0.here hx rfl (hb hby own_d_method_2_19) rfl (teq hc3).2 ?_
    show Steps p.tables e below (s₁.setTop (mkF m 22 #[.val (.int p1)] [])) _
    refine st1 _ ?_
    show Steps p.tables e below (T1.setTop (mkF m 25 #[.val (.int p1)] [(.ref k_STRING_START)])) _
    jvm_step X1.here [X1.here.top, hx, (hb hby own_d_method_2_25), X1.method', Bd.returns, Value.isRef, FieldType.isReference]
    first | (intro acts; rw [hr _ acts rfl rfl rfl]) | rw [hr _ _ rfl rfl rfl]
    exact Steps.refl _
  · show own_Qrm_kind2 Z G1 k_WORD k_STRING k_STRING_START k_STRING_MIDDLE k_STRING_END k_SYMBOL k_END p1 h0 n0 _ T1.heap _
    rw [e1]
    exact ⟨rfl, N0, rfl⟩
theorem own_d_method_2_26 : decode method_2_code 26 = .ok (.iload_n 0, 1) := by decide +kernel
theorem own_d_method_2_27 : decode method_2_code 27 = .ok (.iconst 3, 1) := by decide +kernel
theorem own_d_method_2_28 : decode method_2_code 28 = .ok (.if_icmp .ne 7, 3) := by decide +kernel
theorem own_d_method_2_31 : decode method_2_code 31 = .ok (.getstatic 19, 3) := by decide +kernel
theorem own_d_method_2_34 : decode method_2_code 34 = .ok (.areturn, 1) := by decide +kernel
def own_Qrm_kind3 (Z : State) (G1 : Int32) (k_WORD : Addr) (k_STRING : Addr) (k_STRING_START : Addr) (k_STRING_MIDDLE : Addr) (k_STRING_END : Addr) (k_SYMBOL : Addr) (k_END : Addr) (p1 : Int32) (h0 : Heap) (n0 : Nat) (v : Option Value) (h : Heap) (L : List Loc) : Prop := (v = some (.ref k_STRING_MIDDLE)) ∧ (Fr n0 L) ∧ (h = h0)
theorem own_efrm_kind3 (m : MethodId) (p1 : Int32) : entryFrame m #[(.int p1)] 1 = mkF m 0 #[.val (.int p1)] [] := by first | (simp [entryFrame, mkF, argsToLocals, Value.category]; done) | rfl
set_option maxRecDepth 65536 in
set_option maxHeartbeats 40000000 in
theorem own_rm_kind3 (l : Launch) (Z : State) (a0 : Array Value) (hw : ∀ d ∈ tables_1, d.before a0 Z = true) (ws : List Jvm.Cond) (G1 : Int32) (k_WORD : Addr) (k_STRING : Addr) (k_STRING_START : Addr) (k_STRING_MIDDLE : Addr) (k_STRING_END : Addr) (k_SYMBOL : Addr) (k_END : Addr) (gl : own_Glob Z G1 k_WORD k_STRING k_STRING_START k_STRING_MIDDLE k_STRING_END k_SYMBOL k_END) (p1 : Int32) (h0 : Heap) (n0 : Nat) (Z0 : n0 ≤ h0.size) (X00 : Old Z n0 h0) (hc1 : ¬ (p1 = (0 : Int32))) (hc2 : ¬ (p1 = (1 : Int32))) (hc3 : ¬ (p1 = (2 : Int32))) (hc4 : p1 = (3 : Int32)) :
    MetFree l (⟨"com/example/mudwright/mudwright/TokenIsAfterValuePinLaw", "kindOf", "(I)Lcom/example/mudwright/mudwright/Token$Kind;"⟩ : MethodName) (head1 (Jvm.Cond.code (⟨"com/example/mudwright/mudwright/TokenIsAfterValuePinLaw", "kindOf", "(I)Lcom/example/mudwright/mudwright/Token$Kind;"⟩ : MethodName) method_2_code 1 (some (.object "com/example/mudwright/mudwright/Token$Kind")) :: ws) ({ frames := 0, cells := 0, slots := 0, locals := 0 } : Room)) (fun a U => a = #[(.int p1)] ∧ Z.Warmed39 U.vm ∧ U.heap = h0) (fun _ _ _ _ _ => True) (fun _ U o U' => ∃ v L, o = .returned v ∧ own_Qrm_kind3 Z G1 k_WORD k_STRING k_STRING_START k_STRING_MIDDLE k_STRING_END k_SYMBOL k_END p1 h0 n0 v U'.heap L ∧ FrameEnd U o U' L ({ frames := 0, cells := 0, slots := 0, locals := 0 } : Room).cells ({ frames := 0, cells := 0, slots := 0, locals := 0 } : Room).slots) := by
  refine MetFree.of_bodySF (plainFor_of_name own_pn0) hisR ?_
  intro p e s m args below meth c s₁ Bd hml0 hP hK
  obtain ⟨rfl, hZ, hh⟩ := hP
  obtain ⟨O_CS, P_CS, O_WORD, E_WORD, O_STRING, E_STRING, O_STRING_START, E_STRING_START, O_STRING_MIDDLE, E_STRING_MIDDLE, O_STRING_END, E_STRING_END, O_SYMBOL, E_SYMBOL, O_END, E_END, ne_WORD_STRING_MIDDLE, ne_WORD_STRING_END, ne_STRING_STRING_MIDDLE, ne_STRING_STRING_END, ne_STRING_START_STRING_MIDDLE, ne_STRING_START_STRING_END, ne_STRING_MIDDLE_STRING_END, ne_SYMBOL_STRING_MIDDLE, ne_SYMBOL_STRING_END, ne_END_STRING_MIDDLE, ne_END_STRING_END⟩ := id gl
  have hx := Bd.exec
  have hby := Bd.bytes
  have hml : c.maxLocals = 1 := hml0
  have hown : s.vm.findClass "com/example/mudwright/mudwright/TokenIsAfterValuePinLaw" = some m.cls := findClass_of_methodNamed Bd.named
  have hnm := (name_of_methodNamed Bd.named Bd.method).1
  have X0 : Stand p l e ({ frames := 0, cells := 0, slots := 0, locals := 0 } : Room) s m #[(.int p1)] below meth c s₁ [] 0 0 := Stand.of_body Bd
  have e0 : s₁.heap = h0 := by rw [← hh, Bd.state]; rfl
  have N0 := Fr.nil n0
  have pre0 : ∀ t, Steps p.tables e below (s₁.setTop (mkF m 0 #[.val (.int p1)] [])) t → Steps p.tables e below (s₁.setTop (entryFrame m #[(.int p1)] 1)) t := fun t k => castTop (own_efrm_kind3 m p1) k
  obtain ⟨T1, X1, e1, st1⟩ := getS2 X0 hx hZ hown (host := "") (Or.inl (hw _ (List.mem_of_getElem? (i := 88) rfl))) Via.refl e0 (O_STRING_MIDDLE.ext X00.2) (g := (mkF m 31 #[.val (.int p1)] [])) rfl (hb hby own_d_method_2_31)
  obtain ⟨fs, hr, hrun, hended, hW, hsame⟩ := X1.leave (v := some (.ref k_STRING_MIDDLE)) (fun h => by rw [Bd.returns] at h; cases h)
  refine ⟨_, _, pre0 _ ?_, hrun, hended, _, _, rfl, ?_, ⟨_, rfl⟩, hW, hsame.mono (by decide) (by decide)⟩
  · show Steps p.tables e below (s₁.setTop (mkF m 0 #[.val (.int p1)] [])) _
    refine XS.iloadN X0.here hx rfl (hb hby own_d_method_2_0) rfl ?_
    show Steps p.tables e below (s₁.setTop (mkF m 1 #[.val (.int p1)] [(.int p1)])) _
    refine XS.ifYes X0.here hx rfl (pc0 := 1) (pc' := 8) rfl (hb hby own_d_method_2_1) rfl ((if0 _ _).trans (feq hc1).2) (by decide) (by decide) ?_
    show Steps p.tables e below (s₁.setTop (mkF m 8 #[.val (.int p1)] [])) _
    refine XS.iloadN X0.here hx rfl (hb hby own_d_method_2_8) rfl ?_
    show Steps p.tables e below (s₁.setTop (mkF m 9 #[.val (.int p1)] [(.int p1)])) _
    refine XS.iconst X0.here hx rfl (hb hby own_d_method_2_9) ?_
    show Steps p.tables e below (s₁.setTop (mkF m 10 #[.val (.int p1)] [(.int (1 : Int32)), (.int p1)])) _
    refine XS.icmpYes X0.here hx rfl (pc0 := 10) (pc' := 17) rfl (hb hby own_d_method_2_10) rfl (feq hc2).2 (by decide) (by decide) ?_
    show Steps p.tables e below (s₁.setTop (mkF m 17 #[.val (.int p1)] [])) _
    refine XS.iloadN X0.here hx rfl (hb hby own_d_method_2_17) rfl ?_
    show Steps p.tables e below (s₁.setTop (mkF m 18 #[.val (.int p1)] [(.int p1)])) _
    refine XS.iconst X0.here hx rfl (hb hby own_d_method_2_18) ?_
    show Steps p.tables e below (s₁.setTop (mkF m 19 #[.val (.int p1)] [(.int (2 : Int32)), (.int p1)])) _
    refine XS.icmpYes X0.here hx rfl (pc0 := 19) (pc' := 26) rfl (hb hby own_d_method_2_19) rfl (feq hc3).2 (by decide) (by decide) ?_
    show Steps p.tables e below (s₁.setTop (mkF m 26 #[.val (.int p1)] [])) _
    refine XS.iloadN X0.here hx rfl (hb hby own_d_method_2_26) rfl ?_
    show Steps p.tables e below (s₁.setTop (mkF m 27 #[.val (.int p1)] [(.int p1)])) _
    refine XS.iconst X0.here hx rfl (hb hby own_d_method_2_27) ?_
    show Steps p.tables e below (s₁.setTop (mkF m 28 #[.val (.int p1)] [(.int (3 : Int32)), (.int p1)])) _
    refine XS.icmpNo X0.here hx rfl (hb hby own_d_method_2_28) rfl (teq hc4).2 ?_
    show Steps p.tables e below (s₁.setTop (mkF m 31 #[.val (.int p1)] [])) _
    refine st1 _ ?_
    show Steps p.tables e below (T1.setTop (mkF m 34 #[.val (.int p1)] [(.ref k_STRING_MIDDLE)])) _
    jvm_step X1.here [X1.here.top, hx, (hb hby own_d_method_2_34), X1.method', Bd.returns, Value.isRef, FieldType.isReference]
    first | (intro acts; rw [hr _ acts rfl rfl rfl]) | rw [hr _ _ rfl rfl rfl]
    exact Steps.refl _
  · show own_Qrm_kind3 Z G1 k_WORD k_STRING k_STRING_START k_STRING_MIDDLE k_STRING_END k_SYMBOL k_END p1 h0 n0 _ T1.heap _
    rw [e1]
    exact ⟨rfl, N0, rfl⟩
theorem own_d_method_2_35 : decode method_2_code 35 = .ok (.iload_n 0, 1) := by decide +kernel
theorem own_d_method_2_36 : decode method_2_code 36 = .ok (.iconst 4, 1) := by decide +kernel
theorem own_d_method_2_37 : decode method_2_code 37 = .ok (.if_icmp .ne 7, 3) := by decide +kernel
theorem own_d_method_2_40 : decode method_2_code 40 = .ok (.getstatic 22, 3) := by decide +kernel
theorem own_d_method_2_43 : decode method_2_code 43 = .ok (.areturn, 1) := by decide +kernel
def own_Qrm_kind4 (Z : State) (G1 : Int32) (k_WORD : Addr) (k_STRING : Addr) (k_STRING_START : Addr) (k_STRING_MIDDLE : Addr) (k_STRING_END : Addr) (k_SYMBOL : Addr) (k_END : Addr) (p1 : Int32) (h0 : Heap) (n0 : Nat) (v : Option Value) (h : Heap) (L : List Loc) : Prop := (v = some (.ref k_STRING_END)) ∧ (Fr n0 L) ∧ (h = h0)
theorem own_efrm_kind4 (m : MethodId) (p1 : Int32) : entryFrame m #[(.int p1)] 1 = mkF m 0 #[.val (.int p1)] [] := by first | (simp [entryFrame, mkF, argsToLocals, Value.category]; done) | rfl
set_option maxRecDepth 65536 in
set_option maxHeartbeats 40000000 in
theorem own_rm_kind4 (l : Launch) (Z : State) (a0 : Array Value) (hw : ∀ d ∈ tables_1, d.before a0 Z = true) (ws : List Jvm.Cond) (G1 : Int32) (k_WORD : Addr) (k_STRING : Addr) (k_STRING_START : Addr) (k_STRING_MIDDLE : Addr) (k_STRING_END : Addr) (k_SYMBOL : Addr) (k_END : Addr) (gl : own_Glob Z G1 k_WORD k_STRING k_STRING_START k_STRING_MIDDLE k_STRING_END k_SYMBOL k_END) (p1 : Int32) (h0 : Heap) (n0 : Nat) (Z0 : n0 ≤ h0.size) (X00 : Old Z n0 h0) (hc1 : ¬ (p1 = (0 : Int32))) (hc2 : ¬ (p1 = (1 : Int32))) (hc3 : ¬ (p1 = (2 : Int32))) (hc4 : ¬ (p1 = (3 : Int32))) (hc5 : p1 = (4 : Int32)) :
    MetFree l (⟨"com/example/mudwright/mudwright/TokenIsAfterValuePinLaw", "kindOf", "(I)Lcom/example/mudwright/mudwright/Token$Kind;"⟩ : MethodName) (head1 (Jvm.Cond.code (⟨"com/example/mudwright/mudwright/TokenIsAfterValuePinLaw", "kindOf", "(I)Lcom/example/mudwright/mudwright/Token$Kind;"⟩ : MethodName) method_2_code 1 (some (.object "com/example/mudwright/mudwright/Token$Kind")) :: ws) ({ frames := 0, cells := 0, slots := 0, locals := 0 } : Room)) (fun a U => a = #[(.int p1)] ∧ Z.Warmed39 U.vm ∧ U.heap = h0) (fun _ _ _ _ _ => True) (fun _ U o U' => ∃ v L, o = .returned v ∧ own_Qrm_kind4 Z G1 k_WORD k_STRING k_STRING_START k_STRING_MIDDLE k_STRING_END k_SYMBOL k_END p1 h0 n0 v U'.heap L ∧ FrameEnd U o U' L ({ frames := 0, cells := 0, slots := 0, locals := 0 } : Room).cells ({ frames := 0, cells := 0, slots := 0, locals := 0 } : Room).slots) := by
  refine MetFree.of_bodySF (plainFor_of_name own_pn0) hisR ?_
  intro p e s m args below meth c s₁ Bd hml0 hP hK
  obtain ⟨rfl, hZ, hh⟩ := hP
  obtain ⟨O_CS, P_CS, O_WORD, E_WORD, O_STRING, E_STRING, O_STRING_START, E_STRING_START, O_STRING_MIDDLE, E_STRING_MIDDLE, O_STRING_END, E_STRING_END, O_SYMBOL, E_SYMBOL, O_END, E_END, ne_WORD_STRING_MIDDLE, ne_WORD_STRING_END, ne_STRING_STRING_MIDDLE, ne_STRING_STRING_END, ne_STRING_START_STRING_MIDDLE, ne_STRING_START_STRING_END, ne_STRING_MIDDLE_STRING_END, ne_SYMBOL_STRING_MIDDLE, ne_SYMBOL_STRING_END, ne_END_STRING_MIDDLE, ne_END_STRING_END⟩ := id gl
  have hx := Bd.exec
  have hby := Bd.bytes
  have hml : c.maxLocals = 1 := hml0
  have hown : s.vm.findClass "com/example/mudwright/mudwright/TokenIsAfterValuePinLaw" = some m.cls := findClass_of_methodNamed Bd.named
  have hnm := (name_of_methodNamed Bd.named Bd.method).1
  have X0 : Stand p l e ({ frames := 0, cells := 0, slots := 0, locals := 0 } : Room) s m #[(.int p1)] below meth c s₁ [] 0 0 := Stand.of_body Bd
  have e0 : s₁.heap = h0 := by rw [← hh, Bd.state]; rfl
  have N0 := Fr.nil n0
  have pre0 : ∀ t, Steps p.tables e below (s₁.setTop (mkF m 0 #[.val (.int p1)] [])) t → Steps p.tables e below (s₁.setTop (entryFrame m #[(.int p1)] 1)) t := fun t k => castTop (own_efrm_kind4 m p1) k
  obtain ⟨T1, X1, e1, st1⟩ := getS2 X0 hx hZ hown (host := "") (Or.inl (hw _ (List.mem_of_getElem? (i := 76) rfl))) Via.refl e0 (O_STRING_END.ext X00.2) (g := (mkF m 40 #[.val (.int p1)] [])) rfl (hb hby own_d_method_2_40)
  obtain ⟨fs, hr, hrun, hended, hW, hsame⟩ := X1.leave (v := some (.ref k_STRING_END)) (fun h => by rw [Bd.returns] at h; cases h)
  refine ⟨_, _, pre0 _ ?_, hrun, hended, _, _, rfl, ?_, ⟨_, rfl⟩, hW, hsame.mono (by decide) (by decide)⟩
  · show Steps p.tables e below (s₁.setTop (mkF m 0 #[.val (.int p1)] [])) _
    refine XS.iloadN X0.here hx rfl (hb hby own_d_method_2_0) rfl ?_
    show Steps p.tables e below (s₁.setTop (mkF m 1 #[.val (.int p1)] [(.int p1)])) _
    refine XS.ifYes X0.here hx rfl (pc0 := 1) (pc' := 8) rfl (hb hby own_d_method_2_1) rfl ((if0 _ _).trans (feq hc1).2) (by decide) (by decide) ?_
    show Steps p.tables e below (s₁.setTop (mkF m 8 #[.val (.int p1)] [])) _
    refine XS.iloadN X0.here hx rfl (hb hby own_d_method_2_8) rfl ?_
    show Steps p.tables e below (s₁.setTop (mkF m 9 #[.val (.int p1)] [(.int p1)])) _
    refine XS.iconst X0.here hx rfl (hb hby own_d_method_2_9) ?_
    show Steps p.tables e below (s₁.setTop (mkF m 10 #[.val (.int p1)] [(.int (1 : Int32)), (.int p1)])) _
    refine XS.icmpYes X0.here hx rfl (pc0 := 10) (pc' := 17) rfl (hb hby own_d_method_2_10) rfl (feq hc2).2 (by decide) (by decide) ?_
    show Steps p.tables e below (s₁.setTop (mkF m 17 #[.val (.int p1)] [])) _
    refine XS.iloadN X0.here hx rfl (hb hby own_d_method_2_17) rfl ?_
    show Steps p.tables e below (s₁.setTop (mkF m 18 #[.val (.int p1)] [(.int p1)])) _
    refine XS.iconst X0.here hx rfl (hb hby own_d_method_2_18) ?_
    show Steps p.tables e below (s₁.setTop (mkF m 19 #[.val (.int p1)] [(.int (2 : Int32)), (.int p1)])) _
    refine XS.icmpYes X0.here hx rfl (pc0 := 19) (pc' := 26) rfl (hb hby own_d_method_2_19) rfl (feq hc3).2 (by decide) (by decide) ?_
    show Steps p.tables e below (s₁.setTop (mkF m 26 #[.val (.int p1)] [])) _
    refine XS.iloadN X0.here hx rfl (hb hby own_d_method_2_26) rfl ?_
    show Steps p.tables e below (s₁.setTop (mkF m 27 #[.val (.int p1)] [(.int p1)])) _
    refine XS.iconst X0.here hx rfl (hb hby own_d_method_2_27) ?_
    show Steps p.tables e below (s₁.setTop (mkF m 28 #[.val (.int p1)] [(.int (3 : Int32)), (.int p1)])) _
    refine XS.icmpYes X0.here hx rfl (pc0 := 28) (pc' := 35) rfl (hb hby own_d_method_2_28) rfl (feq hc4).2 (by decide) (by decide) ?_
    show Steps p.tables e below (s₁.setTop (mkF m 35 #[.val (.int p1)] [])) _
    refine XS.iloadN X0.here hx rfl (hb hby own_d_method_2_35) rfl ?_
    show Steps p.tables e below (s₁.setTop (mkF m 36 #[.val (.int p1)] [(.int p1)])) _
    refine XS.iconst X0.here hx rfl (hb hby own_d_method_2_36) ?_
    show Steps p.tables e below (s₁.setTop (mkF m 37 #[.val (.int p1)] [(.int (4 : Int32)), (.int p1)])) _
    refine XS.icmpNo X0.here hx rfl (hb hby own_d_method_2_37) rfl (teq hc5).2 ?_
    show Steps p.tables e below (s₁.setTop (mkF m 40 #[.val (.int p1)] [])) _
    refine st1 _ ?_
    show Steps p.tables e below (T1.setTop (mkF m 43 #[.val (.int p1)] [(.ref k_STRING_END)])) _
    jvm_step X1.here [X1.here.top, hx, (hb hby own_d_method_2_43), X1.method', Bd.returns, Value.isRef, FieldType.isReference]
    first | (intro acts; rw [hr _ acts rfl rfl rfl]) | rw [hr _ _ rfl rfl rfl]
    exact Steps.refl _
  · show own_Qrm_kind4 Z G1 k_WORD k_STRING k_STRING_START k_STRING_MIDDLE k_STRING_END k_SYMBOL k_END p1 h0 n0 _ T1.heap _
    rw [e1]
    exact ⟨rfl, N0, rfl⟩
theorem own_d_method_2_44 : decode method_2_code 44 = .ok (.iload_n 0, 1) := by decide +kernel
theorem own_d_method_2_45 : decode method_2_code 45 = .ok (.iconst 5, 1) := by decide +kernel
theorem own_d_method_2_46 : decode method_2_code 46 = .ok (.if_icmp .ne 7, 3) := by decide +kernel
theorem own_d_method_2_49 : decode method_2_code 49 = .ok (.getstatic 25, 3) := by decide +kernel
theorem own_d_method_2_52 : decode method_2_code 52 = .ok (.areturn, 1) := by decide +kernel
def own_Qrm_kind5 (Z : State) (G1 : Int32) (k_WORD : Addr) (k_STRING : Addr) (k_STRING_START : Addr) (k_STRING_MIDDLE : Addr) (k_STRING_END : Addr) (k_SYMBOL : Addr) (k_END : Addr) (p1 : Int32) (h0 : Heap) (n0 : Nat) (v : Option Value) (h : Heap) (L : List Loc) : Prop := (v = some (.ref k_SYMBOL)) ∧ (Fr n0 L) ∧ (h = h0)
theorem own_efrm_kind5 (m : MethodId) (p1 : Int32) : entryFrame m #[(.int p1)] 1 = mkF m 0 #[.val (.int p1)] [] := by first | (simp [entryFrame, mkF, argsToLocals, Value.category]; done) | rfl
set_option maxRecDepth 65536 in
set_option maxHeartbeats 40000000 in
theorem own_rm_kind5 (l : Launch) (Z : State) (a0 : Array Value) (hw : ∀ d ∈ tables_1, d.before a0 Z = true) (ws : List Jvm.Cond) (G1 : Int32) (k_WORD : Addr) (k_STRING : Addr) (k_STRING_START : Addr) (k_STRING_MIDDLE : Addr) (k_STRING_END : Addr) (k_SYMBOL : Addr) (k_END : Addr) (gl : own_Glob Z G1 k_WORD k_STRING k_STRING_START k_STRING_MIDDLE k_STRING_END k_SYMBOL k_END) (p1 : Int32) (h0 : Heap) (n0 : Nat) (Z0 : n0 ≤ h0.size) (X00 : Old Z n0 h0) (hc1 : ¬ (p1 = (0 : Int32))) (hc2 : ¬ (p1 = (1 : Int32))) (hc3 : ¬ (p1 = (2 : Int32))) (hc4 : ¬ (p1 = (3 : Int32))) (hc5 : ¬ (p1 = (4 : Int32))) (hc6 : p1 = (5 : Int32)) :
    MetFree l (⟨"com/example/mudwright/mudwright/TokenIsAfterValuePinLaw", "kindOf", "(I)Lcom/example/mudwright/mudwright/Token$Kind;"⟩ : MethodName) (head1 (Jvm.Cond.code (⟨"com/example/mudwright/mudwright/TokenIsAfterValuePinLaw", "kindOf", "(I)Lcom/example/mudwright/mudwright/Token$Kind;"⟩ : MethodName) method_2_code 1 (some (.object "com/example/mudwright/mudwright/Token$Kind")) :: ws) ({ frames := 0, cells := 0, slots := 0, locals := 0 } : Room)) (fun a U => a = #[(.int p1)] ∧ Z.Warmed39 U.vm ∧ U.heap = h0) (fun _ _ _ _ _ => True) (fun _ U o U' => ∃ v L, o = .returned v ∧ own_Qrm_kind5 Z G1 k_WORD k_STRING k_STRING_START k_STRING_MIDDLE k_STRING_END k_SYMBOL k_END p1 h0 n0 v U'.heap L ∧ FrameEnd U o U' L ({ frames := 0, cells := 0, slots := 0, locals := 0 } : Room).cells ({ frames := 0, cells := 0, slots := 0, locals := 0 } : Room).slots) := by
  refine MetFree.of_bodySF (plainFor_of_name own_pn0) hisR ?_
  intro p e s m args below meth c s₁ Bd hml0 hP hK
  obtain ⟨rfl, hZ, hh⟩ := hP
  obtain ⟨O_CS, P_CS, O_WORD, E_WORD, O_STRING, E_STRING, O_STRING_START, E_STRING_START, O_STRING_MIDDLE, E_STRING_MIDDLE, O_STRING_END, E_STRING_END, O_SYMBOL, E_SYMBOL, O_END, E_END, ne_WORD_STRING_MIDDLE, ne_WORD_STRING_END, ne_STRING_STRING_MIDDLE, ne_STRING_STRING_END, ne_STRING_START_STRING_MIDDLE, ne_STRING_START_STRING_END, ne_STRING_MIDDLE_STRING_END, ne_SYMBOL_STRING_MIDDLE, ne_SYMBOL_STRING_END, ne_END_STRING_MIDDLE, ne_END_STRING_END⟩ := id gl
  have hx := Bd.exec
  have hby := Bd.bytes
  have hml : c.maxLocals = 1 := hml0
  have hown : s.vm.findClass "com/example/mudwright/mudwright/TokenIsAfterValuePinLaw" = some m.cls := findClass_of_methodNamed Bd.named
  have hnm := (name_of_methodNamed Bd.named Bd.method).1
  have X0 : Stand p l e ({ frames := 0, cells := 0, slots := 0, locals := 0 } : Room) s m #[(.int p1)] below meth c s₁ [] 0 0 := Stand.of_body Bd
  have e0 : s₁.heap = h0 := by rw [← hh, Bd.state]; rfl
  have N0 := Fr.nil n0
  have pre0 : ∀ t, Steps p.tables e below (s₁.setTop (mkF m 0 #[.val (.int p1)] [])) t → Steps p.tables e below (s₁.setTop (entryFrame m #[(.int p1)] 1)) t := fun t k => castTop (own_efrm_kind5 m p1) k
  obtain ⟨T1, X1, e1, st1⟩ := getS2 X0 hx hZ hown (host := "") (Or.inl (hw _ (List.mem_of_getElem? (i := 91) rfl))) Via.refl e0 (O_SYMBOL.ext X00.2) (g := (mkF m 49 #[.val (.int p1)] [])) rfl (hb hby own_d_method_2_49)
  obtain ⟨fs, hr, hrun, hended, hW, hsame⟩ := X1.leave (v := some (.ref k_SYMBOL)) (fun h => by rw [Bd.returns] at h; cases h)
  refine ⟨_, _, pre0 _ ?_, hrun, hended, _, _, rfl, ?_, ⟨_, rfl⟩, hW, hsame.mono (by decide) (by decide)⟩
  · show Steps p.tables e below (s₁.setTop (mkF m 0 #[.val (.int p1)] [])) _
    refine XS.iloadN X0.here hx rfl (hb hby own_d_method_2_0) rfl ?_
    show Steps p.tables e below (s₁.setTop (mkF m 1 #[.val (.int p1)] [(.int p1)])) _
    refine XS.ifYes X0.here hx rfl (pc0 := 1) (pc' := 8) rfl (hb hby own_d_method_2_1) rfl ((if0 _ _).trans (feq hc1).2) (by decide) (by decide) ?_
    show Steps p.tables e below (s₁.setTop (mkF m 8 #[.val (.int p1)] [])) _
    refine XS.iloadN X0.here hx rfl (hb hby own_d_method_2_8) rfl ?_
    show Steps p.tables e below (s₁.setTop (mkF m 9 #[.val (.int p1)] [(.int p1)])) _
    refine XS.iconst X0.here hx rfl (hb hby own_d_method_2_9) ?_
    show Steps p.tables e below (s₁.setTop (mkF m 10 #[.val (.int p1)] [(.int (1 : Int32)), (.int p1)])) _
    refine XS.icmpYes X0.here hx rfl (pc0 := 10) (pc' := 17) rfl (hb hby own_d_method_2_10) rfl (feq hc2).2 (by decide) (by decide) ?_
    show Steps p.tables e below (s₁.setTop (mkF m 17 #[.val (.int p1)] [])) _
    refine XS.iloadN X0.here hx rfl (hb hby own_d_method_2_17) rfl ?_
    show Steps p.tables e below (s₁.setTop (mkF m 18 #[.val (.int p1)] [(.int p1)])) _
    refine XS.iconst X0.here hx rfl (hb hby own_d_method_2_18) ?_
    show Steps p.tables e below (s₁.setTop (mkF m 19 #[.val (.int p1)] [(.int (2 : Int32)), (.int p1)])) _
    refine XS.icmpYes X0.here hx rfl (pc0 := 19) (pc' := 26) rfl (hb hby own_d_method_2_19) rfl (feq hc3).2 (by decide) (by decide) ?_
    show Steps p.tables e below (s₁.setTop (mkF m 26 #[.val (.int p1)] [])) _
    refine XS.iloadN X0.here hx rfl (hb hby own_d_method_2_26) rfl ?_
    show Steps p.tables e below (s₁.setTop (mkF m 27 #[.val (.int p1)] [(.int p1)])) _
    refine XS.iconst X0.here hx rfl (hb hby own_d_method_2_27) ?_
    show Steps p.tables e below (s₁.setTop (mkF m 28 #[.val (.int p1)] [(.int (3 : Int32)), (.int p1)])) _
    refine XS.icmpYes X0.here hx rfl (pc0 := 28) (pc' := 35) rfl (hb hby own_d_method_2_28) rfl (feq hc4).2 (by decide) (by decide) ?_
    show Steps p.tables e below (s₁.setTop (mkF m 35 #[.val (.int p1)] [])) _
    refine XS.iloadN X0.here hx rfl (hb hby own_d_method_2_35) rfl ?_
    show Steps p.tables e below (s₁.setTop (mkF m 36 #[.val (.int p1)] [(.int p1)])) _
    refine XS.iconst X0.here hx rfl (hb hby own_d_method_2_36) ?_
    show Steps p.tables e below (s₁.setTop (mkF m 37 #[.val (.int p1)] [(.int (4 : Int32)), (.int p1)])) _
    refine XS.icmpYes X0.here hx rfl (pc0 := 37) (pc' := 44) rfl (hb hby own_d_method_2_37) rfl (feq hc5).2 (by decide) (by decide) ?_
    show Steps p.tables e below (s₁.setTop (mkF m 44 #[.val (.int p1)] [])) _
    refine XS.iloadN X0.here hx rfl (hb hby own_d_method_2_44) rfl ?_
    show Steps p.tables e below (s₁.setTop (mkF m 45 #[.val (.int p1)] [(.int p1)])) _
    refine XS.iconst X0.here hx rfl (hb hby own_d_method_2_45) ?_
    show Steps p.tables e below (s₁.setTop (mkF m 46 #[.val (.int p1)] [(.int (5 : Int32)), (.int p1)])) _
    refine XS.icmpNo X0.here hx rfl (hb hby own_d_method_2_46) rfl (teq hc6).2 ?_
    show Steps p.tables e below (s₁.setTop (mkF m 49 #[.val (.int p1)] [])) _
    refine st1 _ ?_
    show Steps p.tables e below (T1.setTop (mkF m 52 #[.val (.int p1)] [(.ref k_SYMBOL)])) _
    jvm_step X1.here [X1.here.top, hx, (hb hby own_d_method_2_52), X1.method', Bd.returns, Value.isRef, FieldType.isReference]
    first | (intro acts; rw [hr _ acts rfl rfl rfl]) | rw [hr _ _ rfl rfl rfl]
    exact Steps.refl _
  · show own_Qrm_kind5 Z G1 k_WORD k_STRING k_STRING_START k_STRING_MIDDLE k_STRING_END k_SYMBOL k_END p1 h0 n0 _ T1.heap _
    rw [e1]
    exact ⟨rfl, N0, rfl⟩
theorem own_d_method_2_53 : decode method_2_code 53 = .ok (.getstatic 28, 3) := by decide +kernel
theorem own_d_method_2_56 : decode method_2_code 56 = .ok (.areturn, 1) := by decide +kernel
def own_Qrm_kind6 (Z : State) (G1 : Int32) (k_WORD : Addr) (k_STRING : Addr) (k_STRING_START : Addr) (k_STRING_MIDDLE : Addr) (k_STRING_END : Addr) (k_SYMBOL : Addr) (k_END : Addr) (p1 : Int32) (h0 : Heap) (n0 : Nat) (v : Option Value) (h : Heap) (L : List Loc) : Prop := (v = some (.ref k_END)) ∧ (Fr n0 L) ∧ (h = h0)
theorem own_efrm_kind6 (m : MethodId) (p1 : Int32) : entryFrame m #[(.int p1)] 1 = mkF m 0 #[.val (.int p1)] [] := by first | (simp [entryFrame, mkF, argsToLocals, Value.category]; done) | rfl
set_option maxRecDepth 65536 in
set_option maxHeartbeats 40000000 in
theorem own_rm_kind6 (l : Launch) (Z : State) (a0 : Array Value) (hw : ∀ d ∈ tables_1, d.before a0 Z = true) (ws : List Jvm.Cond) (G1 : Int32) (k_WORD : Addr) (k_STRING : Addr) (k_STRING_START : Addr) (k_STRING_MIDDLE : Addr) (k_STRING_END : Addr) (k_SYMBOL : Addr) (k_END : Addr) (gl : own_Glob Z G1 k_WORD k_STRING k_STRING_START k_STRING_MIDDLE k_STRING_END k_SYMBOL k_END) (p1 : Int32) (h0 : Heap) (n0 : Nat) (Z0 : n0 ≤ h0.size) (X00 : Old Z n0 h0) (hc1 : ¬ (p1 = (0 : Int32))) (hc2 : ¬ (p1 = (1 : Int32))) (hc3 : ¬ (p1 = (2 : Int32))) (hc4 : ¬ (p1 = (3 : Int32))) (hc5 : ¬ (p1 = (4 : Int32))) (hc6 : ¬ (p1 = (5 : Int32))) :
    MetFree l (⟨"com/example/mudwright/mudwright/TokenIsAfterValuePinLaw", "kindOf", "(I)Lcom/example/mudwright/mudwright/Token$Kind;"⟩ : MethodName) (head1 (Jvm.Cond.code (⟨"com/example/mudwright/mudwright/TokenIsAfterValuePinLaw", "kindOf", "(I)Lcom/example/mudwright/mudwright/Token$Kind;"⟩ : MethodName) method_2_code 1 (some (.object "com/example/mudwright/mudwright/Token$Kind")) :: ws) ({ frames := 0, cells := 0, slots := 0, locals := 0 } : Room)) (fun a U => a = #[(.int p1)] ∧ Z.Warmed39 U.vm ∧ U.heap = h0) (fun _ _ _ _ _ => True) (fun _ U o U' => ∃ v L, o = .returned v ∧ own_Qrm_kind6 Z G1 k_WORD k_STRING k_STRING_START k_STRING_MIDDLE k_STRING_END k_SYMBOL k_END p1 h0 n0 v U'.heap L ∧ FrameEnd U o U' L ({ frames := 0, cells := 0, slots := 0, locals := 0 } : Room).cells ({ frames := 0, cells := 0, slots := 0, locals := 0 } : Room).slots) := by
  refine MetFree.of_bodySF (plainFor_of_name own_pn0) hisR ?_
  intro p e s m args below meth c s₁ Bd hml0 hP hK
  obtain ⟨rfl, hZ, hh⟩ := hP
  obtain ⟨O_CS, P_CS, O_WORD, E_WORD, O_STRING, E_STRING, O_STRING_START, E_STRING_START, O_STRING_MIDDLE, E_STRING_MIDDLE, O_STRING_END, E_STRING_END, O_SYMBOL, E_SYMBOL, O_END, E_END, ne_WORD_STRING_MIDDLE, ne_WORD_STRING_END, ne_STRING_STRING_MIDDLE, ne_STRING_STRING_END, ne_STRING_START_STRING_MIDDLE, ne_STRING_START_STRING_END, ne_STRING_MIDDLE_STRING_END, ne_SYMBOL_STRING_MIDDLE, ne_SYMBOL_STRING_END, ne_END_STRING_MIDDLE, ne_END_STRING_END⟩ := id gl
  have hx := Bd.exec
  have hby := Bd.bytes
  have hml : c.maxLocals = 1 := hml0
  have hown : s.vm.findClass "com/example/mudwright/mudwright/TokenIsAfterValuePinLaw" = some m.cls := findClass_of_methodNamed Bd.named
  have hnm := (name_of_methodNamed Bd.named Bd.method).1
  have X0 : Stand p l e ({ frames := 0, cells := 0, slots := 0, locals := 0 } : Room) s m #[(.int p1)] below meth c s₁ [] 0 0 := Stand.of_body Bd
  have e0 : s₁.heap = h0 := by rw [← hh, Bd.state]; rfl
  have N0 := Fr.nil n0
  have pre0 : ∀ t, Steps p.tables e below (s₁.setTop (mkF m 0 #[.val (.int p1)] [])) t → Steps p.tables e below (s₁.setTop (entryFrame m #[(.int p1)] 1)) t := fun t k => castTop (own_efrm_kind6 m p1) k
  obtain ⟨T1, X1, e1, st1⟩ := getS2 X0 hx hZ hown (host := "") (Or.inl (hw _ (List.mem_of_getElem? (i := 89) rfl))) Via.refl e0 (O_END.ext X00.2) (g := (mkF m 53 #[.val (.int p1)] [])) rfl (hb hby own_d_method_2_53)
  obtain ⟨fs, hr, hrun, hended, hW, hsame⟩ := X1.leave (v := some (.ref k_END)) (fun h => by rw [Bd.returns] at h; cases h)
  refine ⟨_, _, pre0 _ ?_, hrun, hended, _, _, rfl, ?_, ⟨_, rfl⟩, hW, hsame.mono (by decide) (by decide)⟩
  · show Steps p.tables e below (s₁.setTop (mkF m 0 #[.val (.int p1)] [])) _
    refine XS.iloadN X0.here hx rfl (hb hby own_d_method_2_0) rfl ?_
    show Steps p.tables e below (s₁.setTop (mkF m 1 #[.val (.int p1)] [(.int p1)])) _
    refine XS.ifYes X0.here hx rfl (pc0 := 1) (pc' := 8) rfl (hb hby own_d_method_2_1) rfl ((if0 _ _).trans (feq hc1).2) (by decide) (by decide) ?_
    show Steps p.tables e below (s₁.setTop (mkF m 8 #[.val (.int p1)] [])) _
    refine XS.iloadN X0.here hx rfl (hb hby own_d_method_2_8) rfl ?_
    show Steps p.tables e below (s₁.setTop (mkF m 9 #[.val (.int p1)] [(.int p1)])) _
    refine XS.iconst X0.here hx rfl (hb hby own_d_method_2_9) ?_
    show Steps p.tables e below (s₁.setTop (mkF m 10 #[.val (.int p1)] [(.int (1 : Int32)), (.int p1)])) _
    refine XS.icmpYes X0.here hx rfl (pc0 := 10) (pc' := 17) rfl (hb hby own_d_method_2_10) rfl (feq hc2).2 (by decide) (by decide) ?_
    show Steps p.tables e below (s₁.setTop (mkF m 17 #[.val (.int p1)] [])) _
    refine XS.iloadN X0.here hx rfl (hb hby own_d_method_2_17) rfl ?_
    show Steps p.tables e below (s₁.setTop (mkF m 18 #[.val (.int p1)] [(.int p1)])) _
    refine XS.iconst X0.here hx rfl (hb hby own_d_method_2_18) ?_
    show Steps p.tables e below (s₁.setTop (mkF m 19 #[.val (.int p1)] [(.int (2 : Int32)), (.int p1)])) _
    refine XS.icmpYes X0.here hx rfl (pc0 := 19) (pc' := 26) rfl (hb hby own_d_method_2_19) rfl (feq hc3).2 (by decide) (by decide) ?_
    show Steps p.tables e below (s₁.setTop (mkF m 26 #[.val (.int p1)] [])) _
    refine XS.iloadN X0.here hx rfl (hb hby own_d_method_2_26) rfl ?_
    show Steps p.tables e below (s₁.setTop (mkF m 27 #[.val (.int p1)] [(.int p1)])) _
    refine XS.iconst X0.here hx rfl (hb hby own_d_method_2_27) ?_
    show Steps p.tables e below (s₁.setTop (mkF m 28 #[.val (.int p1)] [(.int (3 : Int32)), (.int p1)])) _
    refine XS.icmpYes X0.here hx rfl (pc0 := 28) (pc' := 35) rfl (hb hby own_d_method_2_28) rfl (feq hc4).2 (by decide) (by decide) ?_
    show Steps p.tables e below (s₁.setTop (mkF m 35 #[.val (.int p1)] [])) _
    refine XS.iloadN X0.here hx rfl (hb hby own_d_method_2_35) rfl ?_
    show Steps p.tables e below (s₁.setTop (mkF m 36 #[.val (.int p1)] [(.int p1)])) _
    refine XS.iconst X0.here hx rfl (hb hby own_d_method_2_36) ?_
    show Steps p.tables e below (s₁.setTop (mkF m 37 #[.val (.int p1)] [(.int (4 : Int32)), (.int p1)])) _
    refine XS.icmpYes X0.here hx rfl (pc0 := 37) (pc' := 44) rfl (hb hby own_d_method_2_37) rfl (feq hc5).2 (by decide) (by decide) ?_
    show Steps p.tables e below (s₁.setTop (mkF m 44 #[.val (.int p1)] [])) _
    refine XS.iloadN X0.here hx rfl (hb hby own_d_method_2_44) rfl ?_
    show Steps p.tables e below (s₁.setTop (mkF m 45 #[.val (.int p1)] [(.int p1)])) _
    refine XS.iconst X0.here hx rfl (hb hby own_d_method_2_45) ?_
    show Steps p.tables e below (s₁.setTop (mkF m 46 #[.val (.int p1)] [(.int (5 : Int32)), (.int p1)])) _
    refine XS.icmpYes X0.here hx rfl (pc0 := 46) (pc' := 53) rfl (hb hby own_d_method_2_46) rfl (feq hc6).2 (by decide) (by decide) ?_
    show Steps p.tables e below (s₁.setTop (mkF m 53 #[.val (.int p1)] [])) _
    refine st1 _ ?_
    show Steps p.tables e below (T1.setTop (mkF m 56 #[.val (.int p1)] [(.ref k_END)])) _
    jvm_step X1.here [X1.here.top, hx, (hb hby own_d_method_2_56), X1.method', Bd.returns, Value.isRef, FieldType.isReference]
    first | (intro acts; rw [hr _ acts rfl rfl rfl]) | rw [hr _ _ rfl rfl rfl]
    exact Steps.refl _
  · show own_Qrm_kind6 Z G1 k_WORD k_STRING k_STRING_START k_STRING_MIDDLE k_STRING_END k_SYMBOL k_END p1 h0 n0 _ T1.heap _
    rw [e1]
    exact ⟨rfl, N0, rfl⟩
def own_Qkind (kM kE : Addr) (h0 : Heap) (n0 : Nat) (v : Option Value) (h : Heap) (L : List Loc) : Prop := ∃ b : Addr, v = some (.ref b) ∧ Fr n0 L ∧ h = h0 ∧ b ≠ kM ∧ b ≠ kE
theorem own_rm_kindC (l : Launch) (Z : State) (a0 : Array Value) (hw : ∀ d ∈ tables_1, d.before a0 Z = true) (ws : List Jvm.Cond) (G1 : Int32) (k_WORD : Addr) (k_STRING : Addr) (k_STRING_START : Addr) (k_STRING_MIDDLE : Addr) (k_STRING_END : Addr) (k_SYMBOL : Addr) (k_END : Addr) (gl : own_Glob Z G1 k_WORD k_STRING k_STRING_START k_STRING_MIDDLE k_STRING_END k_SYMBOL k_END) (p1 : Int32) (h0 : Heap) (n0 : Nat) (Z0 : n0 ≤ h0.size) (X00 : Old Z n0 h0) (hc1 : ¬ (p1 = (3 : Int32))) (hc2 : ¬ (p1 = (4 : Int32))) :
    MetFree l (⟨"com/example/mudwright/mudwright/TokenIsAfterValuePinLaw", "kindOf", "(I)Lcom/example/mudwright/mudwright/Token$Kind;"⟩ : MethodName) (head1 (Jvm.Cond.code (⟨"com/example/mudwright/mudwright/TokenIsAfterValuePinLaw", "kindOf", "(I)Lcom/example/mudwright/mudwright/Token$Kind;"⟩ : MethodName) method_2_code 1 (some (.object "com/example/mudwright/mudwright/Token$Kind")) :: ws) ({ frames := 0, cells := 0, slots := 0, locals := 0 } : Room)) (fun a U => a = #[(.int p1)] ∧ Z.Warmed39 U.vm ∧ U.heap = h0) (fun _ _ _ _ _ => True) (fun _ U o U' => ∃ v L, o = .returned v ∧ own_Qkind k_STRING_MIDDLE k_STRING_END h0 n0 v U'.heap L ∧ FrameEnd U o U' L ({ frames := 0, cells := 0, slots := 0, locals := 0 } : Room).cells ({ frames := 0, cells := 0, slots := 0, locals := 0 } : Room).slots) := by
  obtain ⟨O_CS, P_CS, O_WORD, E_WORD, O_STRING, E_STRING, O_STRING_START, E_STRING_START, O_STRING_MIDDLE, E_STRING_MIDDLE, O_STRING_END, E_STRING_END, O_SYMBOL, E_SYMBOL, O_END, E_END, ne_WORD_STRING_MIDDLE, ne_WORD_STRING_END, ne_STRING_STRING_MIDDLE, ne_STRING_STRING_END, ne_STRING_START_STRING_MIDDLE, ne_STRING_START_STRING_END, ne_STRING_MIDDLE_STRING_END, ne_SYMBOL_STRING_MIDDLE, ne_SYMBOL_STRING_END, ne_END_STRING_MIDDLE, ne_END_STRING_END⟩ := id gl
  by_cases hx0 : p1 = (0 : Int32)
  · exact MetFree.imp (own_rm_kind0 l Z a0 hw ws G1 k_WORD k_STRING k_STRING_START k_STRING_MIDDLE k_STRING_END k_SYMBOL k_END gl p1 h0 n0 Z0 X00 hx0) (fun _ _ _ _ ⟨v, L, e1, q1, f1⟩ => ⟨v, L, e1, ⟨_, q1.1, q1.2.1, q1.2.2, ne_WORD_STRING_MIDDLE, ne_WORD_STRING_END⟩, f1⟩)
  · by_cases hx1 : p1 = (1 : Int32)
    · exact MetFree.imp (own_rm_kind1 l Z a0 hw ws G1 k_WORD k_STRING k_STRING_START k_STRING_MIDDLE k_STRING_END k_SYMBOL k_END gl p1 h0 n0 Z0 X00 hx0 hx1) (fun _ _ _ _ ⟨v, L, e1, q1, f1⟩ => ⟨v, L, e1, ⟨_, q1.1, q1.2.1, q1.2.2, ne_STRING_STRING_MIDDLE, ne_STRING_STRING_END⟩, f1⟩)
    · by_cases hx2 : p1 = (2 : Int32)
      · exact MetFree.imp (own_rm_kind2 l Z a0 hw ws G1 k_WORD k_STRING k_STRING_START k_STRING_MIDDLE k_STRING_END k_SYMBOL k_END gl p1 h0 n0 Z0 X00 hx0 hx1 hx2) (fun _ _ _ _ ⟨v, L, e1, q1, f1⟩ => ⟨v, L, e1, ⟨_, q1.1, q1.2.1, q1.2.2, ne_STRING_START_STRING_MIDDLE, ne_STRING_START_STRING_END⟩, f1⟩)
      · by_cases hx3 : p1 = (3 : Int32)
        · exact absurd hx3 hc1
        · by_cases hx4 : p1 = (4 : Int32)
          · exact absurd hx4 hc2
          · by_cases hx5 : p1 = (5 : Int32)
            · exact MetFree.imp (own_rm_kind5 l Z a0 hw ws G1 k_WORD k_STRING k_STRING_START k_STRING_MIDDLE k_STRING_END k_SYMBOL k_END gl p1 h0 n0 Z0 X00 hx0 hx1 hx2 hx3 hx4 hx5) (fun _ _ _ _ ⟨v, L, e1, q1, f1⟩ => ⟨v, L, e1, ⟨_, q1.1, q1.2.1, q1.2.2, ne_SYMBOL_STRING_MIDDLE, ne_SYMBOL_STRING_END⟩, f1⟩)
            · exact MetFree.imp (own_rm_kind6 l Z a0 hw ws G1 k_WORD k_STRING k_STRING_START k_STRING_MIDDLE k_STRING_END k_SYMBOL k_END gl p1 h0 n0 Z0 X00 hx0 hx1 hx2 hx3 hx4 hx5) (fun _ _ _ _ ⟨v, L, e1, q1, f1⟩ => ⟨v, L, e1, ⟨_, q1.1, q1.2.1, q1.2.2, ne_END_STRING_MIDDLE, ne_END_STRING_END⟩, f1⟩)
theorem own_d_jdk_30_method_1_0 : decode jdk_30_method_1_code 0 = .ok (.aload_n 0, 1) := by decide +kernel
theorem own_d_jdk_30_method_1_1 : decode jdk_30_method_1_code 1 = .ok (.invokespecial 1, 3) := by decide +kernel
theorem own_d_jdk_30_method_1_4 : decode jdk_30_method_1_code 4 = .ok (.return_, 1) := by decide +kernel
theorem own_pn1 : plainName "java/lang/Record" = true := by first | (simp [plainName, overriddenIn]; done) | decide +kernel
def own_Qrm_rec (Z : State) (G1 : Int32) (k_WORD : Addr) (k_STRING : Addr) (k_STRING_START : Addr) (k_STRING_MIDDLE : Addr) (k_STRING_END : Addr) (k_SYMBOL : Addr) (k_END : Addr) (a1 : Addr) (h0 : Heap) (n0 : Nat) (v : Option Value) (h : Heap) (L : List Loc) : Prop := (v = none) ∧ (Fr n0 L) ∧ (h = h0)
theorem own_efrm_rec (m : MethodId) (a1 : Addr) : entryFrame m #[(.ref a1)] 1 = mkF m 0 #[.val (.ref a1)] [] := by first | (simp [entryFrame, mkF, argsToLocals, Value.category]; done) | rfl
set_option maxRecDepth 65536 in
set_option maxHeartbeats 40000000 in
theorem own_rm_rec (l : Launch) (Z : State) (a0 : Array Value) (hw : ∀ d ∈ tables_1, d.before a0 Z = true) (ws : List Jvm.Cond) (G1 : Int32) (k_WORD : Addr) (k_STRING : Addr) (k_STRING_START : Addr) (k_STRING_MIDDLE : Addr) (k_STRING_END : Addr) (k_SYMBOL : Addr) (k_END : Addr) (gl : own_Glob Z G1 k_WORD k_STRING k_STRING_START k_STRING_MIDDLE k_STRING_END k_SYMBOL k_END) (a1 : Addr) (h0 : Heap) (n0 : Nat) (Z0 : n0 ≤ h0.size) :
    MetFree l (⟨"java/lang/Record", "<init>", "()V"⟩ : MethodName) (head1 (Jvm.Cond.code (⟨"java/lang/Record", "<init>", "()V"⟩ : MethodName) jdk_30_method_1_code 1 none :: ws) ({ frames := 1, cells := 0, slots := 0, locals := 12 } : Room)) (fun a U => a = #[(.ref a1)] ∧ Z.Warmed39 U.vm ∧ U.heap = h0) (fun _ _ _ _ _ => True) (fun _ U o U' => ∃ v L, o = .returned v ∧ own_Qrm_rec Z G1 k_WORD k_STRING k_STRING_START k_STRING_MIDDLE k_STRING_END k_SYMBOL k_END a1 h0 n0 v U'.heap L ∧ FrameEnd U o U' L ({ frames := 1, cells := 0, slots := 0, locals := 12 } : Room).cells ({ frames := 1, cells := 0, slots := 0, locals := 12 } : Room).slots) := by
  refine MetFree.of_bodySF (plainFor_of_name own_pn1) hisR ?_
  intro p e s m args below meth c s₁ Bd hml0 hP hK
  obtain ⟨rfl, hZ, hh⟩ := hP
  obtain ⟨O_CS, P_CS, O_WORD, E_WORD, O_STRING, E_STRING, O_STRING_START, E_STRING_START, O_STRING_MIDDLE, E_STRING_MIDDLE, O_STRING_END, E_STRING_END, O_SYMBOL, E_SYMBOL, O_END, E_END, ne_WORD_STRING_MIDDLE, ne_WORD_STRING_END, ne_STRING_STRING_MIDDLE, ne_STRING_STRING_END, ne_STRING_START_STRING_MIDDLE, ne_STRING_START_STRING_END, ne_STRING_MIDDLE_STRING_END, ne_SYMBOL_STRING_MIDDLE, ne_SYMBOL_STRING_END, ne_END_STRING_MIDDLE, ne_END_STRING_END⟩ := id gl
  have hx := Bd.exec
  have hby := Bd.bytes
  have hml : c.maxLocals = 1 := hml0
  have hown : s.vm.findClass "java/lang/Record" = some m.cls := findClass_of_methodNamed Bd.named
  have hnm := (name_of_methodNamed Bd.named Bd.method).1
  have X0 : Stand p l e ({ frames := 1, cells := 0, slots := 0, locals := 12 } : Room) s m #[(.ref a1)] below meth c s₁ [] 0 0 := Stand.of_body Bd
  have e0 : s₁.heap = h0 := by rw [← hh, Bd.state]; rfl
  have N0 := Fr.nil n0
  have pre0 : ∀ t, Steps p.tables e below (s₁.setTop (mkF m 0 #[.val (.ref a1)] [])) t → Steps p.tables e below (s₁.setTop (entryFrame m #[(.ref a1)] 1)) t := fun t k => castTop (own_efrm_rec m a1) k
  obtain ⟨T1, X1, e1, st1⟩ := initO X0 hx hZ hown (hw _ (List.mem_of_getElem? (i := 52) rfl)) (hw _ (List.mem_of_getElem? (i := 20) rfl)) (hw _ (List.mem_of_getElem? (i := 21) rfl)) e0 (g := (mkF m 1 #[.val (.ref a1)] [(.ref a1)])) rfl (by rw [hml]; rfl) rfl (hb hby own_d_jdk_30_method_1_1) (by decide) (W := 0) (by show 2 * 0 + _ ≤ _; exact Nat.le_of_eq rfl) (by decide)
  obtain ⟨fs, hr, hrun, hended, hW, hsame⟩ := X1.leave (v := none) (fun _ => rfl)
  refine ⟨_, _, pre0 _ ?_, hrun, hended, _, _, rfl, ?_, ⟨_, rfl⟩, hW, hsame.mono (by decide) (by decide)⟩
  · show Steps p.tables e below (s₁.setTop (mkF m 0 #[.val (.ref a1)] [])) _
    refine XS.aloadN X0.here hx rfl (hb hby own_d_jdk_30_method_1_0) rfl rfl ?_
    show Steps p.tables e below (s₁.setTop (mkF m 1 #[.val (.ref a1)] [(.ref a1)])) _
    refine st1 _ ?_
    show Steps p.tables e below (T1.setTop (mkF m 4 #[.val (.ref a1)] [])) _
    exact X1.returnOut hx Bd.returns (hb hby own_d_jdk_30_method_1_4) hr
  · show own_Qrm_rec Z G1 k_WORD k_STRING k_STRING_START k_STRING_MIDDLE k_STRING_END k_SYMBOL k_END a1 h0 n0 _ T1.heap _
    rw [e1]
    exact ⟨rfl, N0, rfl⟩
theorem own_d_prog_24_method_2_0 : decode prog_24_method_2_code 0 = .ok (.aload_n 0, 1) := by decide +kernel
theorem own_d_prog_24_method_2_1 : decode prog_24_method_2_code 1 = .ok (.invokespecial 1, 3) := by decide +kernel
theorem own_pd2 : parseMethodDescriptor "()V" = some ⟨[], none⟩ := by decide +kernel
theorem own_d_prog_24_method_2_4 : decode prog_24_method_2_code 4 = .ok (.aload_n 0, 1) := by decide +kernel
theorem own_d_prog_24_method_2_5 : decode prog_24_method_2_code 5 = .ok (.aload_n 1, 1) := by decide +kernel
theorem own_d_prog_24_method_2_6 : decode prog_24_method_2_code 6 = .ok (.putfield 7, 3) := by decide +kernel
theorem own_d_prog_24_method_2_9 : decode prog_24_method_2_code 9 = .ok (.aload_n 0, 1) := by decide +kernel
theorem own_d_prog_24_method_2_10 : decode prog_24_method_2_code 10 = .ok (.aload_n 2, 1) := by decide +kernel
theorem own_d_prog_24_method_2_11 : decode prog_24_method_2_code 11 = .ok (.putfield 13, 3) := by decide +kernel
theorem own_d_prog_24_method_2_14 : decode prog_24_method_2_code 14 = .ok (.aload_n 0, 1) := by decide +kernel
theorem own_d_prog_24_method_2_15 : decode prog_24_method_2_code 15 = .ok (.aload_n 3, 1) := by decide +kernel
theorem own_d_prog_24_method_2_16 : decode prog_24_method_2_code 16 = .ok (.putfield 17, 3) := by decide +kernel
theorem own_d_prog_24_method_2_19 : decode prog_24_method_2_code 19 = .ok (.aload_n 0, 1) := by decide +kernel
theorem own_d_prog_24_method_2_20 : decode prog_24_method_2_code 20 = .ok (.iload 4, 2) := by decide +kernel
theorem own_d_prog_24_method_2_22 : decode prog_24_method_2_code 22 = .ok (.putfield 20, 3) := by decide +kernel
theorem own_d_prog_24_method_2_25 : decode prog_24_method_2_code 25 = .ok (.aload_n 0, 1) := by decide +kernel
theorem own_d_prog_24_method_2_26 : decode prog_24_method_2_code 26 = .ok (.iload 5, 2) := by decide +kernel
theorem own_d_prog_24_method_2_28 : decode prog_24_method_2_code 28 = .ok (.putfield 24, 3) := by decide +kernel
theorem own_d_prog_24_method_2_31 : decode prog_24_method_2_code 31 = .ok (.aload_n 0, 1) := by decide +kernel
theorem own_d_prog_24_method_2_32 : decode prog_24_method_2_code 32 = .ok (.iload 6, 2) := by decide +kernel
theorem own_d_prog_24_method_2_34 : decode prog_24_method_2_code 34 = .ok (.putfield 27, 3) := by decide +kernel
theorem own_d_prog_24_method_2_37 : decode prog_24_method_2_code 37 = .ok (.aload_n 0, 1) := by decide +kernel
theorem own_d_prog_24_method_2_38 : decode prog_24_method_2_code 38 = .ok (.iload 7, 2) := by decide +kernel
theorem own_d_prog_24_method_2_40 : decode prog_24_method_2_code 40 = .ok (.putfield 30, 3) := by decide +kernel
theorem own_d_prog_24_method_2_43 : decode prog_24_method_2_code 43 = .ok (.return_, 1) := by decide +kernel
theorem own_pn3 : plainName "com/example/mudwright/mudwright/Token" = true := by first | (simp [plainName, overriddenIn]; done) | decide +kernel
def own_Qrm_tok (Z : State) (G1 : Int32) (k_WORD : Addr) (k_STRING : Addr) (k_STRING_START : Addr) (k_STRING_MIDDLE : Addr) (k_STRING_END : Addr) (k_SYMBOL : Addr) (k_END : Addr) (a1 : Addr) (a2 : Addr) (a3 : Addr) (a4 : Addr) (p5 : Int32) (p6 : Int32) (p7 : Int32) (p8 : Int32) (u9 : Value) (u10 : Value) (u11 : Value) (u12 : Value) (u13 : Value) (u14 : Value) (u15 : Value) (h0 : Heap) (n0 : Nat) (v : Option Value) (h : Heap) (L : List Loc) : Prop := (v = none) ∧ (Fr n0 L) ∧ (Keep h0 h [a1]) ∧ (Exa Z h a1 "com/example/mudwright/mudwright/Token") ∧ (Fld Z h a1 "com/example/mudwright/mudwright/Token" "kind" "Lcom/example/mudwright/mudwright/Token$Kind;" (.ref a2)) ∧ (Fld Z h a1 "com/example/mudwright/mudwright/Token" "text" "Ljava/lang/String;" (.ref a3)) ∧ (Fld Z h a1 "com/example/mudwright/mudwright/Token" "file" "Ljava/lang/String;" (.ref a4)) ∧ (Fld Z h a1 "com/example/mudwright/mudwright/Token" "line" "I" (.int p5)) ∧ (Fld Z h a1 "com/example/mudwright/mudwright/Token" "column" "I" (.int p6)) ∧ (Fld Z h a1 "com/example/mudwright/mudwright/Token" "endColumn" "I" (.int p7)) ∧ (Fld Z h a1 "com/example/mudwright/mudwright/Token" "textColumn" "I" (.int p8))
theorem own_efrm_tok (m : MethodId) (a1 : Addr) (a2 : Addr) (a3 : Addr) (a4 : Addr) (p5 : Int32) (p6 : Int32) (p7 : Int32) (p8 : Int32) : entryFrame m #[(.ref a1), (.ref a2), (.ref a3), (.ref a4), (.int p5), (.int p6), (.int p7), (.int p8)] 8 = mkF m 0 #[.val (.ref a1), .val (.ref a2), .val (.ref a3), .val (.ref a4), .val (.int p5), .val (.int p6), .val (.int p7), .val (.int p8)] [] := by first | (simp [entryFrame, mkF, argsToLocals, Value.category]; done) | rfl
set_option maxRecDepth 65536 in
set_option maxHeartbeats 40000000 in
theorem own_rm_tok (l : Launch) (Z : State) (a0 : Array Value) (hw : ∀ d ∈ tables_1, d.before a0 Z = true) (ws : List Jvm.Cond) (G1 : Int32) (k_WORD : Addr) (k_STRING : Addr) (k_STRING_START : Addr) (k_STRING_MIDDLE : Addr) (k_STRING_END : Addr) (k_SYMBOL : Addr) (k_END : Addr) (gl : own_Glob Z G1 k_WORD k_STRING k_STRING_START k_STRING_MIDDLE k_STRING_END k_SYMBOL k_END) (a1 : Addr) (a2 : Addr) (a3 : Addr) (a4 : Addr) (p5 : Int32) (p6 : Int32) (p7 : Int32) (p8 : Int32) (u9 : Value) (u10 : Value) (u11 : Value) (u12 : Value) (u13 : Value) (u14 : Value) (u15 : Value) (h0 : Heap) (n0 : Nat) (Z0 : n0 ≤ h0.size) (P1 : Exa Z h0 a1 "com/example/mudwright/mudwright/Token") (P2 : Fld Z h0 a1 "com/example/mudwright/mudwright/Token" "kind" "Lcom/example/mudwright/mudwright/Token$Kind;" u9) (P3 : n0 ≤ a1) (P4 : Fld Z h0 a1 "com/example/mudwright/mudwright/Token" "text" "Ljava/lang/String;" u10) (P5 : Fld Z h0 a1 "com/example/mudwright/mudwright/Token" "file" "Ljava/lang/String;" u11) (P6 : Fld Z h0 a1 "com/example/mudwright/mudwright/Token" "line" "I" u12) (P7 : Fld Z h0 a1 "com/example/mudwright/mudwright/Token" "column" "I" u13) (P8 : Fld Z h0 a1 "com/example/mudwright/mudwright/Token" "endColumn" "I" u14) (P9 : Fld Z h0 a1 "com/example/mudwright/mudwright/Token" "textColumn" "I" u15) :
    MetFree l (⟨"com/example/mudwright/mudwright/Token", "<init>", "(Lcom/example/mudwright/mudwright/Token$Kind;Ljava/lang/String;Ljava/lang/String;IIII)V"⟩ : MethodName) (head1 (Jvm.Cond.code (⟨"com/example/mudwright/mudwright/Token", "<init>", "(Lcom/example/mudwright/mudwright/Token$Kind;Ljava/lang/String;Ljava/lang/String;IIII)V"⟩ : MethodName) prog_24_method_2_code 8 none :: ws) ({ frames := 2, cells := 0, slots := 0, locals := 24 } : Room)) (fun a U => a = #[(.ref a1), (.ref a2), (.ref a3), (.ref a4), (.int p5), (.int p6), (.int p7), (.int p8)] ∧ Z.Warmed39 U.vm ∧ U.heap = h0) (fun _ _ _ _ _ => True) (fun _ U o U' => ∃ v L, o = .returned v ∧ own_Qrm_tok Z G1 k_WORD k_STRING k_STRING_START k_STRING_MIDDLE k_STRING_END k_SYMBOL k_END a1 a2 a3 a4 p5 p6 p7 p8 u9 u10 u11 u12 u13 u14 u15 h0 n0 v U'.heap L ∧ FrameEnd U o U' L ({ frames := 2, cells := 0, slots := 0, locals := 24 } : Room).cells ({ frames := 2, cells := 0, slots := 0, locals := 24 } : Room).slots) := by
  refine MetFree.of_bodySF (plainFor_of_name own_pn3) hisR ?_
  intro p e s m args below meth c s₁ Bd hml0 hP hK
  obtain ⟨rfl, hZ, hh⟩ := hP
  obtain ⟨O_CS, P_CS, O_WORD, E_WORD, O_STRING, E_STRING, O_STRING_START, E_STRING_START, O_STRING_MIDDLE, E_STRING_MIDDLE, O_STRING_END, E_STRING_END, O_SYMBOL, E_SYMBOL, O_END, E_END, ne_WORD_STRING_MIDDLE, ne_WORD_STRING_END, ne_STRING_STRING_MIDDLE, ne_STRING_STRING_END, ne_STRING_START_STRING_MIDDLE, ne_STRING_START_STRING_END, ne_STRING_MIDDLE_STRING_END, ne_SYMBOL_STRING_MIDDLE, ne_SYMBOL_STRING_END, ne_END_STRING_MIDDLE, ne_END_STRING_END⟩ := id gl
  have hx := Bd.exec
  have hby := Bd.bytes
  have hml : c.maxLocals = 8 := hml0
  have hown : s.vm.findClass "com/example/mudwright/mudwright/Token" = some m.cls := findClass_of_methodNamed Bd.named
  have hnm := (name_of_methodNamed Bd.named Bd.method).1
  have X0 : Stand p l e ({ frames := 2, cells := 0, slots := 0, locals := 24 } : Room) s m #[(.ref a1), (.ref a2), (.ref a3), (.ref a4), (.int p5), (.int p6), (.int p7), (.int p8)] below meth c s₁ [] 0 0 := Stand.of_body Bd
  have e0 : s₁.heap = h0 := by rw [← hh, Bd.state]; rfl
  have N0 := Fr.nil n0
  have pre0 : ∀ t, Steps p.tables e below (s₁.setTop (mkF m 0 #[.val (.ref a1), .val (.ref a2), .val (.ref a3), .val (.ref a4), .val (.int p5), .val (.int p6), .val (.int p7), .val (.int p8)] [])) t → Steps p.tables e below (s₁.setTop (entryFrame m #[(.ref a1), (.ref a2), (.ref a3), (.ref a4), (.int p5), (.int p6), (.int p7), (.int p8)] 8)) t := fun t k => castTop (own_efrm_tok m a1 a2 a3 a4 p5 p6 p7 p8) k
  obtain ⟨_, _, ⟨T1, L1, k1, n1⟩, -, X1, ⟨Lc1, hQ1, l1, y1, z1⟩, st1⟩ := X0.specialBack hx (y := (⟨"java/lang/Record", "<init>", "()V"⟩ : MethodName)) rfl hown (mvT hZ (hw _ (List.mem_of_getElem? (i := 47) rfl))) (mvT hZ (hw _ (List.mem_of_getElem? (i := 48) rfl))) (mvT hZ (hw _ (List.mem_of_getElem? (i := 51) rfl))) (by decide) (backOf (W := 0) (own_rm_rec l Z a0 hw [] G1 k_WORD k_STRING k_STRING_START k_STRING_MIDDLE k_STRING_END k_SYMBOL k_END gl a1 h0 n0 Z0 ) hZ (hw _ (List.mem_of_getElem? (i := 51) rfl)) (hw _ (List.mem_of_getElem? (i := 50) rfl)) (by decide) (by decide)) (g := (mkF m 1 #[.val (.ref a1), .val (.ref a2), .val (.ref a3), .val (.ref a4), .val (.int p5), .val (.int p6), .val (.int p7), .val (.int p8)] [(.ref a1)])) rfl (by rw [hml]; rfl) (Steps.refl _) (a := a1) (argsL := []) (rest := []) (lenOf own_pd2 rfl) rfl (by show 2 * 0 + _ ≤ _; exact Nat.le_of_eq rfl) (hb hby own_d_prog_24_method_2_1) (fun _ _ => ⟨rfl, e0, (by decide : 0 + 0 ≤ _), (by decide : 0 + 0 ≤ _)⟩)
  dsimp only [Pt.U, Pt.locs, Pt.cells, Pt.slots] at X1 l1 y1 z1 st1 hQ1
  subst y1 z1
  obtain ⟨rfl, Nq1, e1⟩ := hQ1
  have N1 : Fr n0 L1 := by rw [l1]; exact Fr.app N0 Nq1
  obtain ⟨T2, h2, X2, e2, W2, st2⟩ := putF X1 hx hZ hown (host := "") (Or.inl (hw _ (List.mem_of_getElem? (i := 53) rfl))) Via.refl e1 P2 P1 (Or.inr ⟨(hw _ (List.mem_of_getElem? (i := 54) rfl)), rfl, hnm⟩) (hw _ (List.mem_of_getElem? (i := 39) rfl)) (ty := (.object "com/example/mudwright/mudwright/Token$Kind")) (by decide) rfl rfl (g := (mkF m 6 #[.val (.ref a1), .val (.ref a2), .val (.ref a3), .val (.ref a4), .val (.int p5), .val (.int p6), .val (.int p7), .val (.int p8)] [(.ref a2), (.ref a1)])) rfl rfl (hb hby own_d_prog_24_method_2_6)
  have Kp3 : Keep h0 h2 [a1] := (Keep.refl h0 [a1]).wr W2 (Or.inl (List.mem_of_getElem? (i := 0) rfl))
  obtain ⟨Lp2, X2, N2⟩ := own_pack X2 (Fr.snoc X2 N1 P3)
  have Fh4 : Fld Z h2 a1 "com/example/mudwright/mudwright/Token" "kind" "Lcom/example/mudwright/mudwright/Token$Kind;" (.ref a2) := P2.same W2
  have Eh5 : Exa Z h2 a1 "com/example/mudwright/mudwright/Token" := (P1.wr W2)
  have Fh6 : Fld Z h2 a1 "com/example/mudwright/mudwright/Token" "text" "Ljava/lang/String;" u10 := (P4.other W2 (Or.inr (slot_ne (Or.inr (hw _ (List.mem_of_getElem? (i := 56) rfl))) (Or.inr (hw _ (List.mem_of_getElem? (i := 54) rfl))) (by decide) (t := (.object "java/lang/String")) (t' := (.object "com/example/mudwright/mudwright/Token$Kind")) (by decide) (by decide))))
  obtain ⟨T7, h7, X7, e7, W7, st7⟩ := putF X2 hx hZ hown (host := "") (Or.inl (hw _ (List.mem_of_getElem? (i := 55) rfl))) Via.refl e2 Fh6 Eh5 (Or.inr ⟨(hw _ (List.mem_of_getElem? (i := 56) rfl)), rfl, hnm⟩) (hw _ (List.mem_of_getElem? (i := 39) rfl)) (ty := (.object "java/lang/String")) (by decide) rfl rfl (g := (mkF m 11 #[.val (.ref a1), .val (.ref a2), .val (.ref a3), .val (.ref a4), .val (.int p5), .val (.int p6), .val (.int p7), .val (.int p8)] [(.ref a3), (.ref a1)])) rfl rfl (hb hby own_d_prog_24_method_2_11)
  have Kp8 : Keep h0 h7 [a1] := Kp3.wr W7 (Or.inl (List.mem_of_getElem? (i := 0) rfl))
  obtain ⟨Lp7, X7, N7⟩ := own_pack X7 (Fr.snoc X7 N2 P3)
  have Fh9 : Fld Z h7 a1 "com/example/mudwright/mudwright/Token" "text" "Ljava/lang/String;" (.ref a3) := Fh6.same W7
  have Eh10 : Exa Z h7 a1 "com/example/mudwright/mudwright/Token" := (Eh5.wr W7)
  have Fh11 : Fld Z h7 a1 "com/example/mudwright/mudwright/Token" "file" "Ljava/lang/String;" u11 := ((P5.other W2 (Or.inr (slot_ne (Or.inr (hw _ (List.mem_of_getElem? (i := 58) rfl))) (Or.inr (hw _ (List.mem_of_getElem? (i := 54) rfl))) (by decide) (t := (.object "java/lang/String")) (t' := (.object "com/example/mudwright/mudwright/Token$Kind")) (by decide) (by decide)))).other W7 (Or.inr (slot_ne (Or.inr (hw _ (List.mem_of_getElem? (i := 58) rfl))) (Or.inr (hw _ (List.mem_of_getElem? (i := 56) rfl))) (by decide) (t := (.object "java/lang/String")) (t' := (.object "java/lang/String")) (by decide) (by decide))))
  obtain ⟨T12, h12, X12, e12, W12, st12⟩ := putF X7 hx hZ hown (host := "") (Or.inl (hw _ (List.mem_of_getElem? (i := 57) rfl))) Via.refl e7 Fh11 Eh10 (Or.inr ⟨(hw _ (List.mem_of_getElem? (i := 58) rfl)), rfl, hnm⟩) (hw _ (List.mem_of_getElem? (i := 39) rfl)) (ty := (.object "java/lang/String")) (by decide) rfl rfl (g := (mkF m 16 #[.val (.ref a1), .val (.ref a2), .val (.ref a3), .val (.ref a4), .val (.int p5), .val (.int p6), .val (.int p7), .val (.int p8)] [(.ref a4), (.ref a1)])) rfl rfl (hb hby own_d_prog_24_method_2_16)
  have Kp13 : Keep h0 h12 [a1] := Kp8.wr W12 (Or.inl (List.mem_of_getElem? (i := 0) rfl))
  obtain ⟨Lp12, X12, N12⟩ := own_pack X12 (Fr.snoc X12 N7 P3)
  have Fh14 : Fld Z h12 a1 "com/example/mudwright/mudwright/Token" "file" "Ljava/lang/String;" (.ref a4) := Fh11.same W12
  have Eh15 : Exa Z h12 a1 "com/example/mudwright/mudwright/Token" := (Eh10.wr W12)
  have Fh16 : Fld Z h12 a1 "com/example/mudwright/mudwright/Token" "line" "I" u12 := (((P6.other W2 (Or.inr (slot_ne (Or.inr (hw _ (List.mem_of_getElem? (i := 60) rfl))) (Or.inr (hw _ (List.mem_of_getElem? (i := 54) rfl))) (by decide) (t := .int) (t' := (.object "com/example/mudwright/mudwright/Token$Kind")) (by decide) (by decide)))).other W7 (Or.inr (slot_ne (Or.inr (hw _ (List.mem_of_getElem? (i := 60) rfl))) (Or.inr (hw _ (List.mem_of_getElem? (i := 56) rfl))) (by decide) (t := .int) (t' := (.object "java/lang/String")) (by decide) (by decide)))).other W12 (Or.inr (slot_ne (Or.inr (hw _ (List.mem_of_getElem? (i := 60) rfl))) (Or.inr (hw _ (List.mem_of_getElem? (i := 58) rfl))) (by decide) (t := .int) (t' := (.object "java/lang/String")) (by decide) (by decide))))
  obtain ⟨T17, h17, X17, e17, W17, st17⟩ := putF X12 hx hZ hown (host := "") (Or.inl (hw _ (List.mem_of_getElem? (i := 59) rfl))) Via.refl e12 Fh16 Eh15 (Or.inr ⟨(hw _ (List.mem_of_getElem? (i := 60) rfl)), rfl, hnm⟩) (hw _ (List.mem_of_getElem? (i := 39) rfl)) (ty := .int) (by decide) rfl rfl (g := (mkF m 22 #[.val (.ref a1), .val (.ref a2), .val (.ref a3), .val (.ref a4), .val (.int p5), .val (.int p6), .val (.int p7), .val (.int p8)] [(.int p5), (.ref a1)])) rfl rfl (hb hby own_d_prog_24_method_2_22)
  have Kp18 : Keep h0 h17 [a1] := Kp13.wr W17 (Or.inl (List.mem_of_getElem? (i := 0) rfl))
  obtain ⟨Lp17, X17, N17⟩ := own_pack X17 (Fr.snoc X17 N12 P3)
  have Fh19 : Fld Z h17 a1 "com/example/mudwright/mudwright/Token" "line" "I" (.int p5) := Fh16.same W17
  have Eh20 : Exa Z h17 a1 "com/example/mudwright/mudwright/Token" := (Eh15.wr W17)
  have Fh21 : Fld Z h17 a1 "com/example/mudwright/mudwright/Token" "column" "I" u13 := ((((P7.other W2 (Or.inr (slot_ne (Or.inr (hw _ (List.mem_of_getElem? (i := 62) rfl))) (Or.inr (hw _ (List.mem_of_getElem? (i := 54) rfl))) (by decide) (t := .int) (t' := (.object "com/example/mudwright/mudwright/Token$Kind")) (by decide) (by decide)))).other W7 (Or.inr (slot_ne (Or.inr (hw _ (List.mem_of_getElem? (i := 62) rfl))) (Or.inr (hw _ (List.mem_of_getElem? (i := 56) rfl))) (by decide) (t := .int) (t' := (.object "java/lang/String")) (by decide) (by decide)))).other W12 (Or.inr (slot_ne (Or.inr (hw _ (List.mem_of_getElem? (i := 62) rfl))) (Or.inr (hw _ (List.mem_of_getElem? (i := 58) rfl))) (by decide) (t := .int) (t' := (.object "java/lang/String")) (by decide) (by decide)))).other W17 (Or.inr (slot_ne (Or.inr (hw _ (List.mem_of_getElem? (i := 62) rfl))) (Or.inr (hw _ (List.mem_of_getElem? (i := 60) rfl))) (by decide) (t := .int) (t' := .int) (by decide) (by decide))))
  obtain ⟨T22, h22, X22, e22, W22, st22⟩ := putF X17 hx hZ hown (host := "") (Or.inl (hw _ (List.mem_of_getElem? (i := 61) rfl))) Via.refl e17 Fh21 Eh20 (Or.inr ⟨(hw _ (List.mem_of_getElem? (i := 62) rfl)), rfl, hnm⟩) (hw _ (List.mem_of_getElem? (i := 39) rfl)) (ty := .int) (by decide) rfl rfl (g := (mkF m 28 #[.val (.ref a1), .val (.ref a2), .val (.ref a3), .val (.ref a4), .val (.int p5), .val (.int p6), .val (.int p7), .val (.int p8)] [(.int p6), (.ref a1)])) rfl rfl (hb hby own_d_prog_24_method_2_28)
  have Kp23 : Keep h0 h22 [a1] := Kp18.wr W22 (Or.inl (List.mem_of_getElem? (i := 0) rfl))
  obtain ⟨Lp22, X22, N22⟩ := own_pack X22 (Fr.snoc X22 N17 P3)
  have Fh24 : Fld Z h22 a1 "com/example/mudwright/mudwright/Token" "column" "I" (.int p6) := Fh21.same W22
  have Eh25 : Exa Z h22 a1 "com/example/mudwright/mudwright/Token" := (Eh20.wr W22)
  have Fh26 : Fld Z h22 a1 "com/example/mudwright/mudwright/Token" "endColumn" "I" u14 := (((((P8.other W2 (Or.inr (slot_ne (Or.inr (hw _ (List.mem_of_getElem? (i := 64) rfl))) (Or.inr (hw _ (List.mem_of_getElem? (i := 54) rfl))) (by decide) (t := .int) (t' := (.object "com/example/mudwright/mudwright/Token$Kind")) (by decide) (by decide)))).other W7 (Or.inr (slot_ne (Or.inr (hw _ (List.mem_of_getElem? (i := 64) rfl))) (Or.inr (hw _ (List.mem_of_getElem? (i := 56) rfl))) (by decide) (t := .int) (t' := (.object "java/lang/String")) (by decide) (by decide)))).other W12 (Or.inr (slot_ne (Or.inr (hw _ (List.mem_of_getElem? (i := 64) rfl))) (Or.inr (hw _ (List.mem_of_getElem? (i := 58) rfl))) (by decide) (t := .int) (t' := (.object "java/lang/String")) (by decide) (by decide)))).other W17 (Or.inr (slot_ne (Or.inr (hw _ (List.mem_of_getElem? (i := 64) rfl))) (Or.inr (hw _ (List.mem_of_getElem? (i := 60) rfl))) (by decide) (t := .int) (t' := .int) (by decide) (by decide)))).other W22 (Or.inr (slot_ne (Or.inr (hw _ (List.mem_of_getElem? (i := 64) rfl))) (Or.inr (hw _ (List.mem_of_getElem? (i := 62) rfl))) (by decide) (t := .int) (t' := .int) (by decide) (by decide))))
  obtain ⟨T27, h27, X27, e27, W27, st27⟩ := putF X22 hx hZ hown (host := "") (Or.inl (hw _ (List.mem_of_getElem? (i := 63) rfl))) Via.refl e22 Fh26 Eh25 (Or.inr ⟨(hw _ (List.mem_of_getElem? (i := 64) rfl)), rfl, hnm⟩) (hw _ (List.mem_of_getElem? (i := 39) rfl)) (ty := .int) (by decide) rfl rfl (g := (mkF m 34 #[.val (.ref a1), .val (.ref a2), .val (.ref a3), .val (.ref a4), .val (.int p5), .val (.int p6), .val (.int p7), .val (.int p8)] [(.int p7), (.ref a1)])) rfl rfl (hb hby own_d_prog_24_method_2_34)
  have Kp28 : Keep h0 h27 [a1] := Kp23.wr W27 (Or.inl (List.mem_of_getElem? (i := 0) rfl))
  obtain ⟨Lp27, X27, N27⟩ := own_pack X27 (Fr.snoc X27 N22 P3)
  have Fh29 : Fld Z h27 a1 "com/example/mudwright/mudwright/Token" "endColumn" "I" (.int p7) := Fh26.same W27
  have Eh30 : Exa Z h27 a1 "com/example/mudwright/mudwright/Token" := (Eh25.wr W27)
  have Fh31 : Fld Z h27 a1 "com/example/mudwright/mudwright/Token" "textColumn" "I" u15 := ((((((P9.other W2 (Or.inr (slot_ne (Or.inr (hw _ (List.mem_of_getElem? (i := 66) rfl))) (Or.inr (hw _ (List.mem_of_getElem? (i := 54) rfl))) (by decide) (t := .int) (t' := (.object "com/example/mudwright/mudwright/Token$Kind")) (by decide) (by decide)))).other W7 (Or.inr (slot_ne (Or.inr (hw _ (List.mem_of_getElem? (i := 66) rfl))) (Or.inr (hw _ (List.mem_of_getElem? (i := 56) rfl))) (by decide) (t := .int) (t' := (.object "java/lang/String")) (by decide) (by decide)))).other W12 (Or.inr (slot_ne (Or.inr (hw _ (List.mem_of_getElem? (i := 66) rfl))) (Or.inr (hw _ (List.mem_of_getElem? (i := 58) rfl))) (by decide) (t := .int) (t' := (.object "java/lang/String")) (by decide) (by decide)))).other W17 (Or.inr (slot_ne (Or.inr (hw _ (List.mem_of_getElem? (i := 66) rfl))) (Or.inr (hw _ (List.mem_of_getElem? (i := 60) rfl))) (by decide) (t := .int) (t' := .int) (by decide) (by decide)))).other W22 (Or.inr (slot_ne (Or.inr (hw _ (List.mem_of_getElem? (i := 66) rfl))) (Or.inr (hw _ (List.mem_of_getElem? (i := 62) rfl))) (by decide) (t := .int) (t' := .int) (by decide) (by decide)))).other W27 (Or.inr (slot_ne (Or.inr (hw _ (List.mem_of_getElem? (i := 66) rfl))) (Or.inr (hw _ (List.mem_of_getElem? (i := 64) rfl))) (by decide) (t := .int) (t' := .int) (by decide) (by decide))))
  obtain ⟨T32, h32, X32, e32, W32, st32⟩ := putF X27 hx hZ hown (host := "") (Or.inl (hw _ (List.mem_of_getElem? (i := 65) rfl))) Via.refl e27 Fh31 Eh30 (Or.inr ⟨(hw _ (List.mem_of_getElem? (i := 66) rfl)), rfl, hnm⟩) (hw _ (List.mem_of_getElem? (i := 39) rfl)) (ty := .int) (by decide) rfl rfl (g := (mkF m 40 #[.val (.ref a1), .val (.ref a2), .val (.ref a3), .val (.ref a4), .val (.int p5), .val (.int p6), .val (.int p7), .val (.int p8)] [(.int p8), (.ref a1)])) rfl rfl (hb hby own_d_prog_24_method_2_40)
  have Kp33 : Keep h0 h32 [a1] := Kp28.wr W32 (Or.inl (List.mem_of_getElem? (i := 0) rfl))
  obtain ⟨Lp32, X32, N32⟩ := own_pack X32 (Fr.snoc X32 N27 P3)
  have Fh34 : Fld Z h32 a1 "com/example/mudwright/mudwright/Token" "textColumn" "I" (.int p8) := Fh31.same W32
  have Eh35 : Exa Z h32 a1 "com/example/mudwright/mudwright/Token" := (Eh30.wr W32)
  have Fh36 : Fld Z h32 a1 "com/example/mudwright/mudwright/Token" "kind" "Lcom/example/mudwright/mudwright/Token$Kind;" (.ref a2) := ((((((Fh4.other W7 (Or.inr (slot_ne (Or.inr (hw _ (List.mem_of_getElem? (i := 54) rfl))) (Or.inr (hw _ (List.mem_of_getElem? (i := 56) rfl))) (by decide) (t := (.object "com/example/mudwright/mudwright/Token$Kind")) (t' := (.object "java/lang/String")) (by decide) (by decide)))).other W12 (Or.inr (slot_ne (Or.inr (hw _ (List.mem_of_getElem? (i := 54) rfl))) (Or.inr (hw _ (List.mem_of_getElem? (i := 58) rfl))) (by decide) (t := (.object "com/example/mudwright/mudwright/Token$Kind")) (t' := (.object "java/lang/String")) (by decide) (by decide)))).other W17 (Or.inr (slot_ne (Or.inr (hw _ (List.mem_of_getElem? (i := 54) rfl))) (Or.inr (hw _ (List.mem_of_getElem? (i := 60) rfl))) (by decide) (t := (.object "com/example/mudwright/mudwright/Token$Kind")) (t' := .int) (by decide) (by decide)))).other W22 (Or.inr (slot_ne (Or.inr (hw _ (List.mem_of_getElem? (i := 54) rfl))) (Or.inr (hw _ (List.mem_of_getElem? (i := 62) rfl))) (by decide) (t := (.object "com/example/mudwright/mudwright/Token$Kind")) (t' := .int) (by decide) (by decide)))).other W27 (Or.inr (slot_ne (Or.inr (hw _ (List.mem_of_getElem? (i := 54) rfl))) (Or.inr (hw _ (List.mem_of_getElem? (i := 64) rfl))) (by decide) (t := (.object "com/example/mudwright/mudwright/Token$Kind")) (t' := .int) (by decide) (by decide)))).other W32 (Or.inr (slot_ne (Or.inr (hw _ (List.mem_of_getElem? (i := 54) rfl))) (Or.inr (hw _ (List.mem_of_getElem? (i := 66) rfl))) (by decide) (t := (.object "com/example/mudwright/mudwright/Token$Kind")) (t' := .int) (by decide) (by decide))))
  have Fh37 : Fld Z h32 a1 "com/example/mudwright/mudwright/Token" "text" "Ljava/lang/String;" (.ref a3) := (((((Fh9.other W12 (Or.inr (slot_ne (Or.inr (hw _ (List.mem_of_getElem? (i := 56) rfl))) (Or.inr (hw _ (List.mem_of_getElem? (i := 58) rfl))) (by decide) (t := (.object "java/lang/String")) (t' := (.object "java/lang/String")) (by decide) (by decide)))).other W17 (Or.inr (slot_ne (Or.inr (hw _ (List.mem_of_getElem? (i := 56) rfl))) (Or.inr (hw _ (List.mem_of_getElem? (i := 60) rfl))) (by decide) (t := (.object "java/lang/String")) (t' := .int) (by decide) (by decide)))).other W22 (Or.inr (slot_ne (Or.inr (hw _ (List.mem_of_getElem? (i := 56) rfl))) (Or.inr (hw _ (List.mem_of_getElem? (i := 62) rfl))) (by decide) (t := (.object "java/lang/String")) (t' := .int) (by decide) (by decide)))).other W27 (Or.inr (slot_ne (Or.inr (hw _ (List.mem_of_getElem? (i := 56) rfl))) (Or.inr (hw _ (List.mem_of_getElem? (i := 64) rfl))) (by decide) (t := (.object "java/lang/String")) (t' := .int) (by decide) (by decide)))).other W32 (Or.inr (slot_ne (Or.inr (hw _ (List.mem_of_getElem? (i := 56) rfl))) (Or.inr (hw _ (List.mem_of_getElem? (i := 66) rfl))) (by decide) (t := (.object "java/lang/String")) (t' := .int) (by decide) (by decide))))
  have Fh38 : Fld Z h32 a1 "com/example/mudwright/mudwright/Token" "file" "Ljava/lang/String;" (.ref a4) := ((((Fh14.other W17 (Or.inr (slot_ne (Or.inr (hw _ (List.mem_of_getElem? (i := 58) rfl))) (Or.inr (hw _ (List.mem_of_getElem? (i := 60) rfl))) (by decide) (t := (.object "java/lang/String")) (t' := .int) (by decide) (by decide)))).other W22 (Or.inr (slot_ne (Or.inr (hw _ (List.mem_of_getElem? (i := 58) rfl))) (Or.inr (hw _ (List.mem_of_getElem? (i := 62) rfl))) (by decide) (t := (.object "java/lang/String")) (t' := .int) (by decide) (by decide)))).other W27 (Or.inr (slot_ne (Or.inr (hw _ (List.mem_of_getElem? (i := 58) rfl))) (Or.inr (hw _ (List.mem_of_getElem? (i := 64) rfl))) (by decide) (t := (.object "java/lang/String")) (t' := .int) (by decide) (by decide)))).other W32 (Or.inr (slot_ne (Or.inr (hw _ (List.mem_of_getElem? (i := 58) rfl))) (Or.inr (hw _ (List.mem_of_getElem? (i := 66) rfl))) (by decide) (t := (.object "java/lang/String")) (t' := .int) (by decide) (by decide))))
  have Fh39 : Fld Z h32 a1 "com/example/mudwright/mudwright/Token" "line" "I" (.int p5) := (((Fh19.other W22 (Or.inr (slot_ne (Or.inr (hw _ (List.mem_of_getElem? (i := 60) rfl))) (Or.inr (hw _ (List.mem_of_getElem? (i := 62) rfl))) (by decide) (t := .int) (t' := .int) (by decide) (by decide)))).other W27 (Or.inr (slot_ne (Or.inr (hw _ (List.mem_of_getElem? (i := 60) rfl))) (Or.inr (hw _ (List.mem_of_getElem? (i := 64) rfl))) (by decide) (t := .int) (t' := .int) (by decide) (by decide)))).other W32 (Or.inr (slot_ne (Or.inr (hw _ (List.mem_of_getElem? (i := 60) rfl))) (Or.inr (hw _ (List.mem_of_getElem? (i := 66) rfl))) (by decide) (t := .int) (t' := .int) (by decide) (by decide))))
  have Fh40 : Fld Z h32 a1 "com/example/mudwright/mudwright/Token" "column" "I" (.int p6) := ((Fh24.other W27 (Or.inr (slot_ne (Or.inr (hw _ (List.mem_of_getElem? (i := 62) rfl))) (Or.inr (hw _ (List.mem_of_getElem? (i := 64) rfl))) (by decide) (t := .int) (t' := .int) (by decide) (by decide)))).other W32 (Or.inr (slot_ne (Or.inr (hw _ (List.mem_of_getElem? (i := 62) rfl))) (Or.inr (hw _ (List.mem_of_getElem? (i := 66) rfl))) (by decide) (t := .int) (t' := .int) (by decide) (by decide))))
  have Fh41 : Fld Z h32 a1 "com/example/mudwright/mudwright/Token" "endColumn" "I" (.int p7) := (Fh29.other W32 (Or.inr (slot_ne (Or.inr (hw _ (List.mem_of_getElem? (i := 64) rfl))) (Or.inr (hw _ (List.mem_of_getElem? (i := 66) rfl))) (by decide) (t := .int) (t' := .int) (by decide) (by decide))))
  obtain ⟨fs, hr, hrun, hended, hW, hsame⟩ := X32.leave (v := none) (fun _ => rfl)
  refine ⟨_, _, pre0 _ ?_, hrun, hended, _, _, rfl, ?_, ⟨_, rfl⟩, hW, hsame.mono (by decide) (by decide)⟩
  · show Steps p.tables e below (s₁.setTop (mkF m 0 #[.val (.ref a1), .val (.ref a2), .val (.ref a3), .val (.ref a4), .val (.int p5), .val (.int p6), .val (.int p7), .val (.int p8)] [])) _
    refine XS.aloadN X0.here hx rfl (hb hby own_d_prog_24_method_2_0) rfl rfl ?_
    show Steps p.tables e below (s₁.setTop (mkF m 1 #[.val (.ref a1), .val (.ref a2), .val (.ref a3), .val (.ref a4), .val (.int p5), .val (.int p6), .val (.int p7), .val (.int p8)] [(.ref a1)])) _
    refine st1.trans ?_
    show Steps p.tables e below (T1.setTop (mkF m 4 #[.val (.ref a1), .val (.ref a2), .val (.ref a3), .val (.ref a4), .val (.int p5), .val (.int p6), .val (.int p7), .val (.int p8)] [])) _
    refine XS.aloadN X1.here hx rfl (hb hby own_d_prog_24_method_2_4) rfl rfl ?_
    show Steps p.tables e below (T1.setTop (mkF m 5 #[.val (.ref a1), .val (.ref a2), .val (.ref a3), .val (.ref a4), .val (.int p5), .val (.int p6), .val (.int p7), .val (.int p8)] [(.ref a1)])) _
    refine XS.aloadN X1.here hx rfl (hb hby own_d_prog_24_method_2_5) rfl rfl ?_
    show Steps p.tables e below (T1.setTop (mkF m 6 #[.val (.ref a1), .val (.ref a2), .val (.ref a3), .val (.ref a4), .val (.int p5), .val (.int p6), .val (.int p7), .val (.int p8)] [(.ref a2), (.ref a1)])) _
    refine st2 _ ?_
    show Steps p.tables e below (T2.setTop (mkF m 9 #[.val (.ref a1), .val (.ref a2), .val (.ref a3), .val (.ref a4), .val (.int p5), .val (.int p6), .val (.int p7), .val (.int p8)] [])) _
    refine XS.aloadN X2.here hx rfl (hb hby own_d_prog_24_method_2_9) rfl rfl ?_
    show Steps p.tables e below (T2.setTop (mkF m 10 #[.val (.ref a1), .val (.ref a2), .val (.ref a3), .val (.ref a4), .val (.int p5), .val (.int p6), .val (.int p7), .val (.int p8)] [(.ref a1)])) _
    refine XS.aloadN X2.here hx rfl (hb hby own_d_prog_24_method_2_10) rfl rfl ?_
    show Steps p.tables e below (T2.setTop (mkF m 11 #[.val (.ref a1), .val (.ref a2), .val (.ref a3), .val (.ref a4), .val (.int p5), .val (.int p6), .val (.int p7), .val (.int p8)] [(.ref a3), (.ref a1)])) _
    refine st7 _ ?_
    show Steps p.tables e below (T7.setTop (mkF m 14 #[.val (.ref a1), .val (.ref a2), .val (.ref a3), .val (.ref a4), .val (.int p5), .val (.int p6), .val (.int p7), .val (.int p8)] [])) _
    refine XS.aloadN X7.here hx rfl (hb hby own_d_prog_24_method_2_14) rfl rfl ?_
    show Steps p.tables e below (T7.setTop (mkF m 15 #[.val (.ref a1), .val (.ref a2), .val (.ref a3), .val (.ref a4), .val (.int p5), .val (.int p6), .val (.int p7), .val (.int p8)] [(.ref a1)])) _
    refine XS.aloadN X7.here hx rfl (hb hby own_d_prog_24_method_2_15) rfl rfl ?_
    show Steps p.tables e below (T7.setTop (mkF m 16 #[.val (.ref a1), .val (.ref a2), .val (.ref a3), .val (.ref a4), .val (.int p5), .val (.int p6), .val (.int p7), .val (.int p8)] [(.ref a4), (.ref a1)])) _
    refine st12 _ ?_
    show Steps p.tables e below (T12.setTop (mkF m 19 #[.val (.ref a1), .val (.ref a2), .val (.ref a3), .val (.ref a4), .val (.int p5), .val (.int p6), .val (.int p7), .val (.int p8)] [])) _
    refine XS.aloadN X12.here hx rfl (hb hby own_d_prog_24_method_2_19) rfl rfl ?_
    show Steps p.tables e below (T12.setTop (mkF m 20 #[.val (.ref a1), .val (.ref a2), .val (.ref a3), .val (.ref a4), .val (.int p5), .val (.int p6), .val (.int p7), .val (.int p8)] [(.ref a1)])) _
    refine XS.iload X12.here hx rfl (hb hby own_d_prog_24_method_2_20) rfl ?_
    show Steps p.tables e below (T12.setTop (mkF m 22 #[.val (.ref a1), .val (.ref a2), .val (.ref a3), .val (.ref a4), .val (.int p5), .val (.int p6), .val (.int p7), .val (.int p8)] [(.int p5), (.ref a1)])) _
    refine st17 _ ?_
    show Steps p.tables e below (T17.setTop (mkF m 25 #[.val (.ref a1), .val (.ref a2), .val (.ref a3), .val (.ref a4), .val (.int p5), .val (.int p6), .val (.int p7), .val (.int p8)] [])) _
    refine XS.aloadN X17.here hx rfl (hb hby own_d_prog_24_method_2_25) rfl rfl ?_
    show Steps p.tables e below (T17.setTop (mkF m 26 #[.val (.ref a1), .val (.ref a2), .val (.ref a3), .val (.ref a4), .val (.int p5), .val (.int p6), .val (.int p7), .val (.int p8)] [(.ref a1)])) _
    refine XS.iload X17.here hx rfl (hb hby own_d_prog_24_method_2_26) rfl ?_
    show Steps p.tables e below (T17.setTop (mkF m 28 #[.val (.ref a1), .val (.ref a2), .val (.ref a3), .val (.ref a4), .val (.int p5), .val (.int p6), .val (.int p7), .val (.int p8)] [(.int p6), (.ref a1)])) _
    refine st22 _ ?_
    show Steps p.tables e below (T22.setTop (mkF m 31 #[.val (.ref a1), .val (.ref a2), .val (.ref a3), .val (.ref a4), .val (.int p5), .val (.int p6), .val (.int p7), .val (.int p8)] [])) _
    refine XS.aloadN X22.here hx rfl (hb hby own_d_prog_24_method_2_31) rfl rfl ?_
    show Steps p.tables e below (T22.setTop (mkF m 32 #[.val (.ref a1), .val (.ref a2), .val (.ref a3), .val (.ref a4), .val (.int p5), .val (.int p6), .val (.int p7), .val (.int p8)] [(.ref a1)])) _
    refine XS.iload X22.here hx rfl (hb hby own_d_prog_24_method_2_32) rfl ?_
    show Steps p.tables e below (T22.setTop (mkF m 34 #[.val (.ref a1), .val (.ref a2), .val (.ref a3), .val (.ref a4), .val (.int p5), .val (.int p6), .val (.int p7), .val (.int p8)] [(.int p7), (.ref a1)])) _
    refine st27 _ ?_
    show Steps p.tables e below (T27.setTop (mkF m 37 #[.val (.ref a1), .val (.ref a2), .val (.ref a3), .val (.ref a4), .val (.int p5), .val (.int p6), .val (.int p7), .val (.int p8)] [])) _
    refine XS.aloadN X27.here hx rfl (hb hby own_d_prog_24_method_2_37) rfl rfl ?_
    show Steps p.tables e below (T27.setTop (mkF m 38 #[.val (.ref a1), .val (.ref a2), .val (.ref a3), .val (.ref a4), .val (.int p5), .val (.int p6), .val (.int p7), .val (.int p8)] [(.ref a1)])) _
    refine XS.iload X27.here hx rfl (hb hby own_d_prog_24_method_2_38) rfl ?_
    show Steps p.tables e below (T27.setTop (mkF m 40 #[.val (.ref a1), .val (.ref a2), .val (.ref a3), .val (.ref a4), .val (.int p5), .val (.int p6), .val (.int p7), .val (.int p8)] [(.int p8), (.ref a1)])) _
    refine st32 _ ?_
    show Steps p.tables e below (T32.setTop (mkF m 43 #[.val (.ref a1), .val (.ref a2), .val (.ref a3), .val (.ref a4), .val (.int p5), .val (.int p6), .val (.int p7), .val (.int p8)] [])) _
    exact X32.returnOut hx Bd.returns (hb hby own_d_prog_24_method_2_43) hr
  · show own_Qrm_tok Z G1 k_WORD k_STRING k_STRING_START k_STRING_MIDDLE k_STRING_END k_SYMBOL k_END a1 a2 a3 a4 p5 p6 p7 p8 u9 u10 u11 u12 u13 u14 u15 h0 n0 _ T32.heap _
    rw [e32]
    exact ⟨rfl, N32, Kp33, Eh35, Fh36, Fh37, Fh38, Fh39, Fh40, Fh41, Fh34⟩
theorem own_d_prog_24_method_7_0 : decode prog_24_method_7_code 0 = .ok (.aload_n 0, 1) := by decide +kernel
theorem own_d_prog_24_method_7_1 : decode prog_24_method_7_code 1 = .ok (.getfield 7, 3) := by decide +kernel
theorem own_d_prog_24_method_7_4 : decode prog_24_method_7_code 4 = .ok (.getstatic 60, 3) := by decide +kernel
theorem own_d_prog_24_method_7_7 : decode prog_24_method_7_code 7 = .ok (.if_acmp .eq 13, 3) := by decide +kernel
theorem own_d_prog_24_method_7_20 : decode prog_24_method_7_code 20 = .ok (.iconst 1, 1) := by decide +kernel
theorem own_d_prog_24_method_7_21 : decode prog_24_method_7_code 21 = .ok (.goto 4, 3) := by decide +kernel
theorem own_d_prog_24_method_7_25 : decode prog_24_method_7_code 25 = .ok (.ireturn, 1) := by decide +kernel
def own_Qrm_av_STRING_MIDDLE (Z : State) (G1 : Int32) (k_WORD : Addr) (k_STRING : Addr) (k_STRING_START : Addr) (k_STRING_MIDDLE : Addr) (k_STRING_END : Addr) (k_SYMBOL : Addr) (k_END : Addr) (a1 : Addr) (h0 : Heap) (n0 : Nat) (v : Option Value) (h : Heap) (L : List Loc) : Prop := (v = some (.int (1 : Int32))) ∧ (Fr n0 L) ∧ (h = h0)
theorem own_efrm_av_STRING_MIDDLE (m : MethodId) (a1 : Addr) : entryFrame m #[(.ref a1)] 1 = mkF m 0 #[.val (.ref a1)] [] := by first | (simp [entryFrame, mkF, argsToLocals, Value.category]; done) | rfl
set_option maxRecDepth 65536 in
set_option maxHeartbeats 40000000 in
theorem own_rm_av_STRING_MIDDLE (l : Launch) (Z : State) (a0 : Array Value) (hw : ∀ d ∈ tables_1, d.before a0 Z = true) (ws : List Jvm.Cond) (G1 : Int32) (k_WORD : Addr) (k_STRING : Addr) (k_STRING_START : Addr) (k_STRING_MIDDLE : Addr) (k_STRING_END : Addr) (k_SYMBOL : Addr) (k_END : Addr) (gl : own_Glob Z G1 k_WORD k_STRING k_STRING_START k_STRING_MIDDLE k_STRING_END k_SYMBOL k_END) (a1 : Addr) (h0 : Heap) (n0 : Nat) (Z0 : n0 ≤ h0.size) (X00 : Old Z n0 h0) (P1 : Fld Z h0 a1 "com/example/mudwright/mudwright/Token" "kind" "Lcom/example/mudwright/mudwright/Token$Kind;" (.ref k_STRING_MIDDLE)) :
    MetFree l (⟨"com/example/mudwright/mudwright/Token", "isAfterValue", "()Z"⟩ : MethodName) (head1 (Jvm.Cond.code (⟨"com/example/mudwright/mudwright/Token", "isAfterValue", "()Z"⟩ : MethodName) prog_24_method_7_code 1 (some .boolean) :: ws) ({ frames := 0, cells := 0, slots := 0, locals := 0 } : Room)) (fun a U => a = #[(.ref a1)] ∧ Z.Warmed39 U.vm ∧ U.heap = h0) (fun _ _ _ _ _ => True) (fun _ U o U' => ∃ v L, o = .returned v ∧ own_Qrm_av_STRING_MIDDLE Z G1 k_WORD k_STRING k_STRING_START k_STRING_MIDDLE k_STRING_END k_SYMBOL k_END a1 h0 n0 v U'.heap L ∧ FrameEnd U o U' L ({ frames := 0, cells := 0, slots := 0, locals := 0 } : Room).cells ({ frames := 0, cells := 0, slots := 0, locals := 0 } : Room).slots) := by
  refine MetFree.of_bodySF (plainFor_of_name own_pn3) hisR ?_
  intro p e s m args below meth c s₁ Bd hml0 hP hK
  obtain ⟨rfl, hZ, hh⟩ := hP
  obtain ⟨O_CS, P_CS, O_WORD, E_WORD, O_STRING, E_STRING, O_STRING_START, E_STRING_START, O_STRING_MIDDLE, E_STRING_MIDDLE, O_STRING_END, E_STRING_END, O_SYMBOL, E_SYMBOL, O_END, E_END, ne_WORD_STRING_MIDDLE, ne_WORD_STRING_END, ne_STRING_STRING_MIDDLE, ne_STRING_STRING_END, ne_STRING_START_STRING_MIDDLE, ne_STRING_START_STRING_END, ne_STRING_MIDDLE_STRING_END, ne_SYMBOL_STRING_MIDDLE, ne_SYMBOL_STRING_END, ne_END_STRING_MIDDLE, ne_END_STRING_END⟩ := id gl
  have hx := Bd.exec
  have hby := Bd.bytes
  have hml : c.maxLocals = 1 := hml0
  have hown : s.vm.findClass "com/example/mudwright/mudwright/Token" = some m.cls := findClass_of_methodNamed Bd.named
  have hnm := (name_of_methodNamed Bd.named Bd.method).1
  have X0 : Stand p l e ({ frames := 0, cells := 0, slots := 0, locals := 0 } : Room) s m #[(.ref a1)] below meth c s₁ [] 0 0 := Stand.of_body Bd
  have e0 : s₁.heap = h0 := by rw [← hh, Bd.state]; rfl
  have N0 := Fr.nil n0
  have pre0 : ∀ t, Steps p.tables e below (s₁.setTop (mkF m 0 #[.val (.ref a1)] [])) t → Steps p.tables e below (s₁.setTop (entryFrame m #[(.ref a1)] 1)) t := fun t k => castTop (own_efrm_av_STRING_MIDDLE m a1) k
  obtain ⟨T1, X1, e1, st1⟩ := getF X0 hx hZ hown (host := "") (Or.inl (hw _ (List.mem_of_getElem? (i := 53) rfl))) Via.refl e0 P1 (g := (mkF m 1 #[.val (.ref a1)] [(.ref a1)])) rfl rfl (hb hby own_d_prog_24_method_7_1)
  obtain ⟨T2, X2, e2, st2⟩ := getS2 X1 hx hZ hown (host := "") (Or.inl (hw _ (List.mem_of_getElem? (i := 72) rfl))) Via.refl e1 (O_STRING_MIDDLE.ext X00.2) (g := (mkF m 4 #[.val (.ref a1)] [(.ref k_STRING_MIDDLE)])) rfl (hb hby own_d_prog_24_method_7_4)
  obtain ⟨fs, hr, hrun, hended, hW, hsame⟩ := X2.leave (v := some (.int (1 : Int32))) (fun h => by rw [Bd.returns] at h; cases h)
  refine ⟨_, _, pre0 _ ?_, hrun, hended, _, _, rfl, ?_, ⟨_, rfl⟩, hW, hsame.mono (by decide) (by decide)⟩
  · show Steps p.tables e below (s₁.setTop (mkF m 0 #[.val (.ref a1)] [])) _
    refine XS.aloadN X0.here hx rfl (hb hby own_d_prog_24_method_7_0) rfl rfl ?_
    show Steps p.tables e below (s₁.setTop (mkF m 1 #[.val (.ref a1)] [(.ref a1)])) _
    refine st1 _ ?_
    show Steps p.tables e below (T1.setTop (mkF m 4 #[.val (.ref a1)] [(.ref k_STRING_MIDDLE)])) _
    refine st2 _ ?_
    show Steps p.tables e below (T2.setTop (mkF m 7 #[.val (.ref a1)] [(.ref k_STRING_MIDDLE), (.ref k_STRING_MIDDLE)])) _
    refine Jvm.RoadKit.acmp (g := (mkF m 7 #[.val (.ref a1)] [(.ref k_STRING_MIDDLE), (.ref k_STRING_MIDDLE)])) X2 hx rfl rfl rfl (pc0 := 7) (pc' := 20) (same := true) rfl (hb hby own_d_prog_24_method_7_7) rfl (decide_eq_true rfl) (by decide) (by decide) ?_
    show Steps p.tables e below (T2.setTop (mkF m 20 #[.val (.ref a1)] [])) _
    refine XS.iconst X2.here hx rfl (hb hby own_d_prog_24_method_7_20) ?_
    show Steps p.tables e below (T2.setTop (mkF m 21 #[.val (.ref a1)] [(.int (1 : Int32))])) _
    refine XS.goto X2.here hx rfl (pc0 := 21) (pc' := 25) rfl (hb hby own_d_prog_24_method_7_21) (by decide) (by decide) ?_
    show Steps p.tables e below (T2.setTop (mkF m 25 #[.val (.ref a1)] [(.int (1 : Int32))])) _
    exact retN X2 hx (t := .boolean) Bd.returns (by simp) (hb hby own_d_prog_24_method_7_25) hr
  · show own_Qrm_av_STRING_MIDDLE Z G1 k_WORD k_STRING k_STRING_START k_STRING_MIDDLE k_STRING_END k_SYMBOL k_END a1 h0 n0 _ T2.heap _
    rw [e2]
    exact ⟨rfl, N0, rfl⟩
theorem own_d_prog_24_method_7_10 : decode prog_24_method_7_code 10 = .ok (.aload_n 0, 1) := by decide +kernel
theorem own_d_prog_24_method_7_11 : decode prog_24_method_7_code 11 = .ok (.getfield 7, 3) := by decide +kernel
theorem own_d_prog_24_method_7_14 : decode prog_24_method_7_code 14 = .ok (.getstatic 63, 3) := by decide +kernel
theorem own_d_prog_24_method_7_17 : decode prog_24_method_7_code 17 = .ok (.if_acmp .ne 7, 3) := by decide +kernel
def own_Qrm_av_STRING_END (Z : State) (G1 : Int32) (k_WORD : Addr) (k_STRING : Addr) (k_STRING_START : Addr) (k_STRING_MIDDLE : Addr) (k_STRING_END : Addr) (k_SYMBOL : Addr) (k_END : Addr) (a1 : Addr) (h0 : Heap) (n0 : Nat) (v : Option Value) (h : Heap) (L : List Loc) : Prop := (v = some (.int (1 : Int32))) ∧ (Fr n0 L) ∧ (h = h0)
theorem own_efrm_av_STRING_END (m : MethodId) (a1 : Addr) : entryFrame m #[(.ref a1)] 1 = mkF m 0 #[.val (.ref a1)] [] := by first | (simp [entryFrame, mkF, argsToLocals, Value.category]; done) | rfl
set_option maxRecDepth 65536 in
set_option maxHeartbeats 40000000 in
theorem own_rm_av_STRING_END (l : Launch) (Z : State) (a0 : Array Value) (hw : ∀ d ∈ tables_1, d.before a0 Z = true) (ws : List Jvm.Cond) (G1 : Int32) (k_WORD : Addr) (k_STRING : Addr) (k_STRING_START : Addr) (k_STRING_MIDDLE : Addr) (k_STRING_END : Addr) (k_SYMBOL : Addr) (k_END : Addr) (gl : own_Glob Z G1 k_WORD k_STRING k_STRING_START k_STRING_MIDDLE k_STRING_END k_SYMBOL k_END) (a1 : Addr) (h0 : Heap) (n0 : Nat) (Z0 : n0 ≤ h0.size) (X00 : Old Z n0 h0) (P1 : Fld Z h0 a1 "com/example/mudwright/mudwright/Token" "kind" "Lcom/example/mudwright/mudwright/Token$Kind;" (.ref k_STRING_END)) :
    MetFree l (⟨"com/example/mudwright/mudwright/Token", "isAfterValue", "()Z"⟩ : MethodName) (head1 (Jvm.Cond.code (⟨"com/example/mudwright/mudwright/Token", "isAfterValue", "()Z"⟩ : MethodName) prog_24_method_7_code 1 (some .boolean) :: ws) ({ frames := 0, cells := 0, slots := 0, locals := 0 } : Room)) (fun a U => a = #[(.ref a1)] ∧ Z.Warmed39 U.vm ∧ U.heap = h0) (fun _ _ _ _ _ => True) (fun _ U o U' => ∃ v L, o = .returned v ∧ own_Qrm_av_STRING_END Z G1 k_WORD k_STRING k_STRING_START k_STRING_MIDDLE k_STRING_END k_SYMBOL k_END a1 h0 n0 v U'.heap L ∧ FrameEnd U o U' L ({ frames := 0, cells := 0, slots := 0, locals := 0 } : Room).cells ({ frames := 0, cells := 0, slots := 0, locals := 0 } : Room).slots) := by
  refine MetFree.of_bodySF (plainFor_of_name own_pn3) hisR ?_
  intro p e s m args below meth c s₁ Bd hml0 hP hK
  obtain ⟨rfl, hZ, hh⟩ := hP
  obtain ⟨O_CS, P_CS, O_WORD, E_WORD, O_STRING, E_STRING, O_STRING_START, E_STRING_START, O_STRING_MIDDLE, E_STRING_MIDDLE, O_STRING_END, E_STRING_END, O_SYMBOL, E_SYMBOL, O_END, E_END, ne_WORD_STRING_MIDDLE, ne_WORD_STRING_END, ne_STRING_STRING_MIDDLE, ne_STRING_STRING_END, ne_STRING_START_STRING_MIDDLE, ne_STRING_START_STRING_END, ne_STRING_MIDDLE_STRING_END, ne_SYMBOL_STRING_MIDDLE, ne_SYMBOL_STRING_END, ne_END_STRING_MIDDLE, ne_END_STRING_END⟩ := id gl
  have hx := Bd.exec
  have hby := Bd.bytes
  have hml : c.maxLocals = 1 := hml0
  have hown : s.vm.findClass "com/example/mudwright/mudwright/Token" = some m.cls := findClass_of_methodNamed Bd.named
  have hnm := (name_of_methodNamed Bd.named Bd.method).1
  have X0 : Stand p l e ({ frames := 0, cells := 0, slots := 0, locals := 0 } : Room) s m #[(.ref a1)] below meth c s₁ [] 0 0 := Stand.of_body Bd
  have e0 : s₁.heap = h0 := by rw [← hh, Bd.state]; rfl
  have N0 := Fr.nil n0
  have pre0 : ∀ t, Steps p.tables e below (s₁.setTop (mkF m 0 #[.val (.ref a1)] [])) t → Steps p.tables e below (s₁.setTop (entryFrame m #[(.ref a1)] 1)) t := fun t k => castTop (own_efrm_av_STRING_END m a1) k
  obtain ⟨T1, X1, e1, st1⟩ := getF X0 hx hZ hown (host := "") (Or.inl (hw _ (List.mem_of_getElem? (i := 53) rfl))) Via.refl e0 P1 (g := (mkF m 1 #[.val (.ref a1)] [(.ref a1)])) rfl rfl (hb hby own_d_prog_24_method_7_1)
  obtain ⟨T2, X2, e2, st2⟩ := getS2 X1 hx hZ hown (host := "") (Or.inl (hw _ (List.mem_of_getElem? (i := 72) rfl))) Via.refl e1 (O_STRING_MIDDLE.ext X00.2) (g := (mkF m 4 #[.val (.ref a1)] [(.ref k_STRING_END)])) rfl (hb hby own_d_prog_24_method_7_4)
  have neh3 : k_STRING_END ≠ k_STRING_MIDDLE := (Ne.symm ne_STRING_MIDDLE_STRING_END)
  obtain ⟨T4, X4, e4, st4⟩ := getF X2 hx hZ hown (host := "") (Or.inl (hw _ (List.mem_of_getElem? (i := 53) rfl))) Via.refl e2 P1 (g := (mkF m 11 #[.val (.ref a1)] [(.ref a1)])) rfl rfl (hb hby own_d_prog_24_method_7_11)
  obtain ⟨T5, X5, e5, st5⟩ := getS2 X4 hx hZ hown (host := "") (Or.inl (hw _ (List.mem_of_getElem? (i := 74) rfl))) Via.refl e4 (O_STRING_END.ext X00.2) (g := (mkF m 14 #[.val (.ref a1)] [(.ref k_STRING_END)])) rfl (hb hby own_d_prog_24_method_7_14)
  obtain ⟨fs, hr, hrun, hended, hW, hsame⟩ := X5.leave (v := some (.int (1 : Int32))) (fun h => by rw [Bd.returns] at h; cases h)
  refine ⟨_, _, pre0 _ ?_, hrun, hended, _, _, rfl, ?_, ⟨_, rfl⟩, hW, hsame.mono (by decide) (by decide)⟩
  · show Steps p.tables e below (s₁.setTop (mkF m 0 #[.val (.ref a1)] [])) _
    refine XS.aloadN X0.here hx rfl (hb hby own_d_prog_24_method_7_0) rfl rfl ?_
    show Steps p.tables e below (s₁.setTop (mkF m 1 #[.val (.ref a1)] [(.ref a1)])) _
    refine st1 _ ?_
    show Steps p.tables e below (T1.setTop (mkF m 4 #[.val (.ref a1)] [(.ref k_STRING_END)])) _
    refine st2 _ ?_
    show Steps p.tables e below (T2.setTop (mkF m 7 #[.val (.ref a1)] [(.ref k_STRING_MIDDLE), (.ref k_STRING_END)])) _
    refine Jvm.RoadKit.acmp (g := (mkF m 7 #[.val (.ref a1)] [(.ref k_STRING_MIDDLE), (.ref k_STRING_END)])) X2 hx rfl rfl rfl (pc0 := 7) (pc' := 10) (same := false) rfl (hb hby own_d_prog_24_method_7_7) rfl (decide_eq_false fun q => neh3 (Value.ref.inj q)) (by decide) (by decide) ?_
    show Steps p.tables e below (T2.setTop (mkF m 10 #[.val (.ref a1)] [])) _
    refine XS.aloadN X2.here hx rfl (hb hby own_d_prog_24_method_7_10) rfl rfl ?_
    show Steps p.tables e below (T2.setTop (mkF m 11 #[.val (.ref a1)] [(.ref a1)])) _
    refine st4 _ ?_
    show Steps p.tables e below (T4.setTop (mkF m 14 #[.val (.ref a1)] [(.ref k_STRING_END)])) _
    refine st5 _ ?_
    show Steps p.tables e below (T5.setTop (mkF m 17 #[.val (.ref a1)] [(.ref k_STRING_END), (.ref k_STRING_END)])) _
    refine Jvm.RoadKit.acmp (g := (mkF m 17 #[.val (.ref a1)] [(.ref k_STRING_END), (.ref k_STRING_END)])) X5 hx rfl rfl rfl (pc0 := 17) (pc' := 20) (same := true) rfl (hb hby own_d_prog_24_method_7_17) rfl (decide_eq_true rfl) (by decide) (by decide) ?_
    show Steps p.tables e below (T5.setTop (mkF m 20 #[.val (.ref a1)] [])) _
    refine XS.iconst X5.here hx rfl (hb hby own_d_prog_24_method_7_20) ?_
    show Steps p.tables e below (T5.setTop (mkF m 21 #[.val (.ref a1)] [(.int (1 : Int32))])) _
    refine XS.goto X5.here hx rfl (pc0 := 21) (pc' := 25) rfl (hb hby own_d_prog_24_method_7_21) (by decide) (by decide) ?_
    show Steps p.tables e below (T5.setTop (mkF m 25 #[.val (.ref a1)] [(.int (1 : Int32))])) _
    exact retN X5 hx (t := .boolean) Bd.returns (by simp) (hb hby own_d_prog_24_method_7_25) hr
  · show own_Qrm_av_STRING_END Z G1 k_WORD k_STRING k_STRING_START k_STRING_MIDDLE k_STRING_END k_SYMBOL k_END a1 h0 n0 _ T5.heap _
    rw [e5]
    exact ⟨rfl, N0, rfl⟩
theorem own_d_prog_24_method_6_0 : decode prog_24_method_6_code 0 = .ok (.aload_n 0, 1) := by decide +kernel
theorem own_d_prog_24_method_6_1 : decode prog_24_method_6_code 1 = .ok (.getfield 7, 3) := by decide +kernel
theorem own_d_prog_24_method_6_4 : decode prog_24_method_6_code 4 = .ok (.getstatic 54, 3) := by decide +kernel
theorem own_d_prog_24_method_6_7 : decode prog_24_method_6_code 7 = .ok (.if_acmp .eq 13, 3) := by decide +kernel
theorem own_d_prog_24_method_6_10 : decode prog_24_method_6_code 10 = .ok (.aload_n 0, 1) := by decide +kernel
theorem own_d_prog_24_method_6_11 : decode prog_24_method_6_code 11 = .ok (.getfield 7, 3) := by decide +kernel
theorem own_d_prog_24_method_6_14 : decode prog_24_method_6_code 14 = .ok (.getstatic 57, 3) := by decide +kernel
theorem own_d_prog_24_method_6_17 : decode prog_24_method_6_code 17 = .ok (.if_acmp .ne 7, 3) := by decide +kernel
theorem own_d_prog_24_method_6_24 : decode prog_24_method_6_code 24 = .ok (.iconst 0, 1) := by decide +kernel
theorem own_d_prog_24_method_6_25 : decode prog_24_method_6_code 25 = .ok (.ireturn, 1) := by decide +kernel
def own_Qrm_is_STRING_MIDDLE (Z : State) (G1 : Int32) (k_WORD : Addr) (k_STRING : Addr) (k_STRING_START : Addr) (k_STRING_MIDDLE : Addr) (k_STRING_END : Addr) (k_SYMBOL : Addr) (k_END : Addr) (a1 : Addr) (h0 : Heap) (n0 : Nat) (v : Option Value) (h : Heap) (L : List Loc) : Prop := (v = some (.int (0 : Int32))) ∧ (Fr n0 L) ∧ (h = h0)
theorem own_efrm_is_STRING_MIDDLE (m : MethodId) (a1 : Addr) : entryFrame m #[(.ref a1)] 1 = mkF m 0 #[.val (.ref a1)] [] := by first | (simp [entryFrame, mkF, argsToLocals, Value.category]; done) | rfl
set_option maxRecDepth 65536 in
set_option maxHeartbeats 40000000 in
theorem own_rm_is_STRING_MIDDLE (l : Launch) (Z : State) (a0 : Array Value) (hw : ∀ d ∈ tables_1, d.before a0 Z = true) (ws : List Jvm.Cond) (G1 : Int32) (k_WORD : Addr) (k_STRING : Addr) (k_STRING_START : Addr) (k_STRING_MIDDLE : Addr) (k_STRING_END : Addr) (k_SYMBOL : Addr) (k_END : Addr) (gl : own_Glob Z G1 k_WORD k_STRING k_STRING_START k_STRING_MIDDLE k_STRING_END k_SYMBOL k_END) (a1 : Addr) (h0 : Heap) (n0 : Nat) (Z0 : n0 ≤ h0.size) (X00 : Old Z n0 h0) (P1 : Fld Z h0 a1 "com/example/mudwright/mudwright/Token" "kind" "Lcom/example/mudwright/mudwright/Token$Kind;" (.ref k_STRING_MIDDLE)) :
    MetFree l (⟨"com/example/mudwright/mudwright/Token", "isString", "()Z"⟩ : MethodName) (head1 (Jvm.Cond.code (⟨"com/example/mudwright/mudwright/Token", "isString", "()Z"⟩ : MethodName) prog_24_method_6_code 1 (some .boolean) :: ws) ({ frames := 0, cells := 0, slots := 0, locals := 0 } : Room)) (fun a U => a = #[(.ref a1)] ∧ Z.Warmed39 U.vm ∧ U.heap = h0) (fun _ _ _ _ _ => True) (fun _ U o U' => ∃ v L, o = .returned v ∧ own_Qrm_is_STRING_MIDDLE Z G1 k_WORD k_STRING k_STRING_START k_STRING_MIDDLE k_STRING_END k_SYMBOL k_END a1 h0 n0 v U'.heap L ∧ FrameEnd U o U' L ({ frames := 0, cells := 0, slots := 0, locals := 0 } : Room).cells ({ frames := 0, cells := 0, slots := 0, locals := 0 } : Room).slots) := by
  refine MetFree.of_bodySF (plainFor_of_name own_pn3) hisR ?_
  intro p e s m args below meth c s₁ Bd hml0 hP hK
  obtain ⟨rfl, hZ, hh⟩ := hP
  obtain ⟨O_CS, P_CS, O_WORD, E_WORD, O_STRING, E_STRING, O_STRING_START, E_STRING_START, O_STRING_MIDDLE, E_STRING_MIDDLE, O_STRING_END, E_STRING_END, O_SYMBOL, E_SYMBOL, O_END, E_END, ne_WORD_STRING_MIDDLE, ne_WORD_STRING_END, ne_STRING_STRING_MIDDLE, ne_STRING_STRING_END, ne_STRING_START_STRING_MIDDLE, ne_STRING_START_STRING_END, ne_STRING_MIDDLE_STRING_END, ne_SYMBOL_STRING_MIDDLE, ne_SYMBOL_STRING_END, ne_END_STRING_MIDDLE, ne_END_STRING_END⟩ := id gl
  have hx := Bd.exec
  have hby := Bd.bytes
  have hml : c.maxLocals = 1 := hml0
  have hown : s.vm.findClass "com/example/mudwright/mudwright/Token" = some m.cls := findClass_of_methodNamed Bd.named
  have hnm := (name_of_methodNamed Bd.named Bd.method).1
  have X0 : Stand p l e ({ frames := 0, cells := 0, slots := 0, locals := 0 } : Room) s m #[(.ref a1)] below meth c s₁ [] 0 0 := Stand.of_body Bd
  have e0 : s₁.heap = h0 := by rw [← hh, Bd.state]; rfl
  have N0 := Fr.nil n0
  have pre0 : ∀ t, Steps p.tables e below (s₁.setTop (mkF m 0 #[.val (.ref a1)] [])) t → Steps p.tables e below (s₁.setTop (entryFrame m #[(.ref a1)] 1)) t := fun t k => castTop (own_efrm_is_STRING_MIDDLE m a1) k
  obtain ⟨T1, X1, e1, st1⟩ := getF X0 hx hZ hown (host := "") (Or.inl (hw _ (List.mem_of_getElem? (i := 53) rfl))) Via.refl e0 P1 (g := (mkF m 1 #[.val (.ref a1)] [(.ref a1)])) rfl rfl (hb hby own_d_prog_24_method_6_1)
  obtain ⟨T2, X2, e2, st2⟩ := getS2 X1 hx hZ hown (host := "") (Or.inl (hw _ (List.mem_of_getElem? (i := 82) rfl))) Via.refl e1 (O_STRING.ext X00.2) (g := (mkF m 4 #[.val (.ref a1)] [(.ref k_STRING_MIDDLE)])) rfl (hb hby own_d_prog_24_method_6_4)
  have neh3 : k_STRING_MIDDLE ≠ k_STRING := (Ne.symm ne_STRING_STRING_MIDDLE)
  obtain ⟨T4, X4, e4, st4⟩ := getF X2 hx hZ hown (host := "") (Or.inl (hw _ (List.mem_of_getElem? (i := 53) rfl))) Via.refl e2 P1 (g := (mkF m 11 #[.val (.ref a1)] [(.ref a1)])) rfl rfl (hb hby own_d_prog_24_method_6_11)
  obtain ⟨T5, X5, e5, st5⟩ := getS2 X4 hx hZ hown (host := "") (Or.inl (hw _ (List.mem_of_getElem? (i := 84) rfl))) Via.refl e4 (O_STRING_START.ext X00.2) (g := (mkF m 14 #[.val (.ref a1)] [(.ref k_STRING_MIDDLE)])) rfl (hb hby own_d_prog_24_method_6_14)
  have neh6 : k_STRING_MIDDLE ≠ k_STRING_START := (Ne.symm ne_STRING_START_STRING_MIDDLE)
  obtain ⟨fs, hr, hrun, hended, hW, hsame⟩ := X5.leave (v := some (.int (0 : Int32))) (fun h => by rw [Bd.returns] at h; cases h)
  refine ⟨_, _, pre0 _ ?_, hrun, hended, _, _, rfl, ?_, ⟨_, rfl⟩, hW, hsame.mono (by decide) (by decide)⟩
  · show Steps p.tables e below (s₁.setTop (mkF m 0 #[.val (.ref a1)] [])) _
    refine XS.aloadN X0.here hx rfl (hb hby own_d_prog_24_method_6_0) rfl rfl ?_
    show Steps p.tables e below (s₁.setTop (mkF m 1 #[.val (.ref a1)] [(.ref a1)])) _
    refine st1 _ ?_
    show Steps p.tables e below (T1.setTop (mkF m 4 #[.val (.ref a1)] [(.ref k_STRING_MIDDLE)])) _
    refine st2 _ ?_
    show Steps p.tables e below (T2.setTop (mkF m 7 #[.val (.ref a1)] [(.ref k_STRING), (.ref k_STRING_MIDDLE)])) _
    refine Jvm.RoadKit.acmp (g := (mkF m 7 #[.val (.ref a1)] [(.ref k_STRING), (.ref k_STRING_MIDDLE)])) X2 hx rfl rfl rfl (pc0 := 7) (pc' := 10) (same := false) rfl (hb hby own_d_prog_24_method_6_7) rfl (decide_eq_false fun q => neh3 (Value.ref.inj q)) (by decide) (by decide) ?_
    show Steps p.tables e below (T2.setTop (mkF m 10 #[.val (.ref a1)] [])) _
    refine XS.aloadN X2.here hx rfl (hb hby own_d_prog_24_method_6_10) rfl rfl ?_
    show Steps p.tables e below (T2.setTop (mkF m 11 #[.val (.ref a1)] [(.ref a1)])) _
    refine st4 _ ?_
    show Steps p.tables e below (T4.setTop (mkF m 14 #[.val (.ref a1)] [(.ref k_STRING_MIDDLE)])) _
    refine st5 _ ?_
    show Steps p.tables e below (T5.setTop (mkF m 17 #[.val (.ref a1)] [(.ref k_STRING_START), (.ref k_STRING_MIDDLE)])) _
    refine Jvm.RoadKit.acmp (g := (mkF m 17 #[.val (.ref a1)] [(.ref k_STRING_START), (.ref k_STRING_MIDDLE)])) X5 hx rfl rfl rfl (pc0 := 17) (pc' := 24) (same := false) rfl (hb hby own_d_prog_24_method_6_17) rfl (decide_eq_false fun q => neh6 (Value.ref.inj q)) (by decide) (by decide) ?_
    show Steps p.tables e below (T5.setTop (mkF m 24 #[.val (.ref a1)] [])) _
    refine XS.iconst X5.here hx rfl (hb hby own_d_prog_24_method_6_24) ?_
    show Steps p.tables e below (T5.setTop (mkF m 25 #[.val (.ref a1)] [(.int (0 : Int32))])) _
    exact retN X5 hx (t := .boolean) Bd.returns (by simp) (hb hby own_d_prog_24_method_6_25) hr
  · show own_Qrm_is_STRING_MIDDLE Z G1 k_WORD k_STRING k_STRING_START k_STRING_MIDDLE k_STRING_END k_SYMBOL k_END a1 h0 n0 _ T5.heap _
    rw [e5]
    exact ⟨rfl, N0, rfl⟩
def own_Qrm_is_STRING_END (Z : State) (G1 : Int32) (k_WORD : Addr) (k_STRING : Addr) (k_STRING_START : Addr) (k_STRING_MIDDLE : Addr) (k_STRING_END : Addr) (k_SYMBOL : Addr) (k_END : Addr) (a1 : Addr) (h0 : Heap) (n0 : Nat) (v : Option Value) (h : Heap) (L : List Loc) : Prop := (v = some (.int (0 : Int32))) ∧ (Fr n0 L) ∧ (h = h0)
theorem own_efrm_is_STRING_END (m : MethodId) (a1 : Addr) : entryFrame m #[(.ref a1)] 1 = mkF m 0 #[.val (.ref a1)] [] := by first | (simp [entryFrame, mkF, argsToLocals, Value.category]; done) | rfl
set_option maxRecDepth 65536 in
set_option maxHeartbeats 40000000 in
theorem own_rm_is_STRING_END (l : Launch) (Z : State) (a0 : Array Value) (hw : ∀ d ∈ tables_1, d.before a0 Z = true) (ws : List Jvm.Cond) (G1 : Int32) (k_WORD : Addr) (k_STRING : Addr) (k_STRING_START : Addr) (k_STRING_MIDDLE : Addr) (k_STRING_END : Addr) (k_SYMBOL : Addr) (k_END : Addr) (gl : own_Glob Z G1 k_WORD k_STRING k_STRING_START k_STRING_MIDDLE k_STRING_END k_SYMBOL k_END) (a1 : Addr) (h0 : Heap) (n0 : Nat) (Z0 : n0 ≤ h0.size) (X00 : Old Z n0 h0) (P1 : Fld Z h0 a1 "com/example/mudwright/mudwright/Token" "kind" "Lcom/example/mudwright/mudwright/Token$Kind;" (.ref k_STRING_END)) :
    MetFree l (⟨"com/example/mudwright/mudwright/Token", "isString", "()Z"⟩ : MethodName) (head1 (Jvm.Cond.code (⟨"com/example/mudwright/mudwright/Token", "isString", "()Z"⟩ : MethodName) prog_24_method_6_code 1 (some .boolean) :: ws) ({ frames := 0, cells := 0, slots := 0, locals := 0 } : Room)) (fun a U => a = #[(.ref a1)] ∧ Z.Warmed39 U.vm ∧ U.heap = h0) (fun _ _ _ _ _ => True) (fun _ U o U' => ∃ v L, o = .returned v ∧ own_Qrm_is_STRING_END Z G1 k_WORD k_STRING k_STRING_START k_STRING_MIDDLE k_STRING_END k_SYMBOL k_END a1 h0 n0 v U'.heap L ∧ FrameEnd U o U' L ({ frames := 0, cells := 0, slots := 0, locals := 0 } : Room).cells ({ frames := 0, cells := 0, slots := 0, locals := 0 } : Room).slots) := by
  refine MetFree.of_bodySF (plainFor_of_name own_pn3) hisR ?_
  intro p e s m args below meth c s₁ Bd hml0 hP hK
  obtain ⟨rfl, hZ, hh⟩ := hP
  obtain ⟨O_CS, P_CS, O_WORD, E_WORD, O_STRING, E_STRING, O_STRING_START, E_STRING_START, O_STRING_MIDDLE, E_STRING_MIDDLE, O_STRING_END, E_STRING_END, O_SYMBOL, E_SYMBOL, O_END, E_END, ne_WORD_STRING_MIDDLE, ne_WORD_STRING_END, ne_STRING_STRING_MIDDLE, ne_STRING_STRING_END, ne_STRING_START_STRING_MIDDLE, ne_STRING_START_STRING_END, ne_STRING_MIDDLE_STRING_END, ne_SYMBOL_STRING_MIDDLE, ne_SYMBOL_STRING_END, ne_END_STRING_MIDDLE, ne_END_STRING_END⟩ := id gl
  have hx := Bd.exec
  have hby := Bd.bytes
  have hml : c.maxLocals = 1 := hml0
  have hown : s.vm.findClass "com/example/mudwright/mudwright/Token" = some m.cls := findClass_of_methodNamed Bd.named
  have hnm := (name_of_methodNamed Bd.named Bd.method).1
  have X0 : Stand p l e ({ frames := 0, cells := 0, slots := 0, locals := 0 } : Room) s m #[(.ref a1)] below meth c s₁ [] 0 0 := Stand.of_body Bd
  have e0 : s₁.heap = h0 := by rw [← hh, Bd.state]; rfl
  have N0 := Fr.nil n0
  have pre0 : ∀ t, Steps p.tables e below (s₁.setTop (mkF m 0 #[.val (.ref a1)] [])) t → Steps p.tables e below (s₁.setTop (entryFrame m #[(.ref a1)] 1)) t := fun t k => castTop (own_efrm_is_STRING_END m a1) k
  obtain ⟨T1, X1, e1, st1⟩ := getF X0 hx hZ hown (host := "") (Or.inl (hw _ (List.mem_of_getElem? (i := 53) rfl))) Via.refl e0 P1 (g := (mkF m 1 #[.val (.ref a1)] [(.ref a1)])) rfl rfl (hb hby own_d_prog_24_method_6_1)
  obtain ⟨T2, X2, e2, st2⟩ := getS2 X1 hx hZ hown (host := "") (Or.inl (hw _ (List.mem_of_getElem? (i := 82) rfl))) Via.refl e1 (O_STRING.ext X00.2) (g := (mkF m 4 #[.val (.ref a1)] [(.ref k_STRING_END)])) rfl (hb hby own_d_prog_24_method_6_4)
  have neh3 : k_STRING_END ≠ k_STRING := (Ne.symm ne_STRING_STRING_END)
  obtain ⟨T4, X4, e4, st4⟩ := getF X2 hx hZ hown (host := "") (Or.inl (hw _ (List.mem_of_getElem? (i := 53) rfl))) Via.refl e2 P1 (g := (mkF m 11 #[.val (.ref a1)] [(.ref a1)])) rfl rfl (hb hby own_d_prog_24_method_6_11)
  obtain ⟨T5, X5, e5, st5⟩ := getS2 X4 hx hZ hown (host := "") (Or.inl (hw _ (List.mem_of_getElem? (i := 84) rfl))) Via.refl e4 (O_STRING_START.ext X00.2) (g := (mkF m 14 #[.val (.ref a1)] [(.ref k_STRING_END)])) rfl (hb hby own_d_prog_24_method_6_14)
  have neh6 : k_STRING_END ≠ k_STRING_START := (Ne.symm ne_STRING_START_STRING_END)
  obtain ⟨fs, hr, hrun, hended, hW, hsame⟩ := X5.leave (v := some (.int (0 : Int32))) (fun h => by rw [Bd.returns] at h; cases h)
  refine ⟨_, _, pre0 _ ?_, hrun, hended, _, _, rfl, ?_, ⟨_, rfl⟩, hW, hsame.mono (by decide) (by decide)⟩
  · show Steps p.tables e below (s₁.setTop (mkF m 0 #[.val (.ref a1)] [])) _
    refine XS.aloadN X0.here hx rfl (hb hby own_d_prog_24_method_6_0) rfl rfl ?_
    show Steps p.tables e below (s₁.setTop (mkF m 1 #[.val (.ref a1)] [(.ref a1)])) _
    refine st1 _ ?_
    show Steps p.tables e below (T1.setTop (mkF m 4 #[.val (.ref a1)] [(.ref k_STRING_END)])) _
    refine st2 _ ?_
    show Steps p.tables e below (T2.setTop (mkF m 7 #[.val (.ref a1)] [(.ref k_STRING), (.ref k_STRING_END)])) _
    refine Jvm.RoadKit.acmp (g := (mkF m 7 #[.val (.ref a1)] [(.ref k_STRING), (.ref k_STRING_END)])) X2 hx rfl rfl rfl (pc0 := 7) (pc' := 10) (same := false) rfl (hb hby own_d_prog_24_method_6_7) rfl (decide_eq_false fun q => neh3 (Value.ref.inj q)) (by decide) (by decide) ?_
    show Steps p.tables e below (T2.setTop (mkF m 10 #[.val (.ref a1)] [])) _
    refine XS.aloadN X2.here hx rfl (hb hby own_d_prog_24_method_6_10) rfl rfl ?_
    show Steps p.tables e below (T2.setTop (mkF m 11 #[.val (.ref a1)] [(.ref a1)])) _
    refine st4 _ ?_
    show Steps p.tables e below (T4.setTop (mkF m 14 #[.val (.ref a1)] [(.ref k_STRING_END)])) _
    refine st5 _ ?_
    show Steps p.tables e below (T5.setTop (mkF m 17 #[.val (.ref a1)] [(.ref k_STRING_START), (.ref k_STRING_END)])) _
    refine Jvm.RoadKit.acmp (g := (mkF m 17 #[.val (.ref a1)] [(.ref k_STRING_START), (.ref k_STRING_END)])) X5 hx rfl rfl rfl (pc0 := 17) (pc' := 24) (same := false) rfl (hb hby own_d_prog_24_method_6_17) rfl (decide_eq_false fun q => neh6 (Value.ref.inj q)) (by decide) (by decide) ?_
    show Steps p.tables e below (T5.setTop (mkF m 24 #[.val (.ref a1)] [])) _
    refine XS.iconst X5.here hx rfl (hb hby own_d_prog_24_method_6_24) ?_
    show Steps p.tables e below (T5.setTop (mkF m 25 #[.val (.ref a1)] [(.int (0 : Int32))])) _
    exact retN X5 hx (t := .boolean) Bd.returns (by simp) (hb hby own_d_prog_24_method_6_25) hr
  · show own_Qrm_is_STRING_END Z G1 k_WORD k_STRING k_STRING_START k_STRING_MIDDLE k_STRING_END k_SYMBOL k_END a1 h0 n0 _ T5.heap _
    rw [e5]
    exact ⟨rfl, N0, rfl⟩
theorem own_d_prog_24_method_7_24 : decode prog_24_method_7_code 24 = .ok (.iconst 0, 1) := by decide +kernel
def own_Qrm_avC (Z : State) (G1 : Int32) (k_WORD : Addr) (k_STRING : Addr) (k_STRING_START : Addr) (k_STRING_MIDDLE : Addr) (k_STRING_END : Addr) (k_SYMBOL : Addr) (k_END : Addr) (a1 : Addr) (o2 : Addr) (h0 : Heap) (n0 : Nat) (v : Option Value) (h : Heap) (L : List Loc) : Prop := (v = some (.int (0 : Int32))) ∧ (Fr n0 L) ∧ (h = h0)
theorem own_efrm_avC (m : MethodId) (a1 : Addr) : entryFrame m #[(.ref a1)] 1 = mkF m 0 #[.val (.ref a1)] [] := by first | (simp [entryFrame, mkF, argsToLocals, Value.category]; done) | rfl
set_option maxRecDepth 65536 in
set_option maxHeartbeats 40000000 in
theorem own_rm_avC (l : Launch) (Z : State) (a0 : Array Value) (hw : ∀ d ∈ tables_1, d.before a0 Z = true) (ws : List Jvm.Cond) (G1 : Int32) (k_WORD : Addr) (k_STRING : Addr) (k_STRING_START : Addr) (k_STRING_MIDDLE : Addr) (k_STRING_END : Addr) (k_SYMBOL : Addr) (k_END : Addr) (gl : own_Glob Z G1 k_WORD k_STRING k_STRING_START k_STRING_MIDDLE k_STRING_END k_SYMBOL k_END) (a1 : Addr) (o2 : Addr) (h0 : Heap) (n0 : Nat) (Z0 : n0 ≤ h0.size) (X00 : Old Z n0 h0) (P1 : Fld Z h0 a1 "com/example/mudwright/mudwright/Token" "kind" "Lcom/example/mudwright/mudwright/Token$Kind;" (.ref o2)) (P2 : o2 ≠ k_STRING_MIDDLE) (P3 : o2 ≠ k_STRING_END) :
    MetFree l (⟨"com/example/mudwright/mudwright/Token", "isAfterValue", "()Z"⟩ : MethodName) (head1 (Jvm.Cond.code (⟨"com/example/mudwright/mudwright/Token", "isAfterValue", "()Z"⟩ : MethodName) prog_24_method_7_code 1 (some .boolean) :: ws) ({ frames := 0, cells := 0, slots := 0, locals := 0 } : Room)) (fun a U => a = #[(.ref a1)] ∧ Z.Warmed39 U.vm ∧ U.heap = h0) (fun _ _ _ _ _ => True) (fun _ U o U' => ∃ v L, o = .returned v ∧ own_Qrm_avC Z G1 k_WORD k_STRING k_STRING_START k_STRING_MIDDLE k_STRING_END k_SYMBOL k_END a1 o2 h0 n0 v U'.heap L ∧ FrameEnd U o U' L ({ frames := 0, cells := 0, slots := 0, locals := 0 } : Room).cells ({ frames := 0, cells := 0, slots := 0, locals := 0 } : Room).slots) := by
  refine MetFree.of_bodySF (plainFor_of_name own_pn3) hisR ?_
  intro p e s m args below meth c s₁ Bd hml0 hP hK
  obtain ⟨rfl, hZ, hh⟩ := hP
  obtain ⟨O_CS, P_CS, O_WORD, E_WORD, O_STRING, E_STRING, O_STRING_START, E_STRING_START, O_STRING_MIDDLE, E_STRING_MIDDLE, O_STRING_END, E_STRING_END, O_SYMBOL, E_SYMBOL, O_END, E_END, ne_WORD_STRING_MIDDLE, ne_WORD_STRING_END, ne_STRING_STRING_MIDDLE, ne_STRING_STRING_END, ne_STRING_START_STRING_MIDDLE, ne_STRING_START_STRING_END, ne_STRING_MIDDLE_STRING_END, ne_SYMBOL_STRING_MIDDLE, ne_SYMBOL_STRING_END, ne_END_STRING_MIDDLE, ne_END_STRING_END⟩ := id gl
  have hx := Bd.exec
  have hby := Bd.bytes
  have hml : c.maxLocals = 1 := hml0
  have hown : s.vm.findClass "com/example/mudwright/mudwright/Token" = some m.cls := findClass_of_methodNamed Bd.named
  have hnm := (name_of_methodNamed Bd.named Bd.method).1
  have X0 : Stand p l e ({ frames := 0, cells := 0, slots := 0, locals := 0 } : Room) s m #[(.ref a1)] below meth c s₁ [] 0 0 := Stand.of_body Bd
  have e0 : s₁.heap = h0 := by rw [← hh, Bd.state]; rfl
  have N0 := Fr.nil n0
  have pre0 : ∀ t, Steps p.tables e below (s₁.setTop (mkF m 0 #[.val (.ref a1)] [])) t → Steps p.tables e below (s₁.setTop (entryFrame m #[(.ref a1)] 1)) t := fun t k => castTop (own_efrm_avC m a1) k
  obtain ⟨T1, X1, e1, st1⟩ := getF X0 hx hZ hown (host := "") (Or.inl (hw _ (List.mem_of_getElem? (i := 53) rfl))) Via.refl e0 P1 (g := (mkF m 1 #[.val (.ref a1)] [(.ref a1)])) rfl rfl (hb hby own_d_prog_24_method_7_1)
  obtain ⟨T2, X2, e2, st2⟩ := getS2 X1 hx hZ hown (host := "") (Or.inl (hw _ (List.mem_of_getElem? (i := 72) rfl))) Via.refl e1 (O_STRING_MIDDLE.ext X00.2) (g := (mkF m 4 #[.val (.ref a1)] [(.ref o2)])) rfl (hb hby own_d_prog_24_method_7_4)
  have neh3 : o2 ≠ k_STRING_MIDDLE := P2
  obtain ⟨T4, X4, e4, st4⟩ := getF X2 hx hZ hown (host := "") (Or.inl (hw _ (List.mem_of_getElem? (i := 53) rfl))) Via.refl e2 P1 (g := (mkF m 11 #[.val (.ref a1)] [(.ref a1)])) rfl rfl (hb hby own_d_prog_24_method_7_11)
  obtain ⟨T5, X5, e5, st5⟩ := getS2 X4 hx hZ hown (host := "") (Or.inl (hw _ (List.mem_of_getElem? (i := 74) rfl))) Via.refl e4 (O_STRING_END.ext X00.2) (g := (mkF m 14 #[.val (.ref a1)] [(.ref o2)])) rfl (hb hby own_d_prog_24_method_7_14)
  have neh6 : o2 ≠ k_STRING_END := P3
  obtain ⟨fs, hr, hrun, hended, hW, hsame⟩ := X5.leave (v := some (.int (0 : Int32))) (fun h => by rw [Bd.returns] at h; cases h)
  refine ⟨_, _, pre0 _ ?_, hrun, hended, _, _, rfl, ?_, ⟨_, rfl⟩, hW, hsame.mono (by decide) (by decide)⟩
  · show Steps p.tables e below (s₁.setTop (mkF m 0 #[.val (.ref a1)] [])) _
    refine XS.aloadN X0.here hx rfl (hb hby own_d_prog_24_method_7_0) rfl rfl ?_
    show Steps p.tables e below (s₁.setTop (mkF m 1 #[.val (.ref a1)] [(.ref a1)])) _
    refine st1 _ ?_
    show Steps p.tables e below (T1.setTop (mkF m 4 #[.val (.ref a1)] [(.ref o2)])) _
    refine st2 _ ?_
    show Steps p.tables e below (T2.setTop (mkF m 7 #[.val (.ref a1)] [(.ref k_STRING_MIDDLE), (.ref o2)])) _
    refine Jvm.RoadKit.acmp (g := (mkF m 7 #[.val (.ref a1)] [(.ref k_STRING_MIDDLE), (.ref o2)])) X2 hx rfl rfl rfl (pc0 := 7) (pc' := 10) (same := false) rfl (hb hby own_d_prog_24_method_7_7) rfl (decide_eq_false fun q => neh3 (Value.ref.inj q)) (by decide) (by decide) ?_
    show Steps p.tables e below (T2.setTop (mkF m 10 #[.val (.ref a1)] [])) _
    refine XS.aloadN X2.here hx rfl (hb hby own_d_prog_24_method_7_10) rfl rfl ?_
    show Steps p.tables e below (T2.setTop (mkF m 11 #[.val (.ref a1)] [(.ref a1)])) _
    refine st4 _ ?_
    show Steps p.tables e below (T4.setTop (mkF m 14 #[.val (.ref a1)] [(.ref o2)])) _
    refine st5 _ ?_
    show Steps p.tables e below (T5.setTop (mkF m 17 #[.val (.ref a1)] [(.ref k_STRING_END), (.ref o2)])) _
    refine Jvm.RoadKit.acmp (g := (mkF m 17 #[.val (.ref a1)] [(.ref k_STRING_END), (.ref o2)])) X5 hx rfl rfl rfl (pc0 := 17) (pc' := 24) (same := false) rfl (hb hby own_d_prog_24_method_7_17) rfl (decide_eq_false fun q => neh6 (Value.ref.inj q)) (by decide) (by decide) ?_
    show Steps p.tables e below (T5.setTop (mkF m 24 #[.val (.ref a1)] [])) _
    refine XS.iconst X5.here hx rfl (hb hby own_d_prog_24_method_7_24) ?_
    show Steps p.tables e below (T5.setTop (mkF m 25 #[.val (.ref a1)] [(.int (0 : Int32))])) _
    exact retN X5 hx (t := .boolean) Bd.returns (by simp) (hb hby own_d_prog_24_method_7_25) hr
  · show own_Qrm_avC Z G1 k_WORD k_STRING k_STRING_START k_STRING_MIDDLE k_STRING_END k_SYMBOL k_END a1 o2 h0 n0 _ T5.heap _
    rw [e5]
    exact ⟨rfl, N0, rfl⟩
theorem own_pd4 : parseMethodDescriptor "(I)Lcom/example/mudwright/mudwright/Token$Kind;" = some ⟨[.int], some (.object "com/example/mudwright/mudwright/Token$Kind")⟩ := by decide +kernel
theorem own_pd5 : parseMethodDescriptor "([C)V" = some ⟨[(.array .char)], none⟩ := by decide +kernel
theorem own_pd6 : parseMethodDescriptor "(Lcom/example/mudwright/mudwright/Token$Kind;Ljava/lang/String;Ljava/lang/String;IIII)V" = some ⟨[(.object "com/example/mudwright/mudwright/Token$Kind"), (.object "java/lang/String"), (.object "java/lang/String"), .int, .int, .int, .int], none⟩ := by decide +kernel
theorem own_pd7 : parseMethodDescriptor "()Z" = some ⟨[], some .boolean⟩ := by decide +kernel
theorem own_eflawA (m : MethodId) (p1 : Int32) (p2 : Int32) (p3 : Int32) (p4 : Int32) (p5 : Int32) (p6 : Int32) : entryFrame m #[(.int p1), (.int p2), (.int p3), (.int p4), (.int p5), (.int p6)] maxLocals = mkF m 0 #[.val (.int p1), .val (.int p2), .val (.int p3), .val (.int p4), .val (.int p5), .val (.int p6), .unset, .unset, .unset, .unset, .unset, .unset, .unset] [] := by first | (simp [entryFrame, mkF, argsToLocals, Value.category, maxLocals]; done) | rfl
set_option maxRecDepth 65536 in
set_option maxHeartbeats 40000000 in
theorem own_lawA (l : Launch) (Z : State) (a0 : Array Value) (hw : ∀ d ∈ tables_1, d.before a0 Z = true) (ws : List Jvm.Cond) (G1 : Int32) (k_WORD : Addr) (k_STRING : Addr) (k_STRING_START : Addr) (k_STRING_MIDDLE : Addr) (k_STRING_END : Addr) (k_SYMBOL : Addr) (k_END : Addr) (gl : own_Glob Z G1 k_WORD k_STRING k_STRING_START k_STRING_MIDDLE k_STRING_END k_SYMBOL k_END) (p1 : Int32) (p2 : Int32) (p3 : Int32) (p4 : Int32) (p5 : Int32) (p6 : Int32) (h0 : Heap) (n0 : Nat) (Z0 : n0 ≤ h0.size) (X00 : Old Z n0 h0) (hk : own_k p1 = 3) :
    MetFree l x (head1 (Jvm.Cond.code x code maxLocals ret :: ws) room_1) (fun a U => a = #[(.int p1), (.int p2), (.int p3), (.int p4), (.int p5), (.int p6)] ∧ Z.Warmed39 U.vm ∧ U.heap = h0) (fun _ _ _ _ _ => True) (fun _ U o U' => ∃ v L, o = .returned v ∧ own_Qlaw h0 n0 v U'.heap L ∧ ReturnedEndW U o U' L room_1.cells room_1.slots) := by
  refine MetFree.of_bodySF (plainFor_of_name own_pn0) hisR ?_
  intro p e s m args below meth c s₁ Bd hml0 hP hK
  obtain ⟨rfl, hZ, hh⟩ := hP
  obtain ⟨O_CS, P_CS, O_WORD, E_WORD, O_STRING, E_STRING, O_STRING_START, E_STRING_START, O_STRING_MIDDLE, E_STRING_MIDDLE, O_STRING_END, E_STRING_END, O_SYMBOL, E_SYMBOL, O_END, E_END, ne_WORD_STRING_MIDDLE, ne_WORD_STRING_END, ne_STRING_STRING_MIDDLE, ne_STRING_STRING_END, ne_STRING_START_STRING_MIDDLE, ne_STRING_START_STRING_END, ne_STRING_MIDDLE_STRING_END, ne_SYMBOL_STRING_MIDDLE, ne_SYMBOL_STRING_END, ne_END_STRING_MIDDLE, ne_END_STRING_END⟩ := id gl
  have hx := Bd.exec
  have hby := Bd.bytes
  have hml : c.maxLocals = 13 := hml0
  have hown : s.vm.findClass "com/example/mudwright/mudwright/TokenIsAfterValuePinLaw" = some m.cls := findClass_of_methodNamed Bd.named
  have hnm := (name_of_methodNamed Bd.named Bd.method).1
  have X0 : Stand p l e room_1 s m #[(.int p1), (.int p2), (.int p3), (.int p4), (.int p5), (.int p6)] below meth c s₁ [] 0 0 := Stand.of_body Bd
  have e0 : s₁.heap = h0 := by rw [← hh, Bd.state]; rfl
  have N0 := Fr.nil n0
  have pre0 : ∀ t, Steps p.tables e below (s₁.setTop (mkF m 0 #[.val (.int p1), .val (.int p2), .val (.int p3), .val (.int p4), .val (.int p5), .val (.int p6), .unset, .unset, .unset, .unset, .unset, .unset, .unset] [])) t → Steps p.tables e below (s₁.setTop (entryFrame m #[(.int p1), (.int p2), (.int p3), (.int p4), (.int p5), (.int p6)] maxLocals)) t := fun t k => castTop (own_eflawA m p1 p2 p3 p4 p5 p6) k
  obtain ⟨_, _, ⟨T1, L1, k1, n1⟩, -, X1, ⟨Lc1, hQ1, l1, y1, z1⟩, st1⟩ := Jvm.LawKit.callS X0 hx (y := (⟨"com/example/mudwright/mudwright/TokenIsAfterValuePinLaw", "kindOf", "(I)Lcom/example/mudwright/mudwright/Token$Kind;"⟩ : MethodName)) hown (mvT hZ (hw _ (List.mem_of_getElem? (i := 1) rfl))) (mvT hZ (hw _ (List.mem_of_getElem? (i := 2) rfl))) (mvT hZ (hw _ (List.mem_of_getElem? (i := 3) rfl))) (mvT hZ (hw _ (List.mem_of_getElem? (i := 4) rfl))) (by decide) (backOf (W := 0) (own_rm_kind3 l Z a0 hw [] G1 k_WORD k_STRING k_STRING_START k_STRING_MIDDLE k_STRING_END k_SYMBOL k_END gl (3 : Int32) h0 n0 Z0 X00 (by decide : ¬ ((3 : Int32) = (0 : Int32))) (by decide : ¬ ((3 : Int32) = (1 : Int32))) (by decide : ¬ ((3 : Int32) = (2 : Int32))) (rfl : (3 : Int32) = (3 : Int32))) hZ (hw _ (List.mem_of_getElem? (i := 4) rfl)) (hw _ (List.mem_of_getElem? (i := 3) rfl)) (by decide) (by decide)) (g := (mkF m 11 #[.val (.int p1), .val (.int p2), .val (.int p3), .val (.int p4), .val (.int p5), .val (.int p6), .val (.int (3 : Int32)), .unset, .unset, .unset, .unset, .unset, .unset] [(.int (3 : Int32))])) rfl (by rw [hml]; rfl) (argsL := [(.int (3 : Int32))]) (rest := []) (lenOf own_pd4 rfl) rfl (by show 2 * 0 + _ ≤ _; exact Nat.le_of_eq rfl) (hb hby at_11) (fun _ _ => ⟨rfl, e0, (by decide : 0 + 0 ≤ _), (by decide : 0 + 0 ≤ _)⟩)
  dsimp only [Pt.U, Pt.locs, Pt.cells, Pt.slots] at X1 l1 y1 z1 st1 hQ1
  subst y1 z1
  obtain ⟨rfl, Nq1, e1⟩ := hQ1
  have N1 : Fr n0 L1 := by rw [l1]; exact Fr.app N0 Nq1
  obtain ⟨T2, h2, k2, X2, e2, E2, A2, st2⟩ := newP X1 hx hZ (hw _ (List.mem_of_getElem? (i := 8) rfl)) e1 (g := (mkF m 17 #[.val (.int p1), .val (.int p2), .val (.int p3), .val (.int p4), .val (.int p5), .val (.int p6), .val (.int (3 : Int32)), .val (.ref k_STRING_MIDDLE), .unset, .unset, .unset, .unset, .unset] [(.int (2 : Int32))])) rfl (hb hby at_17) rfl (by decide) (cap := 2) (by decide) (by decide) (by decide) (by decide)
  obtain ⟨b2, g2⟩ : ∃ z, z = h0.size := ⟨_, rfl⟩
  rw [← g2] at A2 st2
  have Kp3 : Keep h0 h2 [] := (Keep.refl h0 []).ext E2
  have Vh4 : Arv Z h2 b2 k2 .char (2 : Int32) [(.int (0 : Int32)), (.int (0 : Int32))] (.int (0 : Int32)) := (Arv.new A2 (by decide)).pad (pad_rep [] (.int (0 : Int32)) 2)
  obtain ⟨cl5, Ar5, qc5, Sz5, Ng5, Hs5, Gs5⟩ := id Vh4
  have hin5 : ¬ ((0 : Int32) < 0 ∨ cl5.slots.size ≤ ((0 : Int32)).toNatClampNeg) := inb_of Sz5 ⟨(by decide), (by decide)⟩
  obtain ⟨T6, h6, X6, e6, W6, st6⟩ := stC X2 hx hZ e2 Ar5 (j := (0 : Int32)) hin5 (g := (mkF m 30 #[.val (.int p1), .val (.int p2), .val (.int p3), .val (.int p4), .val (.int p5), .val (.int p6), .val (.int (3 : Int32)), .val (.ref k_STRING_MIDDLE), .val (.ref b2), .unset, .unset, .unset, .unset] [(.int ((p2 &&& (255 : Int32)).toUInt32.toUInt16.toUInt32.toInt32)), (.int (0 : Int32)), (.ref b2)])) rfl rfl (hb hby at_30)
  have Kp7 : Keep h0 h6 [] := Kp3.wr W6 (Or.inr (Nat.le_trans (Keep.refl h0 []).1 (Nat.le_of_eq g2.symm)))
  have gh8 : n0 ≤ b2 := Nat.le_trans Z0 (Nat.le_of_eq g2.symm)
  obtain ⟨Lp6, X6, N6⟩ := own_pack X6 (Fr.snoc X6 N1 gh8)
  have Vh9 : Arv Z h6 b2 k2 .char (2 : Int32) [(.int (own_ch p2)), (.int (0 : Int32))] (.int (0 : Int32)) := (Arv.set Ar5 qc5 Sz5 Ng5 Hs5 Gs5 (fits_nar_char _) W6 0 rfl (Nat.le_of_ble_eq_true rfl))
  obtain ⟨cl10, Ar10, qc10, Sz10, Ng10, Hs10, Gs10⟩ := id Vh9
  have hin10 : ¬ ((1 : Int32) < 0 ∨ cl10.slots.size ≤ ((1 : Int32)).toNatClampNeg) := inb_of Sz10 ⟨(by decide), (by decide)⟩
  obtain ⟨T11, h11, X11, e11, W11, st11⟩ := stC X6 hx hZ e6 Ar10 (j := (1 : Int32)) hin10 (g := (mkF m 43 #[.val (.int p1), .val (.int p2), .val (.int p3), .val (.int p4), .val (.int p5), .val (.int p6), .val (.int (3 : Int32)), .val (.ref k_STRING_MIDDLE), .val (.ref b2), .unset, .unset, .unset, .unset] [(.int ((((p2.toUInt32 >>> ((8 : Int32) &&& 31).toUInt32).toInt32) &&& (255 : Int32)).toUInt32.toUInt16.toUInt32.toInt32)), (.int (1 : Int32)), (.ref b2)])) rfl rfl (hb hby at_43)
  have Kp12 : Keep h0 h11 [] := Kp7.wr W11 (Or.inr (Nat.le_trans (Keep.refl h0 []).1 (Nat.le_of_eq g2.symm)))
  obtain ⟨Lp11, X11, N11⟩ := own_pack X11 (Fr.snoc X11 N6 gh8)
  have Vh13 : Arv Z h11 b2 k2 .char (2 : Int32) [(.int (own_ch p2)), (.int (own_ch ((p2.toUInt32 >>> ((8 : Int32) &&& 31).toUInt32).toInt32)))] (.int (0 : Int32)) := (Arv.set Ar10 qc10 Sz10 Ng10 Hs10 Gs10 (fits_nar_char _) W11 1 rfl (Nat.le_of_ble_eq_true rfl))
  obtain ⟨T14, h14, X14, e14, E14, A14, D14, U14, st14⟩ := newO X11 hx hZ hown (hw _ (List.mem_of_getElem? (i := 9) rfl)) (hw _ (List.mem_of_getElem? (i := 10) rfl)) (hw _ (List.mem_of_getElem? (i := 11) rfl)) e11 (g := (mkF m 44 #[.val (.int p1), .val (.int p2), .val (.int p3), .val (.int p4), .val (.int p5), .val (.int p6), .val (.int (3 : Int32)), .val (.ref k_STRING_MIDDLE), .val (.ref b2), .unset, .unset, .unset, .unset] [])) rfl (hb hby at_44) (by decide) (by decide)
  obtain ⟨b14, g14⟩ : ∃ z, z = h11.size := ⟨_, rfl⟩
  rw [← g14] at A14 D14 U14 st14
  have Kp15 : Keep h0 h14 [] := Kp12.ext E14
  have Fh16 : Fld Z h14 b14 "java/lang/String" "value" "[B" .null := (D14 (Or.inr (hw _ (List.mem_of_getElem? (i := 37) rfl))) (ty := (.array .byte)) (by decide))
  have Fh17 : Fld Z h14 b14 "java/lang/String" "coder" "B" (.int (0 : Int32)) := (D14 (Or.inr (hw _ (List.mem_of_getElem? (i := 35) rfl))) (ty := .byte) (by decide))
  have Vh18 : Arv Z h14 b2 k2 .char (2 : Int32) [(.int (own_ch p2)), (.int (own_ch ((p2.toUInt32 >>> ((8 : Int32) &&& 31).toUInt32).toInt32)))] (.int (0 : Int32)) := (Vh13.ext E14)
  have hph19 : ∀ c ∈ ([(own_ch p2), (own_ch ((p2.toUInt32 >>> ((8 : Int32) &&& 31).toUInt32).toInt32))] : List Int32), ¬ c < 0 ∧ ¬ (255 : Int32) < c := (own_cS (own_rng_ch p2) (own_cS (own_rng_ch ((p2.toUInt32 >>> ((8 : Int32) &&& 31).toUInt32).toInt32)) own_c0))
  have hws_words : ∀ d ∈ StrChars.Road.words, d.before a0 Z = true := fun d hd => hw d (own_hws_words d hd)
  have Zh20 : n0 ≤ h14.size := (Nat.le_trans Z0 Kp15.1)
  have gh21 : n0 ≤ b14 := Nat.le_trans (Nat.le_trans Z0 Kp12.1) (Nat.le_of_eq g14.symm)
  have Old22 : Old Z n0 h2 := X00.ext E2
  have Old23 : Old Z n0 h6 := Old22.wr W6 gh8
  have Old24 : Old Z n0 h11 := Old23.wr W11 gh8
  have Old25 : Old Z n0 h14 := Old24.ext E14
  obtain ⟨_, _, ⟨T26, L26, k26, n26⟩, -, X26, ⟨Lc26, hQ26, l26, y26, z26⟩, st26⟩ := X14.specialBack hx (y := (⟨"java/lang/String", "<init>", "([C)V"⟩ : MethodName)) rfl hown (mvT hZ (hw _ (List.mem_of_getElem? (i := 12) rfl))) (mvT hZ (hw _ (List.mem_of_getElem? (i := 13) rfl))) (mvT hZ (hw _ (List.mem_of_getElem? (i := 14) rfl))) (by decide) (StrChars.Road.backV (W := 1) hZ hws_words (kI := 4) (hw _ (List.mem_of_getElem? (i := 10) rfl)) (cs := ([(own_ch p2), (own_ch ((p2.toUInt32 >>> ((8 : Int32) &&& 31).toUInt32).toInt32))] : List Int32)) (bs := ([(own_ch p2), (own_ch ((p2.toUInt32 >>> ((8 : Int32) &&& 31).toUInt32).toInt32))] : List Int32).map (fun c => c.toInt8.toInt32)) (n := 2) gh21 Zh20 A14 Fh16 Fh17 Vh18 (O_CS.ext Old25.2) P_CS rfl rfl (by decide) (by decide) hph19 rfl (by decide) (by decide)) (g := (mkF m 50 #[.val (.int p1), .val (.int p2), .val (.int p3), .val (.int p4), .val (.int p5), .val (.int p6), .val (.int (3 : Int32)), .val (.ref k_STRING_MIDDLE), .val (.ref b2), .unset, .unset, .unset, .unset] [(.ref b2), (.ref b14), (.ref b14)])) rfl (by rw [hml]; rfl) (Steps.refl _) (a := b14) (argsL := [(.ref b2)]) (rest := [(.ref b14)]) (lenOf own_pd5 rfl) rfl (by show 2 * 0 + _ ≤ _; exact Nat.le_of_eq rfl) (hb hby at_50) (fun _ _ => ⟨rfl, e14, (by decide : 2 + 1 ≤ _), (by decide : 6 + 2 ≤ _)⟩)
  dsimp only [Pt.U, Pt.locs, Pt.cells, Pt.slots] at X26 l26 y26 z26 st26 hQ26
  subst y26 z26
  obtain ⟨rfl, Nq26, Kq26, Eq26, Cq26, t26, kb26, gt26, szt26, nt26, Vq26, Bq26⟩ := hQ26
  have N26 : Fr n0 L26 := by rw [l26]; exact Fr.app N11 Nq26
  have Kp27 : Keep h0 T26.heap [] := Kp15.trans Kq26 (allS (Or.inr (Nat.le_trans Kp12.1 (Nat.le_of_eq g14.symm))) all0)
  obtain ⟨T28, h28, X28, e28, E28, A28, D28, U28, st28⟩ := newO X26 hx hZ hown (hw _ (List.mem_of_getElem? (i := 38) rfl)) (hw _ (List.mem_of_getElem? (i := 39) rfl)) (hw _ (List.mem_of_getElem? (i := 40) rfl)) rfl (g := (mkF m 55 #[.val (.int p1), .val (.int p2), .val (.int p3), .val (.int p4), .val (.int p5), .val (.int p6), .val (.int (3 : Int32)), .val (.ref k_STRING_MIDDLE), .val (.ref b2), .val (.ref b14), .unset, .unset, .unset] [])) rfl (hb hby at_55) (by decide) (by decide)
  obtain ⟨b28, g28⟩ : ∃ z, z = T26.heap.size := ⟨_, rfl⟩
  rw [← g28] at A28 D28 U28 st28
  have Kp29 : Keep h0 h28 [] := Kp27.ext E28
  obtain ⟨la30, T30, h30, kS30, X30, e30, E30, hS30, hk30, hZ30, hown30, st30⟩ := ldcS (s := s) (vm0 := s.vm) X28 hx hZ hown (hw _ (List.mem_of_getElem? (i := 41) rfl)) (fun d hd => hw d (own_strAtoms d hd)) e28 ((State.WarmedH.refl s).since 0) (Nat.zero_le _) (g := (mkF m 63 #[.val (.int p1), .val (.int p2), .val (.int p3), .val (.int p4), .val (.int p5), .val (.int p6), .val (.int (3 : Int32)), .val (.ref k_STRING_MIDDLE), .val (.ref b2), .val (.ref b14), .unset, .unset, .unset] [(.ref b14), (.ref k_STRING_MIDDLE), (.ref b28), (.ref b28)])) rfl (hb hby at_63) (n := 16) (by decide) (by decide) (by decide) (by decide)
  have Kp31 : Keep h0 h30 [] := Kp29.ext E30
  have Eh32 : Exa Z h30 b28 "com/example/mudwright/mudwright/Token" := (A28.ext E30)
  have Fh33 : Fld Z h28 b28 "com/example/mudwright/mudwright/Token" "kind" "Lcom/example/mudwright/mudwright/Token$Kind;" .null := (D28 (Or.inr (hw _ (List.mem_of_getElem? (i := 54) rfl))) (ty := (.object "com/example/mudwright/mudwright/Token$Kind")) (by decide))
  have Fh34 : Fld Z h30 b28 "com/example/mudwright/mudwright/Token" "kind" "Lcom/example/mudwright/mudwright/Token$Kind;" .null := (Fh33.ext E30)
  have gh35 : n0 ≤ b28 := Nat.le_trans (Nat.le_trans Z0 Kp27.1) (Nat.le_of_eq g28.symm)
  have Fh36 : Fld Z h28 b28 "com/example/mudwright/mudwright/Token" "text" "Ljava/lang/String;" .null := (D28 (Or.inr (hw _ (List.mem_of_getElem? (i := 56) rfl))) (ty := (.object "java/lang/String")) (by decide))
  have Fh37 : Fld Z h30 b28 "com/example/mudwright/mudwright/Token" "text" "Ljava/lang/String;" .null := (Fh36.ext E30)
  have Fh38 : Fld Z h28 b28 "com/example/mudwright/mudwright/Token" "file" "Ljava/lang/String;" .null := (D28 (Or.inr (hw _ (List.mem_of_getElem? (i := 58) rfl))) (ty := (.object "java/lang/String")) (by decide))
  have Fh39 : Fld Z h30 b28 "com/example/mudwright/mudwright/Token" "file" "Ljava/lang/String;" .null := (Fh38.ext E30)
  have Fh40 : Fld Z h28 b28 "com/example/mudwright/mudwright/Token" "line" "I" (.int (0 : Int32)) := (D28 (Or.inr (hw _ (List.mem_of_getElem? (i := 60) rfl))) (ty := .int) (by decide))
  have Fh41 : Fld Z h30 b28 "com/example/mudwright/mudwright/Token" "line" "I" (.int (0 : Int32)) := (Fh40.ext E30)
  have Fh42 : Fld Z h28 b28 "com/example/mudwright/mudwright/Token" "column" "I" (.int (0 : Int32)) := (D28 (Or.inr (hw _ (List.mem_of_getElem? (i := 62) rfl))) (ty := .int) (by decide))
  have Fh43 : Fld Z h30 b28 "com/example/mudwright/mudwright/Token" "column" "I" (.int (0 : Int32)) := (Fh42.ext E30)
  have Fh44 : Fld Z h28 b28 "com/example/mudwright/mudwright/Token" "endColumn" "I" (.int (0 : Int32)) := (D28 (Or.inr (hw _ (List.mem_of_getElem? (i := 64) rfl))) (ty := .int) (by decide))
  have Fh45 : Fld Z h30 b28 "com/example/mudwright/mudwright/Token" "endColumn" "I" (.int (0 : Int32)) := (Fh44.ext E30)
  have Fh46 : Fld Z h28 b28 "com/example/mudwright/mudwright/Token" "textColumn" "I" (.int (0 : Int32)) := (D28 (Or.inr (hw _ (List.mem_of_getElem? (i := 66) rfl))) (ty := .int) (by decide))
  have Fh47 : Fld Z h30 b28 "com/example/mudwright/mudwright/Token" "textColumn" "I" (.int (0 : Int32)) := (Fh46.ext E30)
  obtain ⟨_, _, ⟨T48, L48, k48, n48⟩, -, X48, ⟨Lc48, hQ48, l48, y48, z48⟩, st48⟩ := X30.specialBack hx (y := (⟨"com/example/mudwright/mudwright/Token", "<init>", "(Lcom/example/mudwright/mudwright/Token$Kind;Ljava/lang/String;Ljava/lang/String;IIII)V"⟩ : MethodName)) rfl hown30 (mvT hZ30 (hw _ (List.mem_of_getElem? (i := 44) rfl))) (mvT hZ30 (hw _ (List.mem_of_getElem? (i := 45) rfl))) (mvT hZ30 (hw _ (List.mem_of_getElem? (i := 46) rfl))) (by decide) (backOf (W := 1) (own_rm_tok l Z a0 hw [] G1 k_WORD k_STRING k_STRING_START k_STRING_MIDDLE k_STRING_END k_SYMBOL k_END gl b28 k_STRING_MIDDLE b14 la30 p3 p4 p5 p6 (.null) (.null) (.null) ((.int (0 : Int32))) ((.int (0 : Int32))) ((.int (0 : Int32))) ((.int (0 : Int32))) h30 n0 (Nat.le_trans Z0 Kp31.1) Eh32 Fh34 gh35 Fh37 Fh39 Fh41 Fh43 Fh45 Fh47) hZ30 (hw _ (List.mem_of_getElem? (i := 46) rfl)) (hw _ (List.mem_of_getElem? (i := 40) rfl)) (by decide) (by decide)) (g := (mkF m 71 #[.val (.int p1), .val (.int p2), .val (.int p3), .val (.int p4), .val (.int p5), .val (.int p6), .val (.int (3 : Int32)), .val (.ref k_STRING_MIDDLE), .val (.ref b2), .val (.ref b14), .unset, .unset, .unset] [(.int p6), (.int p5), (.int p4), (.int p3), (.ref la30), (.ref b14), (.ref k_STRING_MIDDLE), (.ref b28), (.ref b28)])) rfl (by rw [hml]; rfl) (Steps.refl _) (a := b28) (argsL := [(.ref k_STRING_MIDDLE), (.ref b14), (.ref la30), (.int p3), (.int p4), (.int p5), (.int p6)]) (rest := [(.ref b28)]) (lenOf own_pd6 rfl) rfl (by show 2 * 0 + _ ≤ _; exact Nat.le_of_eq rfl) (hb hby at_71) (fun _ _ => ⟨rfl, e30, (by decide : 6 + 0 ≤ _), (by decide : 35 + 0 ≤ _)⟩)
  dsimp only [Pt.U, Pt.locs, Pt.cells, Pt.slots] at X48 l48 y48 z48 st48 hQ48
  subst y48 z48
  obtain ⟨rfl, Nq48, Kq48, f48_0, f48_1, f48_2, f48_3, f48_4, f48_5, f48_6, f48_7⟩ := hQ48
  have N48 : Fr n0 L48 := by rw [l48]; exact Fr.app N26 Nq48
  have Kp49 : Keep h0 T48.heap [] := Kp31.trans Kq48 (allS (Or.inr (Nat.le_trans Kp27.1 (Nat.le_of_eq g28.symm))) all0)
  have Old50 : Old Z n0 T26.heap := Old25.keep Kq26 (allS gh21 all0)
  have Old51 : Old Z n0 h28 := Old50.ext E28
  have Old52 : Old Z n0 h30 := Old51.ext E30
  have Old53 : Old Z n0 T48.heap := Old52.keep Kq48 (allS gh35 all0)
  obtain ⟨cq54, kq54, q54a, q54b, q54c⟩ := isOf hZ30 rfl f48_0
  obtain ⟨_, _, ⟨T54, L54, k54, n54⟩, -, X54, ⟨Lc54, hQ54, l54, y54, z54⟩, st54⟩ := X48.virtualBack hx (y := (⟨"com/example/mudwright/mudwright/Token", "isAfterValue", "()Z"⟩ : MethodName)) (z := (⟨"com/example/mudwright/mudwright/Token", "isAfterValue", "()Z"⟩ : MethodName)) hown30 (mvT hZ30 (hw _ (List.mem_of_getElem? (i := 67) rfl))) (mvT hZ30 (hw _ (List.mem_of_getElem? (i := 68) rfl))) (notFace_of_selects (args := #[]) (mvT hZ30 (hw _ (List.mem_of_getElem? (i := 70) rfl)))) (mvT hZ30 (hw _ (List.mem_of_getElem? (i := 70) rfl))) (mvT hZ30 (hw _ (List.mem_of_getElem? (i := 69) rfl))) (by decide) (backOf (W := 0) (own_rm_av_STRING_MIDDLE l Z a0 hw [] G1 k_WORD k_STRING k_STRING_START k_STRING_MIDDLE k_STRING_END k_SYMBOL k_END gl b28 T48.heap n0 (Nat.le_trans Z0 Kp49.1) Old53 f48_1) hZ30 (hw _ (List.mem_of_getElem? (i := 71) rfl)) (hw _ (List.mem_of_getElem? (i := 40) rfl)) (by decide) (by decide)) q54a q54c (g := (mkF m 97 #[.val (.int p1), .val (.int p2), .val (.int p3), .val (.int p4), .val (.int p5), .val (.int p6), .val (.int (3 : Int32)), .val (.ref k_STRING_MIDDLE), .val (.ref b2), .val (.ref b14), .val (.ref b28), .val (.int (1 : Int32)), .unset] [(.ref b28)])) rfl (by rw [hml]; rfl) (Steps.refl _) (argsL := []) (rest := []) (lenOf own_pd7 rfl) rfl (by show 2 * 0 + _ ≤ _; exact Nat.le_of_eq rfl) (hb hby at_97) (fun _ _ => ⟨rfl, rfl, (by decide : 6 + 0 ≤ _), (by decide : 35 + 0 ≤ _)⟩)
  dsimp only [Pt.U, Pt.locs, Pt.cells, Pt.slots] at X54 l54 y54 z54 st54 hQ54
  subst y54 z54
  obtain ⟨rfl, Nq54, e54⟩ := hQ54
  have N54 : Fr n0 L54 := by rw [l54]; exact Fr.app N48 Nq54
  obtain ⟨cq55, kq55, q55a, q55b, q55c⟩ := isOf hZ30 e54 f48_0
  obtain ⟨_, _, ⟨T55, L55, k55, n55⟩, -, X55, ⟨Lc55, hQ55, l55, y55, z55⟩, st55⟩ := X54.virtualBack hx (y := (⟨"com/example/mudwright/mudwright/Token", "isString", "()Z"⟩ : MethodName)) (z := (⟨"com/example/mudwright/mudwright/Token", "isString", "()Z"⟩ : MethodName)) hown30 (mvT hZ30 (hw _ (List.mem_of_getElem? (i := 77) rfl))) (mvT hZ30 (hw _ (List.mem_of_getElem? (i := 78) rfl))) (notFace_of_selects (args := #[]) (mvT hZ30 (hw _ (List.mem_of_getElem? (i := 80) rfl)))) (mvT hZ30 (hw _ (List.mem_of_getElem? (i := 80) rfl))) (mvT hZ30 (hw _ (List.mem_of_getElem? (i := 79) rfl))) (by decide) (backOf (W := 0) (own_rm_is_STRING_MIDDLE l Z a0 hw [] G1 k_WORD k_STRING k_STRING_START k_STRING_MIDDLE k_STRING_END k_SYMBOL k_END gl b28 T48.heap n0 (Nat.le_trans Z0 Kp49.1) Old53 f48_1) hZ30 (hw _ (List.mem_of_getElem? (i := 81) rfl)) (hw _ (List.mem_of_getElem? (i := 40) rfl)) (by decide) (by decide)) q55a q55c (g := (mkF m 118 #[.val (.int p1), .val (.int p2), .val (.int p3), .val (.int p4), .val (.int p5), .val (.int p6), .val (.int (3 : Int32)), .val (.ref k_STRING_MIDDLE), .val (.ref b2), .val (.ref b14), .val (.ref b28), .val (.int (1 : Int32)), .val (.int (1 : Int32))] [(.ref b28)])) rfl (by rw [hml]; rfl) (Steps.refl _) (argsL := []) (rest := []) (lenOf own_pd7 rfl) rfl (by show 2 * 0 + _ ≤ _; exact Nat.le_of_eq rfl) (hb hby at_118) (fun _ _ => ⟨rfl, e54, (by decide : 6 + 0 ≤ _), (by decide : 35 + 0 ≤ _)⟩)
  dsimp only [Pt.U, Pt.locs, Pt.cells, Pt.slots] at X55 l55 y55 z55 st55 hQ55
  subst y55 z55
  obtain ⟨rfl, Nq55, e55⟩ := hQ55
  have N55 : Fr n0 L55 := by rw [l55]; exact Fr.app N54 Nq55
  obtain ⟨fs, hr, hrun, hended, hREW⟩ := X55.leaveW hS30 (by rw [e55]; exact (Nat.le_trans hk30 Kq48.1)) (v := some (.int (1 : Int32))) (fun h => by rw [Bd.returns] at h; cases h)
  refine ⟨_, _, pre0 _ ?_, hrun, hended, _, _, rfl, ?_, hREW.1, hREW.2.1, hREW.2.2.1, hREW.2.2.2.mono (by decide) (by decide)⟩
  · show Steps p.tables e below (s₁.setTop (mkF m 0 #[.val (.int p1), .val (.int p2), .val (.int p3), .val (.int p4), .val (.int p5), .val (.int p6), .unset, .unset, .unset, .unset, .unset, .unset, .unset] [])) _
    refine XS.iloadN X0.here hx rfl (hb hby at_0) rfl ?_
    show Steps p.tables e below (s₁.setTop (mkF m 1 #[.val (.int p1), .val (.int p2), .val (.int p3), .val (.int p4), .val (.int p5), .val (.int p6), .unset, .unset, .unset, .unset, .unset, .unset, .unset] [(.int p1)])) _
    refine X0.ldcInt hx hown (mvT hZ (hw _ (List.mem_of_getElem? (i := 0) rfl))) (g := (mkF m 1 #[.val (.int p1), .val (.int p2), .val (.int p3), .val (.int p4), .val (.int p5), .val (.int p6), .unset, .unset, .unset, .unset, .unset, .unset, .unset] [(.int p1)])) rfl (hb hby at_1) _ ?_
    show Steps p.tables e below (s₁.setTop (mkF m 3 #[.val (.int p1), .val (.int p2), .val (.int p3), .val (.int p4), .val (.int p5), .val (.int p6), .unset, .unset, .unset, .unset, .unset, .unset, .unset] [(.int (2147483647 : Int32)), (.int p1)])) _
    refine XS.iand X0.here hx rfl (hb hby at_3) rfl ?_
    show Steps p.tables e below (s₁.setTop (mkF m 4 #[.val (.int p1), .val (.int p2), .val (.int p3), .val (.int p4), .val (.int p5), .val (.int p6), .unset, .unset, .unset, .unset, .unset, .unset, .unset] [(.int (p1 &&& (2147483647 : Int32)))])) _
    refine XS.bipush X0.here hx rfl (hb hby at_4) ?_
    show Steps p.tables e below (s₁.setTop (mkF m 6 #[.val (.int p1), .val (.int p2), .val (.int p3), .val (.int p4), .val (.int p5), .val (.int p6), .unset, .unset, .unset, .unset, .unset, .unset, .unset] [(.int (7 : Int32)), (.int (p1 &&& (2147483647 : Int32)))])) _
    refine iremM X0 hx rfl (hb hby at_6) rfl (by decide) ?_
    show Steps p.tables e below (s₁.setTop (mkF m 7 #[.val (.int p1), .val (.int p2), .val (.int p3), .val (.int p4), .val (.int p5), .val (.int p6), .unset, .unset, .unset, .unset, .unset, .unset, .unset] [(.int (own_k p1))])) _
    rw [hk]
    show Steps p.tables e below (s₁.setTop (mkF m 7 #[.val (.int p1), .val (.int p2), .val (.int p3), .val (.int p4), .val (.int p5), .val (.int p6), .unset, .unset, .unset, .unset, .unset, .unset, .unset] [(.int (3 : Int32))])) _
    refine XS.istore X0.here hx rfl (hb hby at_7) rfl (l' := #[.val (.int p1), .val (.int p2), .val (.int p3), .val (.int p4), .val (.int p5), .val (.int p6), .val (.int (3 : Int32)), .unset, .unset, .unset, .unset, .unset, .unset]) rfl ?_
    show Steps p.tables e below (s₁.setTop (mkF m 9 #[.val (.int p1), .val (.int p2), .val (.int p3), .val (.int p4), .val (.int p5), .val (.int p6), .val (.int (3 : Int32)), .unset, .unset, .unset, .unset, .unset, .unset] [])) _
    refine XS.iload X0.here hx rfl (hb hby at_9) rfl ?_
    show Steps p.tables e below (s₁.setTop (mkF m 11 #[.val (.int p1), .val (.int p2), .val (.int p3), .val (.int p4), .val (.int p5), .val (.int p6), .val (.int (3 : Int32)), .unset, .unset, .unset, .unset, .unset, .unset] [(.int (3 : Int32))])) _
    refine st1 _ ?_
    show Steps p.tables e below (T1.setTop (mkF m 14 #[.val (.int p1), .val (.int p2), .val (.int p3), .val (.int p4), .val (.int p5), .val (.int p6), .val (.int (3 : Int32)), .unset, .unset, .unset, .unset, .unset, .unset] [(.ref k_STRING_MIDDLE)])) _
    refine XS.astore X1.here hx rfl (hb hby at_14) rfl rfl (l' := #[.val (.int p1), .val (.int p2), .val (.int p3), .val (.int p4), .val (.int p5), .val (.int p6), .val (.int (3 : Int32)), .val (.ref k_STRING_MIDDLE), .unset, .unset, .unset, .unset, .unset]) rfl ?_
    show Steps p.tables e below (T1.setTop (mkF m 16 #[.val (.int p1), .val (.int p2), .val (.int p3), .val (.int p4), .val (.int p5), .val (.int p6), .val (.int (3 : Int32)), .val (.ref k_STRING_MIDDLE), .unset, .unset, .unset, .unset, .unset] [])) _
    refine XS.iconst X1.here hx rfl (hb hby at_16) ?_
    show Steps p.tables e below (T1.setTop (mkF m 17 #[.val (.int p1), .val (.int p2), .val (.int p3), .val (.int p4), .val (.int p5), .val (.int p6), .val (.int (3 : Int32)), .val (.ref k_STRING_MIDDLE), .unset, .unset, .unset, .unset, .unset] [(.int (2 : Int32))])) _
    refine st2 _ ?_
    show Steps p.tables e below (T2.setTop (mkF m 19 #[.val (.int p1), .val (.int p2), .val (.int p3), .val (.int p4), .val (.int p5), .val (.int p6), .val (.int (3 : Int32)), .val (.ref k_STRING_MIDDLE), .unset, .unset, .unset, .unset, .unset] [(.ref b2)])) _
    refine XS.astore X2.here hx rfl (hb hby at_19) rfl rfl (l' := #[.val (.int p1), .val (.int p2), .val (.int p3), .val (.int p4), .val (.int p5), .val (.int p6), .val (.int (3 : Int32)), .val (.ref k_STRING_MIDDLE), .val (.ref b2), .unset, .unset, .unset, .unset]) rfl ?_
    show Steps p.tables e below (T2.setTop (mkF m 21 #[.val (.int p1), .val (.int p2), .val (.int p3), .val (.int p4), .val (.int p5), .val (.int p6), .val (.int (3 : Int32)), .val (.ref k_STRING_MIDDLE), .val (.ref b2), .unset, .unset, .unset, .unset] [])) _
    refine XS.aload X2.here hx rfl (hb hby at_21) rfl rfl ?_
    show Steps p.tables e below (T2.setTop (mkF m 23 #[.val (.int p1), .val (.int p2), .val (.int p3), .val (.int p4), .val (.int p5), .val (.int p6), .val (.int (3 : Int32)), .val (.ref k_STRING_MIDDLE), .val (.ref b2), .unset, .unset, .unset, .unset] [(.ref b2)])) _
    refine XS.iconst X2.here hx rfl (hb hby at_23) ?_
    show Steps p.tables e below (T2.setTop (mkF m 24 #[.val (.int p1), .val (.int p2), .val (.int p3), .val (.int p4), .val (.int p5), .val (.int p6), .val (.int (3 : Int32)), .val (.ref k_STRING_MIDDLE), .val (.ref b2), .unset, .unset, .unset, .unset] [(.int (0 : Int32)), (.ref b2)])) _
    refine XS.iloadN X2.here hx rfl (hb hby at_24) rfl ?_
    show Steps p.tables e below (T2.setTop (mkF m 25 #[.val (.int p1), .val (.int p2), .val (.int p3), .val (.int p4), .val (.int p5), .val (.int p6), .val (.int (3 : Int32)), .val (.ref k_STRING_MIDDLE), .val (.ref b2), .unset, .unset, .unset, .unset] [(.int p2), (.int (0 : Int32)), (.ref b2)])) _
    refine XS.sipush X2.here hx rfl (hb hby at_25) ?_
    show Steps p.tables e below (T2.setTop (mkF m 28 #[.val (.int p1), .val (.int p2), .val (.int p3), .val (.int p4), .val (.int p5), .val (.int p6), .val (.int (3 : Int32)), .val (.ref k_STRING_MIDDLE), .val (.ref b2), .unset, .unset, .unset, .unset] [(.int (255 : Int32)), (.int p2), (.int (0 : Int32)), (.ref b2)])) _
    refine XS.iand X2.here hx rfl (hb hby at_28) rfl ?_
    show Steps p.tables e below (T2.setTop (mkF m 29 #[.val (.int p1), .val (.int p2), .val (.int p3), .val (.int p4), .val (.int p5), .val (.int p6), .val (.int (3 : Int32)), .val (.ref k_STRING_MIDDLE), .val (.ref b2), .unset, .unset, .unset, .unset] [(.int (p2 &&& (255 : Int32))), (.int (0 : Int32)), (.ref b2)])) _
    refine XS.i2c X2.here hx rfl (hb hby at_29) rfl ?_
    show Steps p.tables e below (T2.setTop (mkF m 30 #[.val (.int p1), .val (.int p2), .val (.int p3), .val (.int p4), .val (.int p5), .val (.int p6), .val (.int (3 : Int32)), .val (.ref k_STRING_MIDDLE), .val (.ref b2), .unset, .unset, .unset, .unset] [(.int ((p2 &&& (255 : Int32)).toUInt32.toUInt16.toUInt32.toInt32)), (.int (0 : Int32)), (.ref b2)])) _
    refine st6 _ ?_
    show Steps p.tables e below (T6.setTop (mkF m 31 #[.val (.int p1), .val (.int p2), .val (.int p3), .val (.int p4), .val (.int p5), .val (.int p6), .val (.int (3 : Int32)), .val (.ref k_STRING_MIDDLE), .val (.ref b2), .unset, .unset, .unset, .unset] [])) _
    refine XS.aload X6.here hx rfl (hb hby at_31) rfl rfl ?_
    show Steps p.tables e below (T6.setTop (mkF m 33 #[.val (.int p1), .val (.int p2), .val (.int p3), .val (.int p4), .val (.int p5), .val (.int p6), .val (.int (3 : Int32)), .val (.ref k_STRING_MIDDLE), .val (.ref b2), .unset, .unset, .unset, .unset] [(.ref b2)])) _
    refine XS.iconst X6.here hx rfl (hb hby at_33) ?_
    show Steps p.tables e below (T6.setTop (mkF m 34 #[.val (.int p1), .val (.int p2), .val (.int p3), .val (.int p4), .val (.int p5), .val (.int p6), .val (.int (3 : Int32)), .val (.ref k_STRING_MIDDLE), .val (.ref b2), .unset, .unset, .unset, .unset] [(.int (1 : Int32)), (.ref b2)])) _
    refine XS.iloadN X6.here hx rfl (hb hby at_34) rfl ?_
    show Steps p.tables e below (T6.setTop (mkF m 35 #[.val (.int p1), .val (.int p2), .val (.int p3), .val (.int p4), .val (.int p5), .val (.int p6), .val (.int (3 : Int32)), .val (.ref k_STRING_MIDDLE), .val (.ref b2), .unset, .unset, .unset, .unset] [(.int p2), (.int (1 : Int32)), (.ref b2)])) _
    refine XS.bipush X6.here hx rfl (hb hby at_35) ?_
    show Steps p.tables e below (T6.setTop (mkF m 37 #[.val (.int p1), .val (.int p2), .val (.int p3), .val (.int p4), .val (.int p5), .val (.int p6), .val (.int (3 : Int32)), .val (.ref k_STRING_MIDDLE), .val (.ref b2), .unset, .unset, .unset, .unset] [(.int (8 : Int32)), (.int p2), (.int (1 : Int32)), (.ref b2)])) _
    refine XS.iushr X6.here hx rfl (hb hby at_37) rfl ?_
    show Steps p.tables e below (T6.setTop (mkF m 38 #[.val (.int p1), .val (.int p2), .val (.int p3), .val (.int p4), .val (.int p5), .val (.int p6), .val (.int (3 : Int32)), .val (.ref k_STRING_MIDDLE), .val (.ref b2), .unset, .unset, .unset, .unset] [(.int ((p2.toUInt32 >>> ((8 : Int32) &&& 31).toUInt32).toInt32)), (.int (1 : Int32)), (.ref b2)])) _
    refine XS.sipush X6.here hx rfl (hb hby at_38) ?_
    show Steps p.tables e below (T6.setTop (mkF m 41 #[.val (.int p1), .val (.int p2), .val (.int p3), .val (.int p4), .val (.int p5), .val (.int p6), .val (.int (3 : Int32)), .val (.ref k_STRING_MIDDLE), .val (.ref b2), .unset, .unset, .unset, .unset] [(.int (255 : Int32)), (.int ((p2.toUInt32 >>> ((8 : Int32) &&& 31).toUInt32).toInt32)), (.int (1 : Int32)), (.ref b2)])) _
    refine XS.iand X6.here hx rfl (hb hby at_41) rfl ?_
    show Steps p.tables e below (T6.setTop (mkF m 42 #[.val (.int p1), .val (.int p2), .val (.int p3), .val (.int p4), .val (.int p5), .val (.int p6), .val (.int (3 : Int32)), .val (.ref k_STRING_MIDDLE), .val (.ref b2), .unset, .unset, .unset, .unset] [(.int (((p2.toUInt32 >>> ((8 : Int32) &&& 31).toUInt32).toInt32) &&& (255 : Int32))), (.int (1 : Int32)), (.ref b2)])) _
    refine XS.i2c X6.here hx rfl (hb hby at_42) rfl ?_
    show Steps p.tables e below (T6.setTop (mkF m 43 #[.val (.int p1), .val (.int p2), .val (.int p3), .val (.int p4), .val (.int p5), .val (.int p6), .val (.int (3 : Int32)), .val (.ref k_STRING_MIDDLE), .val (.ref b2), .unset, .unset, .unset, .unset] [(.int ((((p2.toUInt32 >>> ((8 : Int32) &&& 31).toUInt32).toInt32) &&& (255 : Int32)).toUInt32.toUInt16.toUInt32.toInt32)), (.int (1 : Int32)), (.ref b2)])) _
    refine st11 _ ?_
    show Steps p.tables e below (T11.setTop (mkF m 44 #[.val (.int p1), .val (.int p2), .val (.int p3), .val (.int p4), .val (.int p5), .val (.int p6), .val (.int (3 : Int32)), .val (.ref k_STRING_MIDDLE), .val (.ref b2), .unset, .unset, .unset, .unset] [])) _
    refine st14 _ ?_
    show Steps p.tables e below (T14.setTop (mkF m 47 #[.val (.int p1), .val (.int p2), .val (.int p3), .val (.int p4), .val (.int p5), .val (.int p6), .val (.int (3 : Int32)), .val (.ref k_STRING_MIDDLE), .val (.ref b2), .unset, .unset, .unset, .unset] [(.ref b14)])) _
    refine XS.dup X14.here hx rfl (hb hby at_47) rfl rfl ?_
    show Steps p.tables e below (T14.setTop (mkF m 48 #[.val (.int p1), .val (.int p2), .val (.int p3), .val (.int p4), .val (.int p5), .val (.int p6), .val (.int (3 : Int32)), .val (.ref k_STRING_MIDDLE), .val (.ref b2), .unset, .unset, .unset, .unset] [(.ref b14), (.ref b14)])) _
    refine XS.aload X14.here hx rfl (hb hby at_48) rfl rfl ?_
    show Steps p.tables e below (T14.setTop (mkF m 50 #[.val (.int p1), .val (.int p2), .val (.int p3), .val (.int p4), .val (.int p5), .val (.int p6), .val (.int (3 : Int32)), .val (.ref k_STRING_MIDDLE), .val (.ref b2), .unset, .unset, .unset, .unset] [(.ref b2), (.ref b14), (.ref b14)])) _
    refine st26.trans ?_
    show Steps p.tables e below (T26.setTop (mkF m 53 #[.val (.int p1), .val (.int p2), .val (.int p3), .val (.int p4), .val (.int p5), .val (.int p6), .val (.int (3 : Int32)), .val (.ref k_STRING_MIDDLE), .val (.ref b2), .unset, .unset, .unset, .unset] [(.ref b14)])) _
    refine XS.astore X26.here hx rfl (hb hby at_53) rfl rfl (l' := #[.val (.int p1), .val (.int p2), .val (.int p3), .val (.int p4), .val (.int p5), .val (.int p6), .val (.int (3 : Int32)), .val (.ref k_STRING_MIDDLE), .val (.ref b2), .val (.ref b14), .unset, .unset, .unset]) rfl ?_
    show Steps p.tables e below (T26.setTop (mkF m 55 #[.val (.int p1), .val (.int p2), .val (.int p3), .val (.int p4), .val (.int p5), .val (.int p6), .val (.int (3 : Int32)), .val (.ref k_STRING_MIDDLE), .val (.ref b2), .val (.ref b14), .unset, .unset, .unset] [])) _
    refine st28 _ ?_
    show Steps p.tables e below (T28.setTop (mkF m 58 #[.val (.int p1), .val (.int p2), .val (.int p3), .val (.int p4), .val (.int p5), .val (.int p6), .val (.int (3 : Int32)), .val (.ref k_STRING_MIDDLE), .val (.ref b2), .val (.ref b14), .unset, .unset, .unset] [(.ref b28)])) _
    refine XS.dup X28.here hx rfl (hb hby at_58) rfl rfl ?_
    show Steps p.tables e below (T28.setTop (mkF m 59 #[.val (.int p1), .val (.int p2), .val (.int p3), .val (.int p4), .val (.int p5), .val (.int p6), .val (.int (3 : Int32)), .val (.ref k_STRING_MIDDLE), .val (.ref b2), .val (.ref b14), .unset, .unset, .unset] [(.ref b28), (.ref b28)])) _
    refine XS.aload X28.here hx rfl (hb hby at_59) rfl rfl ?_
    show Steps p.tables e below (T28.setTop (mkF m 61 #[.val (.int p1), .val (.int p2), .val (.int p3), .val (.int p4), .val (.int p5), .val (.int p6), .val (.int (3 : Int32)), .val (.ref k_STRING_MIDDLE), .val (.ref b2), .val (.ref b14), .unset, .unset, .unset] [(.ref k_STRING_MIDDLE), (.ref b28), (.ref b28)])) _
    refine XS.aload X28.here hx rfl (hb hby at_61) rfl rfl ?_
    show Steps p.tables e below (T28.setTop (mkF m 63 #[.val (.int p1), .val (.int p2), .val (.int p3), .val (.int p4), .val (.int p5), .val (.int p6), .val (.int (3 : Int32)), .val (.ref k_STRING_MIDDLE), .val (.ref b2), .val (.ref b14), .unset, .unset, .unset] [(.ref b14), (.ref k_STRING_MIDDLE), (.ref b28), (.ref b28)])) _
    refine st30 _ ?_
    show Steps p.tables e below (T30.setTop (mkF m 65 #[.val (.int p1), .val (.int p2), .val (.int p3), .val (.int p4), .val (.int p5), .val (.int p6), .val (.int (3 : Int32)), .val (.ref k_STRING_MIDDLE), .val (.ref b2), .val (.ref b14), .unset, .unset, .unset] [(.ref la30), (.ref b14), (.ref k_STRING_MIDDLE), (.ref b28), (.ref b28)])) _
    refine XS.iloadN X30.here hx rfl (hb hby at_65) rfl ?_
    show Steps p.tables e below (T30.setTop (mkF m 66 #[.val (.int p1), .val (.int p2), .val (.int p3), .val (.int p4), .val (.int p5), .val (.int p6), .val (.int (3 : Int32)), .val (.ref k_STRING_MIDDLE), .val (.ref b2), .val (.ref b14), .unset, .unset, .unset] [(.int p3), (.ref la30), (.ref b14), (.ref k_STRING_MIDDLE), (.ref b28), (.ref b28)])) _
    refine XS.iloadN X30.here hx rfl (hb hby at_66) rfl ?_
    show Steps p.tables e below (T30.setTop (mkF m 67 #[.val (.int p1), .val (.int p2), .val (.int p3), .val (.int p4), .val (.int p5), .val (.int p6), .val (.int (3 : Int32)), .val (.ref k_STRING_MIDDLE), .val (.ref b2), .val (.ref b14), .unset, .unset, .unset] [(.int p4), (.int p3), (.ref la30), (.ref b14), (.ref k_STRING_MIDDLE), (.ref b28), (.ref b28)])) _
    refine XS.iload X30.here hx rfl (hb hby at_67) rfl ?_
    show Steps p.tables e below (T30.setTop (mkF m 69 #[.val (.int p1), .val (.int p2), .val (.int p3), .val (.int p4), .val (.int p5), .val (.int p6), .val (.int (3 : Int32)), .val (.ref k_STRING_MIDDLE), .val (.ref b2), .val (.ref b14), .unset, .unset, .unset] [(.int p5), (.int p4), (.int p3), (.ref la30), (.ref b14), (.ref k_STRING_MIDDLE), (.ref b28), (.ref b28)])) _
    refine XS.iload X30.here hx rfl (hb hby at_69) rfl ?_
    show Steps p.tables e below (T30.setTop (mkF m 71 #[.val (.int p1), .val (.int p2), .val (.int p3), .val (.int p4), .val (.int p5), .val (.int p6), .val (.int (3 : Int32)), .val (.ref k_STRING_MIDDLE), .val (.ref b2), .val (.ref b14), .unset, .unset, .unset] [(.int p6), (.int p5), (.int p4), (.int p3), (.ref la30), (.ref b14), (.ref k_STRING_MIDDLE), (.ref b28), (.ref b28)])) _
    refine st48.trans ?_
    show Steps p.tables e below (T48.setTop (mkF m 74 #[.val (.int p1), .val (.int p2), .val (.int p3), .val (.int p4), .val (.int p5), .val (.int p6), .val (.int (3 : Int32)), .val (.ref k_STRING_MIDDLE), .val (.ref b2), .val (.ref b14), .unset, .unset, .unset] [(.ref b28)])) _
    refine XS.astore X48.here hx rfl (hb hby at_74) rfl rfl (l' := #[.val (.int p1), .val (.int p2), .val (.int p3), .val (.int p4), .val (.int p5), .val (.int p6), .val (.int (3 : Int32)), .val (.ref k_STRING_MIDDLE), .val (.ref b2), .val (.ref b14), .val (.ref b28), .unset, .unset]) rfl ?_
    show Steps p.tables e below (T48.setTop (mkF m 76 #[.val (.int p1), .val (.int p2), .val (.int p3), .val (.int p4), .val (.int p5), .val (.int p6), .val (.int (3 : Int32)), .val (.ref k_STRING_MIDDLE), .val (.ref b2), .val (.ref b14), .val (.ref b28), .unset, .unset] [])) _
    refine XS.iload X48.here hx rfl (hb hby at_76) rfl ?_
    show Steps p.tables e below (T48.setTop (mkF m 78 #[.val (.int p1), .val (.int p2), .val (.int p3), .val (.int p4), .val (.int p5), .val (.int p6), .val (.int (3 : Int32)), .val (.ref k_STRING_MIDDLE), .val (.ref b2), .val (.ref b14), .val (.ref b28), .unset, .unset] [(.int (3 : Int32))])) _
    refine XS.iconst X48.here hx rfl (hb hby at_78) ?_
    show Steps p.tables e below (T48.setTop (mkF m 79 #[.val (.int p1), .val (.int p2), .val (.int p3), .val (.int p4), .val (.int p5), .val (.int p6), .val (.int (3 : Int32)), .val (.ref k_STRING_MIDDLE), .val (.ref b2), .val (.ref b14), .val (.ref b28), .unset, .unset] [(.int (3 : Int32)), (.int (3 : Int32))])) _
    refine XS.icmpYes X48.here hx rfl (pc0 := 79) (pc' := 88) rfl (hb hby at_79) rfl (teq (rfl : (3 : Int32) = (3 : Int32))).1 (by decide) (by decide) ?_
    show Steps p.tables e below (T48.setTop (mkF m 88 #[.val (.int p1), .val (.int p2), .val (.int p3), .val (.int p4), .val (.int p5), .val (.int p6), .val (.int (3 : Int32)), .val (.ref k_STRING_MIDDLE), .val (.ref b2), .val (.ref b14), .val (.ref b28), .unset, .unset] [])) _
    refine XS.iconst X48.here hx rfl (hb hby at_88) ?_
    show Steps p.tables e below (T48.setTop (mkF m 89 #[.val (.int p1), .val (.int p2), .val (.int p3), .val (.int p4), .val (.int p5), .val (.int p6), .val (.int (3 : Int32)), .val (.ref k_STRING_MIDDLE), .val (.ref b2), .val (.ref b14), .val (.ref b28), .unset, .unset] [(.int (1 : Int32))])) _
    refine XS.goto X48.here hx rfl (pc0 := 89) (pc' := 93) rfl (hb hby at_89) (by decide) (by decide) ?_
    show Steps p.tables e below (T48.setTop (mkF m 93 #[.val (.int p1), .val (.int p2), .val (.int p3), .val (.int p4), .val (.int p5), .val (.int p6), .val (.int (3 : Int32)), .val (.ref k_STRING_MIDDLE), .val (.ref b2), .val (.ref b14), .val (.ref b28), .unset, .unset] [(.int (1 : Int32))])) _
    refine XS.istore X48.here hx rfl (hb hby at_93) rfl (l' := #[.val (.int p1), .val (.int p2), .val (.int p3), .val (.int p4), .val (.int p5), .val (.int p6), .val (.int (3 : Int32)), .val (.ref k_STRING_MIDDLE), .val (.ref b2), .val (.ref b14), .val (.ref b28), .val (.int (1 : Int32)), .unset]) rfl ?_
    show Steps p.tables e below (T48.setTop (mkF m 95 #[.val (.int p1), .val (.int p2), .val (.int p3), .val (.int p4), .val (.int p5), .val (.int p6), .val (.int (3 : Int32)), .val (.ref k_STRING_MIDDLE), .val (.ref b2), .val (.ref b14), .val (.ref b28), .val (.int (1 : Int32)), .unset] [])) _
    refine XS.aload X48.here hx rfl (hb hby at_95) rfl rfl ?_
    show Steps p.tables e below (T48.setTop (mkF m 97 #[.val (.int p1), .val (.int p2), .val (.int p3), .val (.int p4), .val (.int p5), .val (.int p6), .val (.int (3 : Int32)), .val (.ref k_STRING_MIDDLE), .val (.ref b2), .val (.ref b14), .val (.ref b28), .val (.int (1 : Int32)), .unset] [(.ref b28)])) _
    refine st54.trans ?_
    show Steps p.tables e below (T54.setTop (mkF m 100 #[.val (.int p1), .val (.int p2), .val (.int p3), .val (.int p4), .val (.int p5), .val (.int p6), .val (.int (3 : Int32)), .val (.ref k_STRING_MIDDLE), .val (.ref b2), .val (.ref b14), .val (.ref b28), .val (.int (1 : Int32)), .unset] [(.int (1 : Int32))])) _
    refine XS.istore X54.here hx rfl (hb hby at_100) rfl (l' := #[.val (.int p1), .val (.int p2), .val (.int p3), .val (.int p4), .val (.int p5), .val (.int p6), .val (.int (3 : Int32)), .val (.ref k_STRING_MIDDLE), .val (.ref b2), .val (.ref b14), .val (.ref b28), .val (.int (1 : Int32)), .val (.int (1 : Int32))]) rfl ?_
    show Steps p.tables e below (T54.setTop (mkF m 102 #[.val (.int p1), .val (.int p2), .val (.int p3), .val (.int p4), .val (.int p5), .val (.int p6), .val (.int (3 : Int32)), .val (.ref k_STRING_MIDDLE), .val (.ref b2), .val (.ref b14), .val (.ref b28), .val (.int (1 : Int32)), .val (.int (1 : Int32))] [])) _
    refine XS.iload X54.here hx rfl (hb hby at_102) rfl ?_
    show Steps p.tables e below (T54.setTop (mkF m 104 #[.val (.int p1), .val (.int p2), .val (.int p3), .val (.int p4), .val (.int p5), .val (.int p6), .val (.int (3 : Int32)), .val (.ref k_STRING_MIDDLE), .val (.ref b2), .val (.ref b14), .val (.ref b28), .val (.int (1 : Int32)), .val (.int (1 : Int32))] [(.int (1 : Int32))])) _
    refine XS.iload X54.here hx rfl (hb hby at_104) rfl ?_
    show Steps p.tables e below (T54.setTop (mkF m 106 #[.val (.int p1), .val (.int p2), .val (.int p3), .val (.int p4), .val (.int p5), .val (.int p6), .val (.int (3 : Int32)), .val (.ref k_STRING_MIDDLE), .val (.ref b2), .val (.ref b14), .val (.ref b28), .val (.int (1 : Int32)), .val (.int (1 : Int32))] [(.int (1 : Int32)), (.int (1 : Int32))])) _
    refine XS.icmpYes X54.here hx rfl (pc0 := 106) (pc' := 111) rfl (hb hby at_106) rfl (teq (rfl : (1 : Int32) = (1 : Int32))).1 (by decide) (by decide) ?_
    show Steps p.tables e below (T54.setTop (mkF m 111 #[.val (.int p1), .val (.int p2), .val (.int p3), .val (.int p4), .val (.int p5), .val (.int p6), .val (.int (3 : Int32)), .val (.ref k_STRING_MIDDLE), .val (.ref b2), .val (.ref b14), .val (.ref b28), .val (.int (1 : Int32)), .val (.int (1 : Int32))] [])) _
    refine XS.iload X54.here hx rfl (hb hby at_111) rfl ?_
    show Steps p.tables e below (T54.setTop (mkF m 113 #[.val (.int p1), .val (.int p2), .val (.int p3), .val (.int p4), .val (.int p5), .val (.int p6), .val (.int (3 : Int32)), .val (.ref k_STRING_MIDDLE), .val (.ref b2), .val (.ref b14), .val (.ref b28), .val (.int (1 : Int32)), .val (.int (1 : Int32))] [(.int (1 : Int32))])) _
    refine XS.ifNo X54.here hx rfl (hb hby at_113) rfl ((if0 _ _).trans (feq (by decide : ¬ ((1 : Int32) = (0 : Int32)))).1) ?_
    show Steps p.tables e below (T54.setTop (mkF m 116 #[.val (.int p1), .val (.int p2), .val (.int p3), .val (.int p4), .val (.int p5), .val (.int p6), .val (.int (3 : Int32)), .val (.ref k_STRING_MIDDLE), .val (.ref b2), .val (.ref b14), .val (.ref b28), .val (.int (1 : Int32)), .val (.int (1 : Int32))] [])) _
    refine XS.aload X54.here hx rfl (hb hby at_116) rfl rfl ?_
    show Steps p.tables e below (T54.setTop (mkF m 118 #[.val (.int p1), .val (.int p2), .val (.int p3), .val (.int p4), .val (.int p5), .val (.int p6), .val (.int (3 : Int32)), .val (.ref k_STRING_MIDDLE), .val (.ref b2), .val (.ref b14), .val (.ref b28), .val (.int (1 : Int32)), .val (.int (1 : Int32))] [(.ref b28)])) _
    refine st55.trans ?_
    show Steps p.tables e below (T55.setTop (mkF m 121 #[.val (.int p1), .val (.int p2), .val (.int p3), .val (.int p4), .val (.int p5), .val (.int p6), .val (.int (3 : Int32)), .val (.ref k_STRING_MIDDLE), .val (.ref b2), .val (.ref b14), .val (.ref b28), .val (.int (1 : Int32)), .val (.int (1 : Int32))] [(.int (0 : Int32))])) _
    refine XS.ifYes X55.here hx rfl (pc0 := 121) (pc' := 126) rfl (hb hby at_121) rfl ((if0 _ _).trans (teq (rfl : (0 : Int32) = (0 : Int32))).1) (by decide) (by decide) ?_
    show Steps p.tables e below (T55.setTop (mkF m 126 #[.val (.int p1), .val (.int p2), .val (.int p3), .val (.int p4), .val (.int p5), .val (.int p6), .val (.int (3 : Int32)), .val (.ref k_STRING_MIDDLE), .val (.ref b2), .val (.ref b14), .val (.ref b28), .val (.int (1 : Int32)), .val (.int (1 : Int32))] [])) _
    refine XS.iconst X55.here hx rfl (hb hby at_126) ?_
    show Steps p.tables e below (T55.setTop (mkF m 127 #[.val (.int p1), .val (.int p2), .val (.int p3), .val (.int p4), .val (.int p5), .val (.int p6), .val (.int (3 : Int32)), .val (.ref k_STRING_MIDDLE), .val (.ref b2), .val (.ref b14), .val (.ref b28), .val (.int (1 : Int32)), .val (.int (1 : Int32))] [(.int (1 : Int32))])) _
    exact retN X55 hx (t := .boolean) Bd.returns (by simp) (hb hby at_127) hr
  · show own_Qlaw h0 n0 _ T55.heap _
    exact ⟨rfl, N55⟩
theorem own_eflawB (m : MethodId) (p1 : Int32) (p2 : Int32) (p3 : Int32) (p4 : Int32) (p5 : Int32) (p6 : Int32) : entryFrame m #[(.int p1), (.int p2), (.int p3), (.int p4), (.int p5), (.int p6)] maxLocals = mkF m 0 #[.val (.int p1), .val (.int p2), .val (.int p3), .val (.int p4), .val (.int p5), .val (.int p6), .unset, .unset, .unset, .unset, .unset, .unset, .unset] [] := by first | (simp [entryFrame, mkF, argsToLocals, Value.category, maxLocals]; done) | rfl
set_option maxRecDepth 65536 in
set_option maxHeartbeats 40000000 in
theorem own_lawB (l : Launch) (Z : State) (a0 : Array Value) (hw : ∀ d ∈ tables_1, d.before a0 Z = true) (ws : List Jvm.Cond) (G1 : Int32) (k_WORD : Addr) (k_STRING : Addr) (k_STRING_START : Addr) (k_STRING_MIDDLE : Addr) (k_STRING_END : Addr) (k_SYMBOL : Addr) (k_END : Addr) (gl : own_Glob Z G1 k_WORD k_STRING k_STRING_START k_STRING_MIDDLE k_STRING_END k_SYMBOL k_END) (p1 : Int32) (p2 : Int32) (p3 : Int32) (p4 : Int32) (p5 : Int32) (p6 : Int32) (h0 : Heap) (n0 : Nat) (Z0 : n0 ≤ h0.size) (X00 : Old Z n0 h0) (hk : own_k p1 = 4) :
    MetFree l x (head1 (Jvm.Cond.code x code maxLocals ret :: ws) room_1) (fun a U => a = #[(.int p1), (.int p2), (.int p3), (.int p4), (.int p5), (.int p6)] ∧ Z.Warmed39 U.vm ∧ U.heap = h0) (fun _ _ _ _ _ => True) (fun _ U o U' => ∃ v L, o = .returned v ∧ own_Qlaw h0 n0 v U'.heap L ∧ ReturnedEndW U o U' L room_1.cells room_1.slots) := by
  refine MetFree.of_bodySF (plainFor_of_name own_pn0) hisR ?_
  intro p e s m args below meth c s₁ Bd hml0 hP hK
  obtain ⟨rfl, hZ, hh⟩ := hP
  obtain ⟨O_CS, P_CS, O_WORD, E_WORD, O_STRING, E_STRING, O_STRING_START, E_STRING_START, O_STRING_MIDDLE, E_STRING_MIDDLE, O_STRING_END, E_STRING_END, O_SYMBOL, E_SYMBOL, O_END, E_END, ne_WORD_STRING_MIDDLE, ne_WORD_STRING_END, ne_STRING_STRING_MIDDLE, ne_STRING_STRING_END, ne_STRING_START_STRING_MIDDLE, ne_STRING_START_STRING_END, ne_STRING_MIDDLE_STRING_END, ne_SYMBOL_STRING_MIDDLE, ne_SYMBOL_STRING_END, ne_END_STRING_MIDDLE, ne_END_STRING_END⟩ := id gl
  have hx := Bd.exec
  have hby := Bd.bytes
  have hml : c.maxLocals = 13 := hml0
  have hown : s.vm.findClass "com/example/mudwright/mudwright/TokenIsAfterValuePinLaw" = some m.cls := findClass_of_methodNamed Bd.named
  have hnm := (name_of_methodNamed Bd.named Bd.method).1
  have X0 : Stand p l e room_1 s m #[(.int p1), (.int p2), (.int p3), (.int p4), (.int p5), (.int p6)] below meth c s₁ [] 0 0 := Stand.of_body Bd
  have e0 : s₁.heap = h0 := by rw [← hh, Bd.state]; rfl
  have N0 := Fr.nil n0
  have pre0 : ∀ t, Steps p.tables e below (s₁.setTop (mkF m 0 #[.val (.int p1), .val (.int p2), .val (.int p3), .val (.int p4), .val (.int p5), .val (.int p6), .unset, .unset, .unset, .unset, .unset, .unset, .unset] [])) t → Steps p.tables e below (s₁.setTop (entryFrame m #[(.int p1), (.int p2), (.int p3), (.int p4), (.int p5), (.int p6)] maxLocals)) t := fun t k => castTop (own_eflawB m p1 p2 p3 p4 p5 p6) k
  obtain ⟨_, _, ⟨T1, L1, k1, n1⟩, -, X1, ⟨Lc1, hQ1, l1, y1, z1⟩, st1⟩ := Jvm.LawKit.callS X0 hx (y := (⟨"com/example/mudwright/mudwright/TokenIsAfterValuePinLaw", "kindOf", "(I)Lcom/example/mudwright/mudwright/Token$Kind;"⟩ : MethodName)) hown (mvT hZ (hw _ (List.mem_of_getElem? (i := 1) rfl))) (mvT hZ (hw _ (List.mem_of_getElem? (i := 2) rfl))) (mvT hZ (hw _ (List.mem_of_getElem? (i := 3) rfl))) (mvT hZ (hw _ (List.mem_of_getElem? (i := 4) rfl))) (by decide) (backOf (W := 0) (own_rm_kind4 l Z a0 hw [] G1 k_WORD k_STRING k_STRING_START k_STRING_MIDDLE k_STRING_END k_SYMBOL k_END gl (4 : Int32) h0 n0 Z0 X00 (by decide : ¬ ((4 : Int32) = (0 : Int32))) (by decide : ¬ ((4 : Int32) = (1 : Int32))) (by decide : ¬ ((4 : Int32) = (2 : Int32))) (by decide : ¬ ((4 : Int32) = (3 : Int32))) (rfl : (4 : Int32) = (4 : Int32))) hZ (hw _ (List.mem_of_getElem? (i := 4) rfl)) (hw _ (List.mem_of_getElem? (i := 3) rfl)) (by decide) (by decide)) (g := (mkF m 11 #[.val (.int p1), .val (.int p2), .val (.int p3), .val (.int p4), .val (.int p5), .val (.int p6), .val (.int (4 : Int32)), .unset, .unset, .unset, .unset, .unset, .unset] [(.int (4 : Int32))])) rfl (by rw [hml]; rfl) (argsL := [(.int (4 : Int32))]) (rest := []) (lenOf own_pd4 rfl) rfl (by show 2 * 0 + _ ≤ _; exact Nat.le_of_eq rfl) (hb hby at_11) (fun _ _ => ⟨rfl, e0, (by decide : 0 + 0 ≤ _), (by decide : 0 + 0 ≤ _)⟩)
  dsimp only [Pt.U, Pt.locs, Pt.cells, Pt.slots] at X1 l1 y1 z1 st1 hQ1
  subst y1 z1
  obtain ⟨rfl, Nq1, e1⟩ := hQ1
  have N1 : Fr n0 L1 := by rw [l1]; exact Fr.app N0 Nq1
  obtain ⟨T2, h2, k2, X2, e2, E2, A2, st2⟩ := newP X1 hx hZ (hw _ (List.mem_of_getElem? (i := 8) rfl)) e1 (g := (mkF m 17 #[.val (.int p1), .val (.int p2), .val (.int p3), .val (.int p4), .val (.int p5), .val (.int p6), .val (.int (4 : Int32)), .val (.ref k_STRING_END), .unset, .unset, .unset, .unset, .unset] [(.int (2 : Int32))])) rfl (hb hby at_17) rfl (by decide) (cap := 2) (by decide) (by decide) (by decide) (by decide)
  obtain ⟨b2, g2⟩ : ∃ z, z = h0.size := ⟨_, rfl⟩
  rw [← g2] at A2 st2
  have Kp3 : Keep h0 h2 [] := (Keep.refl h0 []).ext E2
  have Vh4 : Arv Z h2 b2 k2 .char (2 : Int32) [(.int (0 : Int32)), (.int (0 : Int32))] (.int (0 : Int32)) := (Arv.new A2 (by decide)).pad (pad_rep [] (.int (0 : Int32)) 2)
  obtain ⟨cl5, Ar5, qc5, Sz5, Ng5, Hs5, Gs5⟩ := id Vh4
  have hin5 : ¬ ((0 : Int32) < 0 ∨ cl5.slots.size ≤ ((0 : Int32)).toNatClampNeg) := inb_of Sz5 ⟨(by decide), (by decide)⟩
  obtain ⟨T6, h6, X6, e6, W6, st6⟩ := stC X2 hx hZ e2 Ar5 (j := (0 : Int32)) hin5 (g := (mkF m 30 #[.val (.int p1), .val (.int p2), .val (.int p3), .val (.int p4), .val (.int p5), .val (.int p6), .val (.int (4 : Int32)), .val (.ref k_STRING_END), .val (.ref b2), .unset, .unset, .unset, .unset] [(.int ((p2 &&& (255 : Int32)).toUInt32.toUInt16.toUInt32.toInt32)), (.int (0 : Int32)), (.ref b2)])) rfl rfl (hb hby at_30)
  have Kp7 : Keep h0 h6 [] := Kp3.wr W6 (Or.inr (Nat.le_trans (Keep.refl h0 []).1 (Nat.le_of_eq g2.symm)))
  have gh8 : n0 ≤ b2 := Nat.le_trans Z0 (Nat.le_of_eq g2.symm)
  obtain ⟨Lp6, X6, N6⟩ := own_pack X6 (Fr.snoc X6 N1 gh8)
  have Vh9 : Arv Z h6 b2 k2 .char (2 : Int32) [(.int (own_ch p2)), (.int (0 : Int32))] (.int (0 : Int32)) := (Arv.set Ar5 qc5 Sz5 Ng5 Hs5 Gs5 (fits_nar_char _) W6 0 rfl (Nat.le_of_ble_eq_true rfl))
  obtain ⟨cl10, Ar10, qc10, Sz10, Ng10, Hs10, Gs10⟩ := id Vh9
  have hin10 : ¬ ((1 : Int32) < 0 ∨ cl10.slots.size ≤ ((1 : Int32)).toNatClampNeg) := inb_of Sz10 ⟨(by decide), (by decide)⟩
  obtain ⟨T11, h11, X11, e11, W11, st11⟩ := stC X6 hx hZ e6 Ar10 (j := (1 : Int32)) hin10 (g := (mkF m 43 #[.val (.int p1), .val (.int p2), .val (.int p3), .val (.int p4), .val (.int p5), .val (.int p6), .val (.int (4 : Int32)), .val (.ref k_STRING_END), .val (.ref b2), .unset, .unset, .unset, .unset] [(.int ((((p2.toUInt32 >>> ((8 : Int32) &&& 31).toUInt32).toInt32) &&& (255 : Int32)).toUInt32.toUInt16.toUInt32.toInt32)), (.int (1 : Int32)), (.ref b2)])) rfl rfl (hb hby at_43)
  have Kp12 : Keep h0 h11 [] := Kp7.wr W11 (Or.inr (Nat.le_trans (Keep.refl h0 []).1 (Nat.le_of_eq g2.symm)))
  obtain ⟨Lp11, X11, N11⟩ := own_pack X11 (Fr.snoc X11 N6 gh8)
  have Vh13 : Arv Z h11 b2 k2 .char (2 : Int32) [(.int (own_ch p2)), (.int (own_ch ((p2.toUInt32 >>> ((8 : Int32) &&& 31).toUInt32).toInt32)))] (.int (0 : Int32)) := (Arv.set Ar10 qc10 Sz10 Ng10 Hs10 Gs10 (fits_nar_char _) W11 1 rfl (Nat.le_of_ble_eq_true rfl))
  obtain ⟨T14, h14, X14, e14, E14, A14, D14, U14, st14⟩ := newO X11 hx hZ hown (hw _ (List.mem_of_getElem? (i := 9) rfl)) (hw _ (List.mem_of_getElem? (i := 10) rfl)) (hw _ (List.mem_of_getElem? (i := 11) rfl)) e11 (g := (mkF m 44 #[.val (.int p1), .val (.int p2), .val (.int p3), .val (.int p4), .val (.int p5), .val (.int p6), .val (.int (4 : Int32)), .val (.ref k_STRING_END), .val (.ref b2), .unset, .unset, .unset, .unset] [])) rfl (hb hby at_44) (by decide) (by decide)
  obtain ⟨b14, g14⟩ : ∃ z, z = h11.size := ⟨_, rfl⟩
  rw [← g14] at A14 D14 U14 st14
  have Kp15 : Keep h0 h14 [] := Kp12.ext E14
  have Fh16 : Fld Z h14 b14 "java/lang/String" "value" "[B" .null := (D14 (Or.inr (hw _ (List.mem_of_getElem? (i := 37) rfl))) (ty := (.array .byte)) (by decide))
  have Fh17 : Fld Z h14 b14 "java/lang/String" "coder" "B" (.int (0 : Int32)) := (D14 (Or.inr (hw _ (List.mem_of_getElem? (i := 35) rfl))) (ty := .byte) (by decide))
  have Vh18 : Arv Z h14 b2 k2 .char (2 : Int32) [(.int (own_ch p2)), (.int (own_ch ((p2.toUInt32 >>> ((8 : Int32) &&& 31).toUInt32).toInt32)))] (.int (0 : Int32)) := (Vh13.ext E14)
  have hph19 : ∀ c ∈ ([(own_ch p2), (own_ch ((p2.toUInt32 >>> ((8 : Int32) &&& 31).toUInt32).toInt32))] : List Int32), ¬ c < 0 ∧ ¬ (255 : Int32) < c := (own_cS (own_rng_ch p2) (own_cS (own_rng_ch ((p2.toUInt32 >>> ((8 : Int32) &&& 31).toUInt32).toInt32)) own_c0))
  have hws_words : ∀ d ∈ StrChars.Road.words, d.before a0 Z = true := fun d hd => hw d (own_hws_words d hd)
  have Zh20 : n0 ≤ h14.size := (Nat.le_trans Z0 Kp15.1)
  have gh21 : n0 ≤ b14 := Nat.le_trans (Nat.le_trans Z0 Kp12.1) (Nat.le_of_eq g14.symm)
  have Old22 : Old Z n0 h2 := X00.ext E2
  have Old23 : Old Z n0 h6 := Old22.wr W6 gh8
  have Old24 : Old Z n0 h11 := Old23.wr W11 gh8
  have Old25 : Old Z n0 h14 := Old24.ext E14
  obtain ⟨_, _, ⟨T26, L26, k26, n26⟩, -, X26, ⟨Lc26, hQ26, l26, y26, z26⟩, st26⟩ := X14.specialBack hx (y := (⟨"java/lang/String", "<init>", "([C)V"⟩ : MethodName)) rfl hown (mvT hZ (hw _ (List.mem_of_getElem? (i := 12) rfl))) (mvT hZ (hw _ (List.mem_of_getElem? (i := 13) rfl))) (mvT hZ (hw _ (List.mem_of_getElem? (i := 14) rfl))) (by decide) (StrChars.Road.backV (W := 1) hZ hws_words (kI := 4) (hw _ (List.mem_of_getElem? (i := 10) rfl)) (cs := ([(own_ch p2), (own_ch ((p2.toUInt32 >>> ((8 : Int32) &&& 31).toUInt32).toInt32))] : List Int32)) (bs := ([(own_ch p2), (own_ch ((p2.toUInt32 >>> ((8 : Int32) &&& 31).toUInt32).toInt32))] : List Int32).map (fun c => c.toInt8.toInt32)) (n := 2) gh21 Zh20 A14 Fh16 Fh17 Vh18 (O_CS.ext Old25.2) P_CS rfl rfl (by decide) (by decide) hph19 rfl (by decide) (by decide)) (g := (mkF m 50 #[.val (.int p1), .val (.int p2), .val (.int p3), .val (.int p4), .val (.int p5), .val (.int p6), .val (.int (4 : Int32)), .val (.ref k_STRING_END), .val (.ref b2), .unset, .unset, .unset, .unset] [(.ref b2), (.ref b14), (.ref b14)])) rfl (by rw [hml]; rfl) (Steps.refl _) (a := b14) (argsL := [(.ref b2)]) (rest := [(.ref b14)]) (lenOf own_pd5 rfl) rfl (by show 2 * 0 + _ ≤ _; exact Nat.le_of_eq rfl) (hb hby at_50) (fun _ _ => ⟨rfl, e14, (by decide : 2 + 1 ≤ _), (by decide : 6 + 2 ≤ _)⟩)
  dsimp only [Pt.U, Pt.locs, Pt.cells, Pt.slots] at X26 l26 y26 z26 st26 hQ26
  subst y26 z26
  obtain ⟨rfl, Nq26, Kq26, Eq26, Cq26, t26, kb26, gt26, szt26, nt26, Vq26, Bq26⟩ := hQ26
  have N26 : Fr n0 L26 := by rw [l26]; exact Fr.app N11 Nq26
  have Kp27 : Keep h0 T26.heap [] := Kp15.trans Kq26 (allS (Or.inr (Nat.le_trans Kp12.1 (Nat.le_of_eq g14.symm))) all0)
  obtain ⟨T28, h28, X28, e28, E28, A28, D28, U28, st28⟩ := newO X26 hx hZ hown (hw _ (List.mem_of_getElem? (i := 38) rfl)) (hw _ (List.mem_of_getElem? (i := 39) rfl)) (hw _ (List.mem_of_getElem? (i := 40) rfl)) rfl (g := (mkF m 55 #[.val (.int p1), .val (.int p2), .val (.int p3), .val (.int p4), .val (.int p5), .val (.int p6), .val (.int (4 : Int32)), .val (.ref k_STRING_END), .val (.ref b2), .val (.ref b14), .unset, .unset, .unset] [])) rfl (hb hby at_55) (by decide) (by decide)
  obtain ⟨b28, g28⟩ : ∃ z, z = T26.heap.size := ⟨_, rfl⟩
  rw [← g28] at A28 D28 U28 st28
  have Kp29 : Keep h0 h28 [] := Kp27.ext E28
  obtain ⟨la30, T30, h30, kS30, X30, e30, E30, hS30, hk30, hZ30, hown30, st30⟩ := ldcS (s := s) (vm0 := s.vm) X28 hx hZ hown (hw _ (List.mem_of_getElem? (i := 41) rfl)) (fun d hd => hw d (own_strAtoms d hd)) e28 ((State.WarmedH.refl s).since 0) (Nat.zero_le _) (g := (mkF m 63 #[.val (.int p1), .val (.int p2), .val (.int p3), .val (.int p4), .val (.int p5), .val (.int p6), .val (.int (4 : Int32)), .val (.ref k_STRING_END), .val (.ref b2), .val (.ref b14), .unset, .unset, .unset] [(.ref b14), (.ref k_STRING_END), (.ref b28), (.ref b28)])) rfl (hb hby at_63) (n := 16) (by decide) (by decide) (by decide) (by decide)
  have Kp31 : Keep h0 h30 [] := Kp29.ext E30
  have Eh32 : Exa Z h30 b28 "com/example/mudwright/mudwright/Token" := (A28.ext E30)
  have Fh33 : Fld Z h28 b28 "com/example/mudwright/mudwright/Token" "kind" "Lcom/example/mudwright/mudwright/Token$Kind;" .null := (D28 (Or.inr (hw _ (List.mem_of_getElem? (i := 54) rfl))) (ty := (.object "com/example/mudwright/mudwright/Token$Kind")) (by decide))
  have Fh34 : Fld Z h30 b28 "com/example/mudwright/mudwright/Token" "kind" "Lcom/example/mudwright/mudwright/Token$Kind;" .null := (Fh33.ext E30)
  have gh35 : n0 ≤ b28 := Nat.le_trans (Nat.le_trans Z0 Kp27.1) (Nat.le_of_eq g28.symm)
  have Fh36 : Fld Z h28 b28 "com/example/mudwright/mudwright/Token" "text" "Ljava/lang/String;" .null := (D28 (Or.inr (hw _ (List.mem_of_getElem? (i := 56) rfl))) (ty := (.object "java/lang/String")) (by decide))
  have Fh37 : Fld Z h30 b28 "com/example/mudwright/mudwright/Token" "text" "Ljava/lang/String;" .null := (Fh36.ext E30)
  have Fh38 : Fld Z h28 b28 "com/example/mudwright/mudwright/Token" "file" "Ljava/lang/String;" .null := (D28 (Or.inr (hw _ (List.mem_of_getElem? (i := 58) rfl))) (ty := (.object "java/lang/String")) (by decide))
  have Fh39 : Fld Z h30 b28 "com/example/mudwright/mudwright/Token" "file" "Ljava/lang/String;" .null := (Fh38.ext E30)
  have Fh40 : Fld Z h28 b28 "com/example/mudwright/mudwright/Token" "line" "I" (.int (0 : Int32)) := (D28 (Or.inr (hw _ (List.mem_of_getElem? (i := 60) rfl))) (ty := .int) (by decide))
  have Fh41 : Fld Z h30 b28 "com/example/mudwright/mudwright/Token" "line" "I" (.int (0 : Int32)) := (Fh40.ext E30)
  have Fh42 : Fld Z h28 b28 "com/example/mudwright/mudwright/Token" "column" "I" (.int (0 : Int32)) := (D28 (Or.inr (hw _ (List.mem_of_getElem? (i := 62) rfl))) (ty := .int) (by decide))
  have Fh43 : Fld Z h30 b28 "com/example/mudwright/mudwright/Token" "column" "I" (.int (0 : Int32)) := (Fh42.ext E30)
  have Fh44 : Fld Z h28 b28 "com/example/mudwright/mudwright/Token" "endColumn" "I" (.int (0 : Int32)) := (D28 (Or.inr (hw _ (List.mem_of_getElem? (i := 64) rfl))) (ty := .int) (by decide))
  have Fh45 : Fld Z h30 b28 "com/example/mudwright/mudwright/Token" "endColumn" "I" (.int (0 : Int32)) := (Fh44.ext E30)
  have Fh46 : Fld Z h28 b28 "com/example/mudwright/mudwright/Token" "textColumn" "I" (.int (0 : Int32)) := (D28 (Or.inr (hw _ (List.mem_of_getElem? (i := 66) rfl))) (ty := .int) (by decide))
  have Fh47 : Fld Z h30 b28 "com/example/mudwright/mudwright/Token" "textColumn" "I" (.int (0 : Int32)) := (Fh46.ext E30)
  obtain ⟨_, _, ⟨T48, L48, k48, n48⟩, -, X48, ⟨Lc48, hQ48, l48, y48, z48⟩, st48⟩ := X30.specialBack hx (y := (⟨"com/example/mudwright/mudwright/Token", "<init>", "(Lcom/example/mudwright/mudwright/Token$Kind;Ljava/lang/String;Ljava/lang/String;IIII)V"⟩ : MethodName)) rfl hown30 (mvT hZ30 (hw _ (List.mem_of_getElem? (i := 44) rfl))) (mvT hZ30 (hw _ (List.mem_of_getElem? (i := 45) rfl))) (mvT hZ30 (hw _ (List.mem_of_getElem? (i := 46) rfl))) (by decide) (backOf (W := 1) (own_rm_tok l Z a0 hw [] G1 k_WORD k_STRING k_STRING_START k_STRING_MIDDLE k_STRING_END k_SYMBOL k_END gl b28 k_STRING_END b14 la30 p3 p4 p5 p6 (.null) (.null) (.null) ((.int (0 : Int32))) ((.int (0 : Int32))) ((.int (0 : Int32))) ((.int (0 : Int32))) h30 n0 (Nat.le_trans Z0 Kp31.1) Eh32 Fh34 gh35 Fh37 Fh39 Fh41 Fh43 Fh45 Fh47) hZ30 (hw _ (List.mem_of_getElem? (i := 46) rfl)) (hw _ (List.mem_of_getElem? (i := 40) rfl)) (by decide) (by decide)) (g := (mkF m 71 #[.val (.int p1), .val (.int p2), .val (.int p3), .val (.int p4), .val (.int p5), .val (.int p6), .val (.int (4 : Int32)), .val (.ref k_STRING_END), .val (.ref b2), .val (.ref b14), .unset, .unset, .unset] [(.int p6), (.int p5), (.int p4), (.int p3), (.ref la30), (.ref b14), (.ref k_STRING_END), (.ref b28), (.ref b28)])) rfl (by rw [hml]; rfl) (Steps.refl _) (a := b28) (argsL := [(.ref k_STRING_END), (.ref b14), (.ref la30), (.int p3), (.int p4), (.int p5), (.int p6)]) (rest := [(.ref b28)]) (lenOf own_pd6 rfl) rfl (by show 2 * 0 + _ ≤ _; exact Nat.le_of_eq rfl) (hb hby at_71) (fun _ _ => ⟨rfl, e30, (by decide : 6 + 0 ≤ _), (by decide : 35 + 0 ≤ _)⟩)
  dsimp only [Pt.U, Pt.locs, Pt.cells, Pt.slots] at X48 l48 y48 z48 st48 hQ48
  subst y48 z48
  obtain ⟨rfl, Nq48, Kq48, f48_0, f48_1, f48_2, f48_3, f48_4, f48_5, f48_6, f48_7⟩ := hQ48
  have N48 : Fr n0 L48 := by rw [l48]; exact Fr.app N26 Nq48
  have Kp49 : Keep h0 T48.heap [] := Kp31.trans Kq48 (allS (Or.inr (Nat.le_trans Kp27.1 (Nat.le_of_eq g28.symm))) all0)
  have Old50 : Old Z n0 T26.heap := Old25.keep Kq26 (allS gh21 all0)
  have Old51 : Old Z n0 h28 := Old50.ext E28
  have Old52 : Old Z n0 h30 := Old51.ext E30
  have Old53 : Old Z n0 T48.heap := Old52.keep Kq48 (allS gh35 all0)
  obtain ⟨cq54, kq54, q54a, q54b, q54c⟩ := isOf hZ30 rfl f48_0
  obtain ⟨_, _, ⟨T54, L54, k54, n54⟩, -, X54, ⟨Lc54, hQ54, l54, y54, z54⟩, st54⟩ := X48.virtualBack hx (y := (⟨"com/example/mudwright/mudwright/Token", "isAfterValue", "()Z"⟩ : MethodName)) (z := (⟨"com/example/mudwright/mudwright/Token", "isAfterValue", "()Z"⟩ : MethodName)) hown30 (mvT hZ30 (hw _ (List.mem_of_getElem? (i := 67) rfl))) (mvT hZ30 (hw _ (List.mem_of_getElem? (i := 68) rfl))) (notFace_of_selects (args := #[]) (mvT hZ30 (hw _ (List.mem_of_getElem? (i := 70) rfl)))) (mvT hZ30 (hw _ (List.mem_of_getElem? (i := 70) rfl))) (mvT hZ30 (hw _ (List.mem_of_getElem? (i := 69) rfl))) (by decide) (backOf (W := 0) (own_rm_av_STRING_END l Z a0 hw [] G1 k_WORD k_STRING k_STRING_START k_STRING_MIDDLE k_STRING_END k_SYMBOL k_END gl b28 T48.heap n0 (Nat.le_trans Z0 Kp49.1) Old53 f48_1) hZ30 (hw _ (List.mem_of_getElem? (i := 71) rfl)) (hw _ (List.mem_of_getElem? (i := 40) rfl)) (by decide) (by decide)) q54a q54c (g := (mkF m 97 #[.val (.int p1), .val (.int p2), .val (.int p3), .val (.int p4), .val (.int p5), .val (.int p6), .val (.int (4 : Int32)), .val (.ref k_STRING_END), .val (.ref b2), .val (.ref b14), .val (.ref b28), .val (.int (1 : Int32)), .unset] [(.ref b28)])) rfl (by rw [hml]; rfl) (Steps.refl _) (argsL := []) (rest := []) (lenOf own_pd7 rfl) rfl (by show 2 * 0 + _ ≤ _; exact Nat.le_of_eq rfl) (hb hby at_97) (fun _ _ => ⟨rfl, rfl, (by decide : 6 + 0 ≤ _), (by decide : 35 + 0 ≤ _)⟩)
  dsimp only [Pt.U, Pt.locs, Pt.cells, Pt.slots] at X54 l54 y54 z54 st54 hQ54
  subst y54 z54
  obtain ⟨rfl, Nq54, e54⟩ := hQ54
  have N54 : Fr n0 L54 := by rw [l54]; exact Fr.app N48 Nq54
  obtain ⟨cq55, kq55, q55a, q55b, q55c⟩ := isOf hZ30 e54 f48_0
  obtain ⟨_, _, ⟨T55, L55, k55, n55⟩, -, X55, ⟨Lc55, hQ55, l55, y55, z55⟩, st55⟩ := X54.virtualBack hx (y := (⟨"com/example/mudwright/mudwright/Token", "isString", "()Z"⟩ : MethodName)) (z := (⟨"com/example/mudwright/mudwright/Token", "isString", "()Z"⟩ : MethodName)) hown30 (mvT hZ30 (hw _ (List.mem_of_getElem? (i := 77) rfl))) (mvT hZ30 (hw _ (List.mem_of_getElem? (i := 78) rfl))) (notFace_of_selects (args := #[]) (mvT hZ30 (hw _ (List.mem_of_getElem? (i := 80) rfl)))) (mvT hZ30 (hw _ (List.mem_of_getElem? (i := 80) rfl))) (mvT hZ30 (hw _ (List.mem_of_getElem? (i := 79) rfl))) (by decide) (backOf (W := 0) (own_rm_is_STRING_END l Z a0 hw [] G1 k_WORD k_STRING k_STRING_START k_STRING_MIDDLE k_STRING_END k_SYMBOL k_END gl b28 T48.heap n0 (Nat.le_trans Z0 Kp49.1) Old53 f48_1) hZ30 (hw _ (List.mem_of_getElem? (i := 81) rfl)) (hw _ (List.mem_of_getElem? (i := 40) rfl)) (by decide) (by decide)) q55a q55c (g := (mkF m 118 #[.val (.int p1), .val (.int p2), .val (.int p3), .val (.int p4), .val (.int p5), .val (.int p6), .val (.int (4 : Int32)), .val (.ref k_STRING_END), .val (.ref b2), .val (.ref b14), .val (.ref b28), .val (.int (1 : Int32)), .val (.int (1 : Int32))] [(.ref b28)])) rfl (by rw [hml]; rfl) (Steps.refl _) (argsL := []) (rest := []) (lenOf own_pd7 rfl) rfl (by show 2 * 0 + _ ≤ _; exact Nat.le_of_eq rfl) (hb hby at_118) (fun _ _ => ⟨rfl, e54, (by decide : 6 + 0 ≤ _), (by decide : 35 + 0 ≤ _)⟩)
  dsimp only [Pt.U, Pt.locs, Pt.cells, Pt.slots] at X55 l55 y55 z55 st55 hQ55
  subst y55 z55
  obtain ⟨rfl, Nq55, e55⟩ := hQ55
  have N55 : Fr n0 L55 := by rw [l55]; exact Fr.app N54 Nq55
  obtain ⟨fs, hr, hrun, hended, hREW⟩ := X55.leaveW hS30 (by rw [e55]; exact (Nat.le_trans hk30 Kq48.1)) (v := some (.int (1 : Int32))) (fun h => by rw [Bd.returns] at h; cases h)
  refine ⟨_, _, pre0 _ ?_, hrun, hended, _, _, rfl, ?_, hREW.1, hREW.2.1, hREW.2.2.1, hREW.2.2.2.mono (by decide) (by decide)⟩
  · show Steps p.tables e below (s₁.setTop (mkF m 0 #[.val (.int p1), .val (.int p2), .val (.int p3), .val (.int p4), .val (.int p5), .val (.int p6), .unset, .unset, .unset, .unset, .unset, .unset, .unset] [])) _
    refine XS.iloadN X0.here hx rfl (hb hby at_0) rfl ?_
    show Steps p.tables e below (s₁.setTop (mkF m 1 #[.val (.int p1), .val (.int p2), .val (.int p3), .val (.int p4), .val (.int p5), .val (.int p6), .unset, .unset, .unset, .unset, .unset, .unset, .unset] [(.int p1)])) _
    refine X0.ldcInt hx hown (mvT hZ (hw _ (List.mem_of_getElem? (i := 0) rfl))) (g := (mkF m 1 #[.val (.int p1), .val (.int p2), .val (.int p3), .val (.int p4), .val (.int p5), .val (.int p6), .unset, .unset, .unset, .unset, .unset, .unset, .unset] [(.int p1)])) rfl (hb hby at_1) _ ?_
    show Steps p.tables e below (s₁.setTop (mkF m 3 #[.val (.int p1), .val (.int p2), .val (.int p3), .val (.int p4), .val (.int p5), .val (.int p6), .unset, .unset, .unset, .unset, .unset, .unset, .unset] [(.int (2147483647 : Int32)), (.int p1)])) _
    refine XS.iand X0.here hx rfl (hb hby at_3) rfl ?_
    show Steps p.tables e below (s₁.setTop (mkF m 4 #[.val (.int p1), .val (.int p2), .val (.int p3), .val (.int p4), .val (.int p5), .val (.int p6), .unset, .unset, .unset, .unset, .unset, .unset, .unset] [(.int (p1 &&& (2147483647 : Int32)))])) _
    refine XS.bipush X0.here hx rfl (hb hby at_4) ?_
    show Steps p.tables e below (s₁.setTop (mkF m 6 #[.val (.int p1), .val (.int p2), .val (.int p3), .val (.int p4), .val (.int p5), .val (.int p6), .unset, .unset, .unset, .unset, .unset, .unset, .unset] [(.int (7 : Int32)), (.int (p1 &&& (2147483647 : Int32)))])) _
    refine iremM X0 hx rfl (hb hby at_6) rfl (by decide) ?_
    show Steps p.tables e below (s₁.setTop (mkF m 7 #[.val (.int p1), .val (.int p2), .val (.int p3), .val (.int p4), .val (.int p5), .val (.int p6), .unset, .unset, .unset, .unset, .unset, .unset, .unset] [(.int (own_k p1))])) _
    rw [hk]
    show Steps p.tables e below (s₁.setTop (mkF m 7 #[.val (.int p1), .val (.int p2), .val (.int p3), .val (.int p4), .val (.int p5), .val (.int p6), .unset, .unset, .unset, .unset, .unset, .unset, .unset] [(.int (4 : Int32))])) _
    refine XS.istore X0.here hx rfl (hb hby at_7) rfl (l' := #[.val (.int p1), .val (.int p2), .val (.int p3), .val (.int p4), .val (.int p5), .val (.int p6), .val (.int (4 : Int32)), .unset, .unset, .unset, .unset, .unset, .unset]) rfl ?_
    show Steps p.tables e below (s₁.setTop (mkF m 9 #[.val (.int p1), .val (.int p2), .val (.int p3), .val (.int p4), .val (.int p5), .val (.int p6), .val (.int (4 : Int32)), .unset, .unset, .unset, .unset, .unset, .unset] [])) _
    refine XS.iload X0.here hx rfl (hb hby at_9) rfl ?_
    show Steps p.tables e below (s₁.setTop (mkF m 11 #[.val (.int p1), .val (.int p2), .val (.int p3), .val (.int p4), .val (.int p5), .val (.int p6), .val (.int (4 : Int32)), .unset, .unset, .unset, .unset, .unset, .unset] [(.int (4 : Int32))])) _
    refine st1 _ ?_
    show Steps p.tables e below (T1.setTop (mkF m 14 #[.val (.int p1), .val (.int p2), .val (.int p3), .val (.int p4), .val (.int p5), .val (.int p6), .val (.int (4 : Int32)), .unset, .unset, .unset, .unset, .unset, .unset] [(.ref k_STRING_END)])) _
    refine XS.astore X1.here hx rfl (hb hby at_14) rfl rfl (l' := #[.val (.int p1), .val (.int p2), .val (.int p3), .val (.int p4), .val (.int p5), .val (.int p6), .val (.int (4 : Int32)), .val (.ref k_STRING_END), .unset, .unset, .unset, .unset, .unset]) rfl ?_
    show Steps p.tables e below (T1.setTop (mkF m 16 #[.val (.int p1), .val (.int p2), .val (.int p3), .val (.int p4), .val (.int p5), .val (.int p6), .val (.int (4 : Int32)), .val (.ref k_STRING_END), .unset, .unset, .unset, .unset, .unset] [])) _
    refine XS.iconst X1.here hx rfl (hb hby at_16) ?_
    show Steps p.tables e below (T1.setTop (mkF m 17 #[.val (.int p1), .val (.int p2), .val (.int p3), .val (.int p4), .val (.int p5), .val (.int p6), .val (.int (4 : Int32)), .val (.ref k_STRING_END), .unset, .unset, .unset, .unset, .unset] [(.int (2 : Int32))])) _
    refine st2 _ ?_
    show Steps p.tables e below (T2.setTop (mkF m 19 #[.val (.int p1), .val (.int p2), .val (.int p3), .val (.int p4), .val (.int p5), .val (.int p6), .val (.int (4 : Int32)), .val (.ref k_STRING_END), .unset, .unset, .unset, .unset, .unset] [(.ref b2)])) _
    refine XS.astore X2.here hx rfl (hb hby at_19) rfl rfl (l' := #[.val (.int p1), .val (.int p2), .val (.int p3), .val (.int p4), .val (.int p5), .val (.int p6), .val (.int (4 : Int32)), .val (.ref k_STRING_END), .val (.ref b2), .unset, .unset, .unset, .unset]) rfl ?_
    show Steps p.tables e below (T2.setTop (mkF m 21 #[.val (.int p1), .val (.int p2), .val (.int p3), .val (.int p4), .val (.int p5), .val (.int p6), .val (.int (4 : Int32)), .val (.ref k_STRING_END), .val (.ref b2), .unset, .unset, .unset, .unset] [])) _
    refine XS.aload X2.here hx rfl (hb hby at_21) rfl rfl ?_
    show Steps p.tables e below (T2.setTop (mkF m 23 #[.val (.int p1), .val (.int p2), .val (.int p3), .val (.int p4), .val (.int p5), .val (.int p6), .val (.int (4 : Int32)), .val (.ref k_STRING_END), .val (.ref b2), .unset, .unset, .unset, .unset] [(.ref b2)])) _
    refine XS.iconst X2.here hx rfl (hb hby at_23) ?_
    show Steps p.tables e below (T2.setTop (mkF m 24 #[.val (.int p1), .val (.int p2), .val (.int p3), .val (.int p4), .val (.int p5), .val (.int p6), .val (.int (4 : Int32)), .val (.ref k_STRING_END), .val (.ref b2), .unset, .unset, .unset, .unset] [(.int (0 : Int32)), (.ref b2)])) _
    refine XS.iloadN X2.here hx rfl (hb hby at_24) rfl ?_
    show Steps p.tables e below (T2.setTop (mkF m 25 #[.val (.int p1), .val (.int p2), .val (.int p3), .val (.int p4), .val (.int p5), .val (.int p6), .val (.int (4 : Int32)), .val (.ref k_STRING_END), .val (.ref b2), .unset, .unset, .unset, .unset] [(.int p2), (.int (0 : Int32)), (.ref b2)])) _
    refine XS.sipush X2.here hx rfl (hb hby at_25) ?_
    show Steps p.tables e below (T2.setTop (mkF m 28 #[.val (.int p1), .val (.int p2), .val (.int p3), .val (.int p4), .val (.int p5), .val (.int p6), .val (.int (4 : Int32)), .val (.ref k_STRING_END), .val (.ref b2), .unset, .unset, .unset, .unset] [(.int (255 : Int32)), (.int p2), (.int (0 : Int32)), (.ref b2)])) _
    refine XS.iand X2.here hx rfl (hb hby at_28) rfl ?_
    show Steps p.tables e below (T2.setTop (mkF m 29 #[.val (.int p1), .val (.int p2), .val (.int p3), .val (.int p4), .val (.int p5), .val (.int p6), .val (.int (4 : Int32)), .val (.ref k_STRING_END), .val (.ref b2), .unset, .unset, .unset, .unset] [(.int (p2 &&& (255 : Int32))), (.int (0 : Int32)), (.ref b2)])) _
    refine XS.i2c X2.here hx rfl (hb hby at_29) rfl ?_
    show Steps p.tables e below (T2.setTop (mkF m 30 #[.val (.int p1), .val (.int p2), .val (.int p3), .val (.int p4), .val (.int p5), .val (.int p6), .val (.int (4 : Int32)), .val (.ref k_STRING_END), .val (.ref b2), .unset, .unset, .unset, .unset] [(.int ((p2 &&& (255 : Int32)).toUInt32.toUInt16.toUInt32.toInt32)), (.int (0 : Int32)), (.ref b2)])) _
    refine st6 _ ?_
    show Steps p.tables e below (T6.setTop (mkF m 31 #[.val (.int p1), .val (.int p2), .val (.int p3), .val (.int p4), .val (.int p5), .val (.int p6), .val (.int (4 : Int32)), .val (.ref k_STRING_END), .val (.ref b2), .unset, .unset, .unset, .unset] [])) _
    refine XS.aload X6.here hx rfl (hb hby at_31) rfl rfl ?_
    show Steps p.tables e below (T6.setTop (mkF m 33 #[.val (.int p1), .val (.int p2), .val (.int p3), .val (.int p4), .val (.int p5), .val (.int p6), .val (.int (4 : Int32)), .val (.ref k_STRING_END), .val (.ref b2), .unset, .unset, .unset, .unset] [(.ref b2)])) _
    refine XS.iconst X6.here hx rfl (hb hby at_33) ?_
    show Steps p.tables e below (T6.setTop (mkF m 34 #[.val (.int p1), .val (.int p2), .val (.int p3), .val (.int p4), .val (.int p5), .val (.int p6), .val (.int (4 : Int32)), .val (.ref k_STRING_END), .val (.ref b2), .unset, .unset, .unset, .unset] [(.int (1 : Int32)), (.ref b2)])) _
    refine XS.iloadN X6.here hx rfl (hb hby at_34) rfl ?_
    show Steps p.tables e below (T6.setTop (mkF m 35 #[.val (.int p1), .val (.int p2), .val (.int p3), .val (.int p4), .val (.int p5), .val (.int p6), .val (.int (4 : Int32)), .val (.ref k_STRING_END), .val (.ref b2), .unset, .unset, .unset, .unset] [(.int p2), (.int (1 : Int32)), (.ref b2)])) _
    refine XS.bipush X6.here hx rfl (hb hby at_35) ?_
    show Steps p.tables e below (T6.setTop (mkF m 37 #[.val (.int p1), .val (.int p2), .val (.int p3), .val (.int p4), .val (.int p5), .val (.int p6), .val (.int (4 : Int32)), .val (.ref k_STRING_END), .val (.ref b2), .unset, .unset, .unset, .unset] [(.int (8 : Int32)), (.int p2), (.int (1 : Int32)), (.ref b2)])) _
    refine XS.iushr X6.here hx rfl (hb hby at_37) rfl ?_
    show Steps p.tables e below (T6.setTop (mkF m 38 #[.val (.int p1), .val (.int p2), .val (.int p3), .val (.int p4), .val (.int p5), .val (.int p6), .val (.int (4 : Int32)), .val (.ref k_STRING_END), .val (.ref b2), .unset, .unset, .unset, .unset] [(.int ((p2.toUInt32 >>> ((8 : Int32) &&& 31).toUInt32).toInt32)), (.int (1 : Int32)), (.ref b2)])) _
    refine XS.sipush X6.here hx rfl (hb hby at_38) ?_
    show Steps p.tables e below (T6.setTop (mkF m 41 #[.val (.int p1), .val (.int p2), .val (.int p3), .val (.int p4), .val (.int p5), .val (.int p6), .val (.int (4 : Int32)), .val (.ref k_STRING_END), .val (.ref b2), .unset, .unset, .unset, .unset] [(.int (255 : Int32)), (.int ((p2.toUInt32 >>> ((8 : Int32) &&& 31).toUInt32).toInt32)), (.int (1 : Int32)), (.ref b2)])) _
    refine XS.iand X6.here hx rfl (hb hby at_41) rfl ?_
    show Steps p.tables e below (T6.setTop (mkF m 42 #[.val (.int p1), .val (.int p2), .val (.int p3), .val (.int p4), .val (.int p5), .val (.int p6), .val (.int (4 : Int32)), .val (.ref k_STRING_END), .val (.ref b2), .unset, .unset, .unset, .unset] [(.int (((p2.toUInt32 >>> ((8 : Int32) &&& 31).toUInt32).toInt32) &&& (255 : Int32))), (.int (1 : Int32)), (.ref b2)])) _
    refine XS.i2c X6.here hx rfl (hb hby at_42) rfl ?_
    show Steps p.tables e below (T6.setTop (mkF m 43 #[.val (.int p1), .val (.int p2), .val (.int p3), .val (.int p4), .val (.int p5), .val (.int p6), .val (.int (4 : Int32)), .val (.ref k_STRING_END), .val (.ref b2), .unset, .unset, .unset, .unset] [(.int ((((p2.toUInt32 >>> ((8 : Int32) &&& 31).toUInt32).toInt32) &&& (255 : Int32)).toUInt32.toUInt16.toUInt32.toInt32)), (.int (1 : Int32)), (.ref b2)])) _
    refine st11 _ ?_
    show Steps p.tables e below (T11.setTop (mkF m 44 #[.val (.int p1), .val (.int p2), .val (.int p3), .val (.int p4), .val (.int p5), .val (.int p6), .val (.int (4 : Int32)), .val (.ref k_STRING_END), .val (.ref b2), .unset, .unset, .unset, .unset] [])) _
    refine st14 _ ?_
    show Steps p.tables e below (T14.setTop (mkF m 47 #[.val (.int p1), .val (.int p2), .val (.int p3), .val (.int p4), .val (.int p5), .val (.int p6), .val (.int (4 : Int32)), .val (.ref k_STRING_END), .val (.ref b2), .unset, .unset, .unset, .unset] [(.ref b14)])) _
    refine XS.dup X14.here hx rfl (hb hby at_47) rfl rfl ?_
    show Steps p.tables e below (T14.setTop (mkF m 48 #[.val (.int p1), .val (.int p2), .val (.int p3), .val (.int p4), .val (.int p5), .val (.int p6), .val (.int (4 : Int32)), .val (.ref k_STRING_END), .val (.ref b2), .unset, .unset, .unset, .unset] [(.ref b14), (.ref b14)])) _
    refine XS.aload X14.here hx rfl (hb hby at_48) rfl rfl ?_
    show Steps p.tables e below (T14.setTop (mkF m 50 #[.val (.int p1), .val (.int p2), .val (.int p3), .val (.int p4), .val (.int p5), .val (.int p6), .val (.int (4 : Int32)), .val (.ref k_STRING_END), .val (.ref b2), .unset, .unset, .unset, .unset] [(.ref b2), (.ref b14), (.ref b14)])) _
    refine st26.trans ?_
    show Steps p.tables e below (T26.setTop (mkF m 53 #[.val (.int p1), .val (.int p2), .val (.int p3), .val (.int p4), .val (.int p5), .val (.int p6), .val (.int (4 : Int32)), .val (.ref k_STRING_END), .val (.ref b2), .unset, .unset, .unset, .unset] [(.ref b14)])) _
    refine XS.astore X26.here hx rfl (hb hby at_53) rfl rfl (l' := #[.val (.int p1), .val (.int p2), .val (.int p3), .val (.int p4), .val (.int p5), .val (.int p6), .val (.int (4 : Int32)), .val (.ref k_STRING_END), .val (.ref b2), .val (.ref b14), .unset, .unset, .unset]) rfl ?_
    show Steps p.tables e below (T26.setTop (mkF m 55 #[.val (.int p1), .val (.int p2), .val (.int p3), .val (.int p4), .val (.int p5), .val (.int p6), .val (.int (4 : Int32)), .val (.ref k_STRING_END), .val (.ref b2), .val (.ref b14), .unset, .unset, .unset] [])) _
    refine st28 _ ?_
    show Steps p.tables e below (T28.setTop (mkF m 58 #[.val (.int p1), .val (.int p2), .val (.int p3), .val (.int p4), .val (.int p5), .val (.int p6), .val (.int (4 : Int32)), .val (.ref k_STRING_END), .val (.ref b2), .val (.ref b14), .unset, .unset, .unset] [(.ref b28)])) _
    refine XS.dup X28.here hx rfl (hb hby at_58) rfl rfl ?_
    show Steps p.tables e below (T28.setTop (mkF m 59 #[.val (.int p1), .val (.int p2), .val (.int p3), .val (.int p4), .val (.int p5), .val (.int p6), .val (.int (4 : Int32)), .val (.ref k_STRING_END), .val (.ref b2), .val (.ref b14), .unset, .unset, .unset] [(.ref b28), (.ref b28)])) _
    refine XS.aload X28.here hx rfl (hb hby at_59) rfl rfl ?_
    show Steps p.tables e below (T28.setTop (mkF m 61 #[.val (.int p1), .val (.int p2), .val (.int p3), .val (.int p4), .val (.int p5), .val (.int p6), .val (.int (4 : Int32)), .val (.ref k_STRING_END), .val (.ref b2), .val (.ref b14), .unset, .unset, .unset] [(.ref k_STRING_END), (.ref b28), (.ref b28)])) _
    refine XS.aload X28.here hx rfl (hb hby at_61) rfl rfl ?_
    show Steps p.tables e below (T28.setTop (mkF m 63 #[.val (.int p1), .val (.int p2), .val (.int p3), .val (.int p4), .val (.int p5), .val (.int p6), .val (.int (4 : Int32)), .val (.ref k_STRING_END), .val (.ref b2), .val (.ref b14), .unset, .unset, .unset] [(.ref b14), (.ref k_STRING_END), (.ref b28), (.ref b28)])) _
    refine st30 _ ?_
    show Steps p.tables e below (T30.setTop (mkF m 65 #[.val (.int p1), .val (.int p2), .val (.int p3), .val (.int p4), .val (.int p5), .val (.int p6), .val (.int (4 : Int32)), .val (.ref k_STRING_END), .val (.ref b2), .val (.ref b14), .unset, .unset, .unset] [(.ref la30), (.ref b14), (.ref k_STRING_END), (.ref b28), (.ref b28)])) _
    refine XS.iloadN X30.here hx rfl (hb hby at_65) rfl ?_
    show Steps p.tables e below (T30.setTop (mkF m 66 #[.val (.int p1), .val (.int p2), .val (.int p3), .val (.int p4), .val (.int p5), .val (.int p6), .val (.int (4 : Int32)), .val (.ref k_STRING_END), .val (.ref b2), .val (.ref b14), .unset, .unset, .unset] [(.int p3), (.ref la30), (.ref b14), (.ref k_STRING_END), (.ref b28), (.ref b28)])) _
    refine XS.iloadN X30.here hx rfl (hb hby at_66) rfl ?_
    show Steps p.tables e below (T30.setTop (mkF m 67 #[.val (.int p1), .val (.int p2), .val (.int p3), .val (.int p4), .val (.int p5), .val (.int p6), .val (.int (4 : Int32)), .val (.ref k_STRING_END), .val (.ref b2), .val (.ref b14), .unset, .unset, .unset] [(.int p4), (.int p3), (.ref la30), (.ref b14), (.ref k_STRING_END), (.ref b28), (.ref b28)])) _
    refine XS.iload X30.here hx rfl (hb hby at_67) rfl ?_
    show Steps p.tables e below (T30.setTop (mkF m 69 #[.val (.int p1), .val (.int p2), .val (.int p3), .val (.int p4), .val (.int p5), .val (.int p6), .val (.int (4 : Int32)), .val (.ref k_STRING_END), .val (.ref b2), .val (.ref b14), .unset, .unset, .unset] [(.int p5), (.int p4), (.int p3), (.ref la30), (.ref b14), (.ref k_STRING_END), (.ref b28), (.ref b28)])) _
    refine XS.iload X30.here hx rfl (hb hby at_69) rfl ?_
    show Steps p.tables e below (T30.setTop (mkF m 71 #[.val (.int p1), .val (.int p2), .val (.int p3), .val (.int p4), .val (.int p5), .val (.int p6), .val (.int (4 : Int32)), .val (.ref k_STRING_END), .val (.ref b2), .val (.ref b14), .unset, .unset, .unset] [(.int p6), (.int p5), (.int p4), (.int p3), (.ref la30), (.ref b14), (.ref k_STRING_END), (.ref b28), (.ref b28)])) _
    refine st48.trans ?_
    show Steps p.tables e below (T48.setTop (mkF m 74 #[.val (.int p1), .val (.int p2), .val (.int p3), .val (.int p4), .val (.int p5), .val (.int p6), .val (.int (4 : Int32)), .val (.ref k_STRING_END), .val (.ref b2), .val (.ref b14), .unset, .unset, .unset] [(.ref b28)])) _
    refine XS.astore X48.here hx rfl (hb hby at_74) rfl rfl (l' := #[.val (.int p1), .val (.int p2), .val (.int p3), .val (.int p4), .val (.int p5), .val (.int p6), .val (.int (4 : Int32)), .val (.ref k_STRING_END), .val (.ref b2), .val (.ref b14), .val (.ref b28), .unset, .unset]) rfl ?_
    show Steps p.tables e below (T48.setTop (mkF m 76 #[.val (.int p1), .val (.int p2), .val (.int p3), .val (.int p4), .val (.int p5), .val (.int p6), .val (.int (4 : Int32)), .val (.ref k_STRING_END), .val (.ref b2), .val (.ref b14), .val (.ref b28), .unset, .unset] [])) _
    refine XS.iload X48.here hx rfl (hb hby at_76) rfl ?_
    show Steps p.tables e below (T48.setTop (mkF m 78 #[.val (.int p1), .val (.int p2), .val (.int p3), .val (.int p4), .val (.int p5), .val (.int p6), .val (.int (4 : Int32)), .val (.ref k_STRING_END), .val (.ref b2), .val (.ref b14), .val (.ref b28), .unset, .unset] [(.int (4 : Int32))])) _
    refine XS.iconst X48.here hx rfl (hb hby at_78) ?_
    show Steps p.tables e below (T48.setTop (mkF m 79 #[.val (.int p1), .val (.int p2), .val (.int p3), .val (.int p4), .val (.int p5), .val (.int p6), .val (.int (4 : Int32)), .val (.ref k_STRING_END), .val (.ref b2), .val (.ref b14), .val (.ref b28), .unset, .unset] [(.int (3 : Int32)), (.int (4 : Int32))])) _
    refine XS.icmpNo X48.here hx rfl (hb hby at_79) rfl (feq (by decide : ¬ ((4 : Int32) = (3 : Int32)))).1 ?_
    show Steps p.tables e below (T48.setTop (mkF m 82 #[.val (.int p1), .val (.int p2), .val (.int p3), .val (.int p4), .val (.int p5), .val (.int p6), .val (.int (4 : Int32)), .val (.ref k_STRING_END), .val (.ref b2), .val (.ref b14), .val (.ref b28), .unset, .unset] [])) _
    refine XS.iload X48.here hx rfl (hb hby at_82) rfl ?_
    show Steps p.tables e below (T48.setTop (mkF m 84 #[.val (.int p1), .val (.int p2), .val (.int p3), .val (.int p4), .val (.int p5), .val (.int p6), .val (.int (4 : Int32)), .val (.ref k_STRING_END), .val (.ref b2), .val (.ref b14), .val (.ref b28), .unset, .unset] [(.int (4 : Int32))])) _
    refine XS.iconst X48.here hx rfl (hb hby at_84) ?_
    show Steps p.tables e below (T48.setTop (mkF m 85 #[.val (.int p1), .val (.int p2), .val (.int p3), .val (.int p4), .val (.int p5), .val (.int p6), .val (.int (4 : Int32)), .val (.ref k_STRING_END), .val (.ref b2), .val (.ref b14), .val (.ref b28), .unset, .unset] [(.int (4 : Int32)), (.int (4 : Int32))])) _
    refine XS.icmpNo X48.here hx rfl (hb hby at_85) rfl (teq (rfl : (4 : Int32) = (4 : Int32))).2 ?_
    show Steps p.tables e below (T48.setTop (mkF m 88 #[.val (.int p1), .val (.int p2), .val (.int p3), .val (.int p4), .val (.int p5), .val (.int p6), .val (.int (4 : Int32)), .val (.ref k_STRING_END), .val (.ref b2), .val (.ref b14), .val (.ref b28), .unset, .unset] [])) _
    refine XS.iconst X48.here hx rfl (hb hby at_88) ?_
    show Steps p.tables e below (T48.setTop (mkF m 89 #[.val (.int p1), .val (.int p2), .val (.int p3), .val (.int p4), .val (.int p5), .val (.int p6), .val (.int (4 : Int32)), .val (.ref k_STRING_END), .val (.ref b2), .val (.ref b14), .val (.ref b28), .unset, .unset] [(.int (1 : Int32))])) _
    refine XS.goto X48.here hx rfl (pc0 := 89) (pc' := 93) rfl (hb hby at_89) (by decide) (by decide) ?_
    show Steps p.tables e below (T48.setTop (mkF m 93 #[.val (.int p1), .val (.int p2), .val (.int p3), .val (.int p4), .val (.int p5), .val (.int p6), .val (.int (4 : Int32)), .val (.ref k_STRING_END), .val (.ref b2), .val (.ref b14), .val (.ref b28), .unset, .unset] [(.int (1 : Int32))])) _
    refine XS.istore X48.here hx rfl (hb hby at_93) rfl (l' := #[.val (.int p1), .val (.int p2), .val (.int p3), .val (.int p4), .val (.int p5), .val (.int p6), .val (.int (4 : Int32)), .val (.ref k_STRING_END), .val (.ref b2), .val (.ref b14), .val (.ref b28), .val (.int (1 : Int32)), .unset]) rfl ?_
    show Steps p.tables e below (T48.setTop (mkF m 95 #[.val (.int p1), .val (.int p2), .val (.int p3), .val (.int p4), .val (.int p5), .val (.int p6), .val (.int (4 : Int32)), .val (.ref k_STRING_END), .val (.ref b2), .val (.ref b14), .val (.ref b28), .val (.int (1 : Int32)), .unset] [])) _
    refine XS.aload X48.here hx rfl (hb hby at_95) rfl rfl ?_
    show Steps p.tables e below (T48.setTop (mkF m 97 #[.val (.int p1), .val (.int p2), .val (.int p3), .val (.int p4), .val (.int p5), .val (.int p6), .val (.int (4 : Int32)), .val (.ref k_STRING_END), .val (.ref b2), .val (.ref b14), .val (.ref b28), .val (.int (1 : Int32)), .unset] [(.ref b28)])) _
    refine st54.trans ?_
    show Steps p.tables e below (T54.setTop (mkF m 100 #[.val (.int p1), .val (.int p2), .val (.int p3), .val (.int p4), .val (.int p5), .val (.int p6), .val (.int (4 : Int32)), .val (.ref k_STRING_END), .val (.ref b2), .val (.ref b14), .val (.ref b28), .val (.int (1 : Int32)), .unset] [(.int (1 : Int32))])) _
    refine XS.istore X54.here hx rfl (hb hby at_100) rfl (l' := #[.val (.int p1), .val (.int p2), .val (.int p3), .val (.int p4), .val (.int p5), .val (.int p6), .val (.int (4 : Int32)), .val (.ref k_STRING_END), .val (.ref b2), .val (.ref b14), .val (.ref b28), .val (.int (1 : Int32)), .val (.int (1 : Int32))]) rfl ?_
    show Steps p.tables e below (T54.setTop (mkF m 102 #[.val (.int p1), .val (.int p2), .val (.int p3), .val (.int p4), .val (.int p5), .val (.int p6), .val (.int (4 : Int32)), .val (.ref k_STRING_END), .val (.ref b2), .val (.ref b14), .val (.ref b28), .val (.int (1 : Int32)), .val (.int (1 : Int32))] [])) _
    refine XS.iload X54.here hx rfl (hb hby at_102) rfl ?_
    show Steps p.tables e below (T54.setTop (mkF m 104 #[.val (.int p1), .val (.int p2), .val (.int p3), .val (.int p4), .val (.int p5), .val (.int p6), .val (.int (4 : Int32)), .val (.ref k_STRING_END), .val (.ref b2), .val (.ref b14), .val (.ref b28), .val (.int (1 : Int32)), .val (.int (1 : Int32))] [(.int (1 : Int32))])) _
    refine XS.iload X54.here hx rfl (hb hby at_104) rfl ?_
    show Steps p.tables e below (T54.setTop (mkF m 106 #[.val (.int p1), .val (.int p2), .val (.int p3), .val (.int p4), .val (.int p5), .val (.int p6), .val (.int (4 : Int32)), .val (.ref k_STRING_END), .val (.ref b2), .val (.ref b14), .val (.ref b28), .val (.int (1 : Int32)), .val (.int (1 : Int32))] [(.int (1 : Int32)), (.int (1 : Int32))])) _
    refine XS.icmpYes X54.here hx rfl (pc0 := 106) (pc' := 111) rfl (hb hby at_106) rfl (teq (rfl : (1 : Int32) = (1 : Int32))).1 (by decide) (by decide) ?_
    show Steps p.tables e below (T54.setTop (mkF m 111 #[.val (.int p1), .val (.int p2), .val (.int p3), .val (.int p4), .val (.int p5), .val (.int p6), .val (.int (4 : Int32)), .val (.ref k_STRING_END), .val (.ref b2), .val (.ref b14), .val (.ref b28), .val (.int (1 : Int32)), .val (.int (1 : Int32))] [])) _
    refine XS.iload X54.here hx rfl (hb hby at_111) rfl ?_
    show Steps p.tables e below (T54.setTop (mkF m 113 #[.val (.int p1), .val (.int p2), .val (.int p3), .val (.int p4), .val (.int p5), .val (.int p6), .val (.int (4 : Int32)), .val (.ref k_STRING_END), .val (.ref b2), .val (.ref b14), .val (.ref b28), .val (.int (1 : Int32)), .val (.int (1 : Int32))] [(.int (1 : Int32))])) _
    refine XS.ifNo X54.here hx rfl (hb hby at_113) rfl ((if0 _ _).trans (feq (by decide : ¬ ((1 : Int32) = (0 : Int32)))).1) ?_
    show Steps p.tables e below (T54.setTop (mkF m 116 #[.val (.int p1), .val (.int p2), .val (.int p3), .val (.int p4), .val (.int p5), .val (.int p6), .val (.int (4 : Int32)), .val (.ref k_STRING_END), .val (.ref b2), .val (.ref b14), .val (.ref b28), .val (.int (1 : Int32)), .val (.int (1 : Int32))] [])) _
    refine XS.aload X54.here hx rfl (hb hby at_116) rfl rfl ?_
    show Steps p.tables e below (T54.setTop (mkF m 118 #[.val (.int p1), .val (.int p2), .val (.int p3), .val (.int p4), .val (.int p5), .val (.int p6), .val (.int (4 : Int32)), .val (.ref k_STRING_END), .val (.ref b2), .val (.ref b14), .val (.ref b28), .val (.int (1 : Int32)), .val (.int (1 : Int32))] [(.ref b28)])) _
    refine st55.trans ?_
    show Steps p.tables e below (T55.setTop (mkF m 121 #[.val (.int p1), .val (.int p2), .val (.int p3), .val (.int p4), .val (.int p5), .val (.int p6), .val (.int (4 : Int32)), .val (.ref k_STRING_END), .val (.ref b2), .val (.ref b14), .val (.ref b28), .val (.int (1 : Int32)), .val (.int (1 : Int32))] [(.int (0 : Int32))])) _
    refine XS.ifYes X55.here hx rfl (pc0 := 121) (pc' := 126) rfl (hb hby at_121) rfl ((if0 _ _).trans (teq (rfl : (0 : Int32) = (0 : Int32))).1) (by decide) (by decide) ?_
    show Steps p.tables e below (T55.setTop (mkF m 126 #[.val (.int p1), .val (.int p2), .val (.int p3), .val (.int p4), .val (.int p5), .val (.int p6), .val (.int (4 : Int32)), .val (.ref k_STRING_END), .val (.ref b2), .val (.ref b14), .val (.ref b28), .val (.int (1 : Int32)), .val (.int (1 : Int32))] [])) _
    refine XS.iconst X55.here hx rfl (hb hby at_126) ?_
    show Steps p.tables e below (T55.setTop (mkF m 127 #[.val (.int p1), .val (.int p2), .val (.int p3), .val (.int p4), .val (.int p5), .val (.int p6), .val (.int (4 : Int32)), .val (.ref k_STRING_END), .val (.ref b2), .val (.ref b14), .val (.ref b28), .val (.int (1 : Int32)), .val (.int (1 : Int32))] [(.int (1 : Int32))])) _
    exact retN X55 hx (t := .boolean) Bd.returns (by simp) (hb hby at_127) hr
  · show own_Qlaw h0 n0 _ T55.heap _
    exact ⟨rfl, N55⟩
theorem own_eflawC (m : MethodId) (p1 : Int32) (p2 : Int32) (p3 : Int32) (p4 : Int32) (p5 : Int32) (p6 : Int32) : entryFrame m #[(.int p1), (.int p2), (.int p3), (.int p4), (.int p5), (.int p6)] maxLocals = mkF m 0 #[.val (.int p1), .val (.int p2), .val (.int p3), .val (.int p4), .val (.int p5), .val (.int p6), .unset, .unset, .unset, .unset, .unset, .unset, .unset] [] := by first | (simp [entryFrame, mkF, argsToLocals, Value.category, maxLocals]; done) | rfl
set_option maxRecDepth 65536 in
set_option maxHeartbeats 40000000 in
theorem own_lawC (l : Launch) (Z : State) (a0 : Array Value) (hw : ∀ d ∈ tables_1, d.before a0 Z = true) (ws : List Jvm.Cond) (G1 : Int32) (k_WORD : Addr) (k_STRING : Addr) (k_STRING_START : Addr) (k_STRING_MIDDLE : Addr) (k_STRING_END : Addr) (k_SYMBOL : Addr) (k_END : Addr) (gl : own_Glob Z G1 k_WORD k_STRING k_STRING_START k_STRING_MIDDLE k_STRING_END k_SYMBOL k_END) (p1 : Int32) (p2 : Int32) (p3 : Int32) (p4 : Int32) (p5 : Int32) (p6 : Int32) (h0 : Heap) (n0 : Nat) (Z0 : n0 ≤ h0.size) (X00 : Old Z n0 h0) (hk3 : ¬ (own_k p1 = (3 : Int32))) (hk4 : ¬ (own_k p1 = (4 : Int32))) :
    MetFree l x (head1 (Jvm.Cond.code x code maxLocals ret :: ws) room_1) (fun a U => a = #[(.int p1), (.int p2), (.int p3), (.int p4), (.int p5), (.int p6)] ∧ Z.Warmed39 U.vm ∧ U.heap = h0) (fun _ _ _ _ _ => True) (fun _ U o U' => ∃ v L, o = .returned v ∧ own_Qlaw h0 n0 v U'.heap L ∧ ReturnedEndW U o U' L room_1.cells room_1.slots) := by
  refine MetFree.of_bodySF (plainFor_of_name own_pn0) hisR ?_
  intro p e s m args below meth c s₁ Bd hml0 hP hK
  obtain ⟨rfl, hZ, hh⟩ := hP
  obtain ⟨O_CS, P_CS, O_WORD, E_WORD, O_STRING, E_STRING, O_STRING_START, E_STRING_START, O_STRING_MIDDLE, E_STRING_MIDDLE, O_STRING_END, E_STRING_END, O_SYMBOL, E_SYMBOL, O_END, E_END, ne_WORD_STRING_MIDDLE, ne_WORD_STRING_END, ne_STRING_STRING_MIDDLE, ne_STRING_STRING_END, ne_STRING_START_STRING_MIDDLE, ne_STRING_START_STRING_END, ne_STRING_MIDDLE_STRING_END, ne_SYMBOL_STRING_MIDDLE, ne_SYMBOL_STRING_END, ne_END_STRING_MIDDLE, ne_END_STRING_END⟩ := id gl
  have hx := Bd.exec
  have hby := Bd.bytes
  have hml : c.maxLocals = 13 := hml0
  have hown : s.vm.findClass "com/example/mudwright/mudwright/TokenIsAfterValuePinLaw" = some m.cls := findClass_of_methodNamed Bd.named
  have hnm := (name_of_methodNamed Bd.named Bd.method).1
  have X0 : Stand p l e room_1 s m #[(.int p1), (.int p2), (.int p3), (.int p4), (.int p5), (.int p6)] below meth c s₁ [] 0 0 := Stand.of_body Bd
  have e0 : s₁.heap = h0 := by rw [← hh, Bd.state]; rfl
  have N0 := Fr.nil n0
  have pre0 : ∀ t, Steps p.tables e below (s₁.setTop (mkF m 0 #[.val (.int p1), .val (.int p2), .val (.int p3), .val (.int p4), .val (.int p5), .val (.int p6), .unset, .unset, .unset, .unset, .unset, .unset, .unset] [])) t → Steps p.tables e below (s₁.setTop (entryFrame m #[(.int p1), (.int p2), (.int p3), (.int p4), (.int p5), (.int p6)] maxLocals)) t := fun t k => castTop (own_eflawC m p1 p2 p3 p4 p5 p6) k
  obtain ⟨_, _, ⟨T1, L1, k1, n1⟩, -, X1, ⟨Lc1, hQ1, l1, y1, z1⟩, st1⟩ := Jvm.LawKit.callS X0 hx (y := (⟨"com/example/mudwright/mudwright/TokenIsAfterValuePinLaw", "kindOf", "(I)Lcom/example/mudwright/mudwright/Token$Kind;"⟩ : MethodName)) hown (mvT hZ (hw _ (List.mem_of_getElem? (i := 1) rfl))) (mvT hZ (hw _ (List.mem_of_getElem? (i := 2) rfl))) (mvT hZ (hw _ (List.mem_of_getElem? (i := 3) rfl))) (mvT hZ (hw _ (List.mem_of_getElem? (i := 4) rfl))) (by decide) (backOf (W := 0) (own_rm_kindC l Z a0 hw [] G1 k_WORD k_STRING k_STRING_START k_STRING_MIDDLE k_STRING_END k_SYMBOL k_END gl (own_k p1) h0 n0 Z0 X00 (hk3 : ¬ ((own_k p1) = (3 : Int32))) (hk4 : ¬ ((own_k p1) = (4 : Int32)))) hZ (hw _ (List.mem_of_getElem? (i := 4) rfl)) (hw _ (List.mem_of_getElem? (i := 3) rfl)) (by decide) (by decide)) (g := (mkF m 11 #[.val (.int p1), .val (.int p2), .val (.int p3), .val (.int p4), .val (.int p5), .val (.int p6), .val (.int (own_k p1)), .unset, .unset, .unset, .unset, .unset, .unset] [(.int (own_k p1))])) rfl (by rw [hml]; rfl) (argsL := [(.int (own_k p1))]) (rest := []) (lenOf own_pd4 rfl) rfl (by show 2 * 0 + _ ≤ _; exact Nat.le_of_eq rfl) (hb hby at_11) (fun _ _ => ⟨rfl, e0, (by decide : 0 + 0 ≤ _), (by decide : 0 + 0 ≤ _)⟩)
  dsimp only [Pt.U, Pt.locs, Pt.cells, Pt.slots] at X1 l1 y1 z1 st1 hQ1
  subst y1 z1
  obtain ⟨b_1, rfl, Nq1, e1, f1_0, f1_1⟩ := hQ1
  have N1 : Fr n0 L1 := by rw [l1]; exact Fr.app N0 Nq1
  obtain ⟨T2, h2, k2, X2, e2, E2, A2, st2⟩ := newP X1 hx hZ (hw _ (List.mem_of_getElem? (i := 8) rfl)) e1 (g := (mkF m 17 #[.val (.int p1), .val (.int p2), .val (.int p3), .val (.int p4), .val (.int p5), .val (.int p6), .val (.int (own_k p1)), .val (.ref b_1), .unset, .unset, .unset, .unset, .unset] [(.int (2 : Int32))])) rfl (hb hby at_17) rfl (by decide) (cap := 2) (by decide) (by decide) (by decide) (by decide)
  obtain ⟨b2, g2⟩ : ∃ z, z = h0.size := ⟨_, rfl⟩
  rw [← g2] at A2 st2
  have Kp3 : Keep h0 h2 [] := (Keep.refl h0 []).ext E2
  have Vh4 : Arv Z h2 b2 k2 .char (2 : Int32) [(.int (0 : Int32)), (.int (0 : Int32))] (.int (0 : Int32)) := (Arv.new A2 (by decide)).pad (pad_rep [] (.int (0 : Int32)) 2)
  obtain ⟨cl5, Ar5, qc5, Sz5, Ng5, Hs5, Gs5⟩ := id Vh4
  have hin5 : ¬ ((0 : Int32) < 0 ∨ cl5.slots.size ≤ ((0 : Int32)).toNatClampNeg) := inb_of Sz5 ⟨(by decide), (by decide)⟩
  obtain ⟨T6, h6, X6, e6, W6, st6⟩ := stC X2 hx hZ e2 Ar5 (j := (0 : Int32)) hin5 (g := (mkF m 30 #[.val (.int p1), .val (.int p2), .val (.int p3), .val (.int p4), .val (.int p5), .val (.int p6), .val (.int (own_k p1)), .val (.ref b_1), .val (.ref b2), .unset, .unset, .unset, .unset] [(.int ((p2 &&& (255 : Int32)).toUInt32.toUInt16.toUInt32.toInt32)), (.int (0 : Int32)), (.ref b2)])) rfl rfl (hb hby at_30)
  have Kp7 : Keep h0 h6 [] := Kp3.wr W6 (Or.inr (Nat.le_trans (Keep.refl h0 []).1 (Nat.le_of_eq g2.symm)))
  have gh8 : n0 ≤ b2 := Nat.le_trans Z0 (Nat.le_of_eq g2.symm)
  obtain ⟨Lp6, X6, N6⟩ := own_pack X6 (Fr.snoc X6 N1 gh8)
  have Vh9 : Arv Z h6 b2 k2 .char (2 : Int32) [(.int (own_ch p2)), (.int (0 : Int32))] (.int (0 : Int32)) := (Arv.set Ar5 qc5 Sz5 Ng5 Hs5 Gs5 (fits_nar_char _) W6 0 rfl (Nat.le_of_ble_eq_true rfl))
  obtain ⟨cl10, Ar10, qc10, Sz10, Ng10, Hs10, Gs10⟩ := id Vh9
  have hin10 : ¬ ((1 : Int32) < 0 ∨ cl10.slots.size ≤ ((1 : Int32)).toNatClampNeg) := inb_of Sz10 ⟨(by decide), (by decide)⟩
  obtain ⟨T11, h11, X11, e11, W11, st11⟩ := stC X6 hx hZ e6 Ar10 (j := (1 : Int32)) hin10 (g := (mkF m 43 #[.val (.int p1), .val (.int p2), .val (.int p3), .val (.int p4), .val (.int p5), .val (.int p6), .val (.int (own_k p1)), .val (.ref b_1), .val (.ref b2), .unset, .unset, .unset, .unset] [(.int ((((p2.toUInt32 >>> ((8 : Int32) &&& 31).toUInt32).toInt32) &&& (255 : Int32)).toUInt32.toUInt16.toUInt32.toInt32)), (.int (1 : Int32)), (.ref b2)])) rfl rfl (hb hby at_43)
  have Kp12 : Keep h0 h11 [] := Kp7.wr W11 (Or.inr (Nat.le_trans (Keep.refl h0 []).1 (Nat.le_of_eq g2.symm)))
  obtain ⟨Lp11, X11, N11⟩ := own_pack X11 (Fr.snoc X11 N6 gh8)
  have Vh13 : Arv Z h11 b2 k2 .char (2 : Int32) [(.int (own_ch p2)), (.int (own_ch ((p2.toUInt32 >>> ((8 : Int32) &&& 31).toUInt32).toInt32)))] (.int (0 : Int32)) := (Arv.set Ar10 qc10 Sz10 Ng10 Hs10 Gs10 (fits_nar_char _) W11 1 rfl (Nat.le_of_ble_eq_true rfl))
  obtain ⟨T14, h14, X14, e14, E14, A14, D14, U14, st14⟩ := newO X11 hx hZ hown (hw _ (List.mem_of_getElem? (i := 9) rfl)) (hw _ (List.mem_of_getElem? (i := 10) rfl)) (hw _ (List.mem_of_getElem? (i := 11) rfl)) e11 (g := (mkF m 44 #[.val (.int p1), .val (.int p2), .val (.int p3), .val (.int p4), .val (.int p5), .val (.int p6), .val (.int (own_k p1)), .val (.ref b_1), .val (.ref b2), .unset, .unset, .unset, .unset] [])) rfl (hb hby at_44) (by decide) (by decide)
  obtain ⟨b14, g14⟩ : ∃ z, z = h11.size := ⟨_, rfl⟩
  rw [← g14] at A14 D14 U14 st14
  have Kp15 : Keep h0 h14 [] := Kp12.ext E14
  have Fh16 : Fld Z h14 b14 "java/lang/String" "value" "[B" .null := (D14 (Or.inr (hw _ (List.mem_of_getElem? (i := 37) rfl))) (ty := (.array .byte)) (by decide))
  have Fh17 : Fld Z h14 b14 "java/lang/String" "coder" "B" (.int (0 : Int32)) := (D14 (Or.inr (hw _ (List.mem_of_getElem? (i := 35) rfl))) (ty := .byte) (by decide))
  have Vh18 : Arv Z h14 b2 k2 .char (2 : Int32) [(.int (own_ch p2)), (.int (own_ch ((p2.toUInt32 >>> ((8 : Int32) &&& 31).toUInt32).toInt32)))] (.int (0 : Int32)) := (Vh13.ext E14)
  have hph19 : ∀ c ∈ ([(own_ch p2), (own_ch ((p2.toUInt32 >>> ((8 : Int32) &&& 31).toUInt32).toInt32))] : List Int32), ¬ c < 0 ∧ ¬ (255 : Int32) < c := (own_cS (own_rng_ch p2) (own_cS (own_rng_ch ((p2.toUInt32 >>> ((8 : Int32) &&& 31).toUInt32).toInt32)) own_c0))
  have hws_words : ∀ d ∈ StrChars.Road.words, d.before a0 Z = true := fun d hd => hw d (own_hws_words d hd)
  have Zh20 : n0 ≤ h14.size := (Nat.le_trans Z0 Kp15.1)
  have gh21 : n0 ≤ b14 := Nat.le_trans (Nat.le_trans Z0 Kp12.1) (Nat.le_of_eq g14.symm)
  have Old22 : Old Z n0 h2 := X00.ext E2
  have Old23 : Old Z n0 h6 := Old22.wr W6 gh8
  have Old24 : Old Z n0 h11 := Old23.wr W11 gh8
  have Old25 : Old Z n0 h14 := Old24.ext E14
  obtain ⟨_, _, ⟨T26, L26, k26, n26⟩, -, X26, ⟨Lc26, hQ26, l26, y26, z26⟩, st26⟩ := X14.specialBack hx (y := (⟨"java/lang/String", "<init>", "([C)V"⟩ : MethodName)) rfl hown (mvT hZ (hw _ (List.mem_of_getElem? (i := 12) rfl))) (mvT hZ (hw _ (List.mem_of_getElem? (i := 13) rfl))) (mvT hZ (hw _ (List.mem_of_getElem? (i := 14) rfl))) (by decide) (StrChars.Road.backV (W := 1) hZ hws_words (kI := 4) (hw _ (List.mem_of_getElem? (i := 10) rfl)) (cs := ([(own_ch p2), (own_ch ((p2.toUInt32 >>> ((8 : Int32) &&& 31).toUInt32).toInt32))] : List Int32)) (bs := ([(own_ch p2), (own_ch ((p2.toUInt32 >>> ((8 : Int32) &&& 31).toUInt32).toInt32))] : List Int32).map (fun c => c.toInt8.toInt32)) (n := 2) gh21 Zh20 A14 Fh16 Fh17 Vh18 (O_CS.ext Old25.2) P_CS rfl rfl (by decide) (by decide) hph19 rfl (by decide) (by decide)) (g := (mkF m 50 #[.val (.int p1), .val (.int p2), .val (.int p3), .val (.int p4), .val (.int p5), .val (.int p6), .val (.int (own_k p1)), .val (.ref b_1), .val (.ref b2), .unset, .unset, .unset, .unset] [(.ref b2), (.ref b14), (.ref b14)])) rfl (by rw [hml]; rfl) (Steps.refl _) (a := b14) (argsL := [(.ref b2)]) (rest := [(.ref b14)]) (lenOf own_pd5 rfl) rfl (by show 2 * 0 + _ ≤ _; exact Nat.le_of_eq rfl) (hb hby at_50) (fun _ _ => ⟨rfl, e14, (by decide : 2 + 1 ≤ _), (by decide : 6 + 2 ≤ _)⟩)
  dsimp only [Pt.U, Pt.locs, Pt.cells, Pt.slots] at X26 l26 y26 z26 st26 hQ26
  subst y26 z26
  obtain ⟨rfl, Nq26, Kq26, Eq26, Cq26, t26, kb26, gt26, szt26, nt26, Vq26, Bq26⟩ := hQ26
  have N26 : Fr n0 L26 := by rw [l26]; exact Fr.app N11 Nq26
  have Kp27 : Keep h0 T26.heap [] := Kp15.trans Kq26 (allS (Or.inr (Nat.le_trans Kp12.1 (Nat.le_of_eq g14.symm))) all0)
  obtain ⟨T28, h28, X28, e28, E28, A28, D28, U28, st28⟩ := newO X26 hx hZ hown (hw _ (List.mem_of_getElem? (i := 38) rfl)) (hw _ (List.mem_of_getElem? (i := 39) rfl)) (hw _ (List.mem_of_getElem? (i := 40) rfl)) rfl (g := (mkF m 55 #[.val (.int p1), .val (.int p2), .val (.int p3), .val (.int p4), .val (.int p5), .val (.int p6), .val (.int (own_k p1)), .val (.ref b_1), .val (.ref b2), .val (.ref b14), .unset, .unset, .unset] [])) rfl (hb hby at_55) (by decide) (by decide)
  obtain ⟨b28, g28⟩ : ∃ z, z = T26.heap.size := ⟨_, rfl⟩
  rw [← g28] at A28 D28 U28 st28
  have Kp29 : Keep h0 h28 [] := Kp27.ext E28
  obtain ⟨la30, T30, h30, kS30, X30, e30, E30, hS30, hk30, hZ30, hown30, st30⟩ := ldcS (s := s) (vm0 := s.vm) X28 hx hZ hown (hw _ (List.mem_of_getElem? (i := 41) rfl)) (fun d hd => hw d (own_strAtoms d hd)) e28 ((State.WarmedH.refl s).since 0) (Nat.zero_le _) (g := (mkF m 63 #[.val (.int p1), .val (.int p2), .val (.int p3), .val (.int p4), .val (.int p5), .val (.int p6), .val (.int (own_k p1)), .val (.ref b_1), .val (.ref b2), .val (.ref b14), .unset, .unset, .unset] [(.ref b14), (.ref b_1), (.ref b28), (.ref b28)])) rfl (hb hby at_63) (n := 16) (by decide) (by decide) (by decide) (by decide)
  have Kp31 : Keep h0 h30 [] := Kp29.ext E30
  have Eh32 : Exa Z h30 b28 "com/example/mudwright/mudwright/Token" := (A28.ext E30)
  have Fh33 : Fld Z h28 b28 "com/example/mudwright/mudwright/Token" "kind" "Lcom/example/mudwright/mudwright/Token$Kind;" .null := (D28 (Or.inr (hw _ (List.mem_of_getElem? (i := 54) rfl))) (ty := (.object "com/example/mudwright/mudwright/Token$Kind")) (by decide))
  have Fh34 : Fld Z h30 b28 "com/example/mudwright/mudwright/Token" "kind" "Lcom/example/mudwright/mudwright/Token$Kind;" .null := (Fh33.ext E30)
  have gh35 : n0 ≤ b28 := Nat.le_trans (Nat.le_trans Z0 Kp27.1) (Nat.le_of_eq g28.symm)
  have Fh36 : Fld Z h28 b28 "com/example/mudwright/mudwright/Token" "text" "Ljava/lang/String;" .null := (D28 (Or.inr (hw _ (List.mem_of_getElem? (i := 56) rfl))) (ty := (.object "java/lang/String")) (by decide))
  have Fh37 : Fld Z h30 b28 "com/example/mudwright/mudwright/Token" "text" "Ljava/lang/String;" .null := (Fh36.ext E30)
  have Fh38 : Fld Z h28 b28 "com/example/mudwright/mudwright/Token" "file" "Ljava/lang/String;" .null := (D28 (Or.inr (hw _ (List.mem_of_getElem? (i := 58) rfl))) (ty := (.object "java/lang/String")) (by decide))
  have Fh39 : Fld Z h30 b28 "com/example/mudwright/mudwright/Token" "file" "Ljava/lang/String;" .null := (Fh38.ext E30)
  have Fh40 : Fld Z h28 b28 "com/example/mudwright/mudwright/Token" "line" "I" (.int (0 : Int32)) := (D28 (Or.inr (hw _ (List.mem_of_getElem? (i := 60) rfl))) (ty := .int) (by decide))
  have Fh41 : Fld Z h30 b28 "com/example/mudwright/mudwright/Token" "line" "I" (.int (0 : Int32)) := (Fh40.ext E30)
  have Fh42 : Fld Z h28 b28 "com/example/mudwright/mudwright/Token" "column" "I" (.int (0 : Int32)) := (D28 (Or.inr (hw _ (List.mem_of_getElem? (i := 62) rfl))) (ty := .int) (by decide))
  have Fh43 : Fld Z h30 b28 "com/example/mudwright/mudwright/Token" "column" "I" (.int (0 : Int32)) := (Fh42.ext E30)
  have Fh44 : Fld Z h28 b28 "com/example/mudwright/mudwright/Token" "endColumn" "I" (.int (0 : Int32)) := (D28 (Or.inr (hw _ (List.mem_of_getElem? (i := 64) rfl))) (ty := .int) (by decide))
  have Fh45 : Fld Z h30 b28 "com/example/mudwright/mudwright/Token" "endColumn" "I" (.int (0 : Int32)) := (Fh44.ext E30)
  have Fh46 : Fld Z h28 b28 "com/example/mudwright/mudwright/Token" "textColumn" "I" (.int (0 : Int32)) := (D28 (Or.inr (hw _ (List.mem_of_getElem? (i := 66) rfl))) (ty := .int) (by decide))
  have Fh47 : Fld Z h30 b28 "com/example/mudwright/mudwright/Token" "textColumn" "I" (.int (0 : Int32)) := (Fh46.ext E30)
  obtain ⟨_, _, ⟨T48, L48, k48, n48⟩, -, X48, ⟨Lc48, hQ48, l48, y48, z48⟩, st48⟩ := X30.specialBack hx (y := (⟨"com/example/mudwright/mudwright/Token", "<init>", "(Lcom/example/mudwright/mudwright/Token$Kind;Ljava/lang/String;Ljava/lang/String;IIII)V"⟩ : MethodName)) rfl hown30 (mvT hZ30 (hw _ (List.mem_of_getElem? (i := 44) rfl))) (mvT hZ30 (hw _ (List.mem_of_getElem? (i := 45) rfl))) (mvT hZ30 (hw _ (List.mem_of_getElem? (i := 46) rfl))) (by decide) (backOf (W := 1) (own_rm_tok l Z a0 hw [] G1 k_WORD k_STRING k_STRING_START k_STRING_MIDDLE k_STRING_END k_SYMBOL k_END gl b28 b_1 b14 la30 p3 p4 p5 p6 (.null) (.null) (.null) ((.int (0 : Int32))) ((.int (0 : Int32))) ((.int (0 : Int32))) ((.int (0 : Int32))) h30 n0 (Nat.le_trans Z0 Kp31.1) Eh32 Fh34 gh35 Fh37 Fh39 Fh41 Fh43 Fh45 Fh47) hZ30 (hw _ (List.mem_of_getElem? (i := 46) rfl)) (hw _ (List.mem_of_getElem? (i := 40) rfl)) (by decide) (by decide)) (g := (mkF m 71 #[.val (.int p1), .val (.int p2), .val (.int p3), .val (.int p4), .val (.int p5), .val (.int p6), .val (.int (own_k p1)), .val (.ref b_1), .val (.ref b2), .val (.ref b14), .unset, .unset, .unset] [(.int p6), (.int p5), (.int p4), (.int p3), (.ref la30), (.ref b14), (.ref b_1), (.ref b28), (.ref b28)])) rfl (by rw [hml]; rfl) (Steps.refl _) (a := b28) (argsL := [(.ref b_1), (.ref b14), (.ref la30), (.int p3), (.int p4), (.int p5), (.int p6)]) (rest := [(.ref b28)]) (lenOf own_pd6 rfl) rfl (by show 2 * 0 + _ ≤ _; exact Nat.le_of_eq rfl) (hb hby at_71) (fun _ _ => ⟨rfl, e30, (by decide : 6 + 0 ≤ _), (by decide : 35 + 0 ≤ _)⟩)
  dsimp only [Pt.U, Pt.locs, Pt.cells, Pt.slots] at X48 l48 y48 z48 st48 hQ48
  subst y48 z48
  obtain ⟨rfl, Nq48, Kq48, f48_0, f48_1, f48_2, f48_3, f48_4, f48_5, f48_6, f48_7⟩ := hQ48
  have N48 : Fr n0 L48 := by rw [l48]; exact Fr.app N26 Nq48
  have Kp49 : Keep h0 T48.heap [] := Kp31.trans Kq48 (allS (Or.inr (Nat.le_trans Kp27.1 (Nat.le_of_eq g28.symm))) all0)
  have Old50 : Old Z n0 T26.heap := Old25.keep Kq26 (allS gh21 all0)
  have Old51 : Old Z n0 h28 := Old50.ext E28
  have Old52 : Old Z n0 h30 := Old51.ext E30
  have Old53 : Old Z n0 T48.heap := Old52.keep Kq48 (allS gh35 all0)
  obtain ⟨cq54, kq54, q54a, q54b, q54c⟩ := isOf hZ30 rfl f48_0
  obtain ⟨_, _, ⟨T54, L54, k54, n54⟩, -, X54, ⟨Lc54, hQ54, l54, y54, z54⟩, st54⟩ := X48.virtualBack hx (y := (⟨"com/example/mudwright/mudwright/Token", "isAfterValue", "()Z"⟩ : MethodName)) (z := (⟨"com/example/mudwright/mudwright/Token", "isAfterValue", "()Z"⟩ : MethodName)) hown30 (mvT hZ30 (hw _ (List.mem_of_getElem? (i := 67) rfl))) (mvT hZ30 (hw _ (List.mem_of_getElem? (i := 68) rfl))) (notFace_of_selects (args := #[]) (mvT hZ30 (hw _ (List.mem_of_getElem? (i := 70) rfl)))) (mvT hZ30 (hw _ (List.mem_of_getElem? (i := 70) rfl))) (mvT hZ30 (hw _ (List.mem_of_getElem? (i := 69) rfl))) (by decide) (backOf (W := 0) (own_rm_avC l Z a0 hw [] G1 k_WORD k_STRING k_STRING_START k_STRING_MIDDLE k_STRING_END k_SYMBOL k_END gl b28 b_1 T48.heap n0 (Nat.le_trans Z0 Kp49.1) Old53 f48_1 f1_0 f1_1) hZ30 (hw _ (List.mem_of_getElem? (i := 71) rfl)) (hw _ (List.mem_of_getElem? (i := 40) rfl)) (by decide) (by decide)) q54a q54c (g := (mkF m 97 #[.val (.int p1), .val (.int p2), .val (.int p3), .val (.int p4), .val (.int p5), .val (.int p6), .val (.int (own_k p1)), .val (.ref b_1), .val (.ref b2), .val (.ref b14), .val (.ref b28), .val (.int (0 : Int32)), .unset] [(.ref b28)])) rfl (by rw [hml]; rfl) (Steps.refl _) (argsL := []) (rest := []) (lenOf own_pd7 rfl) rfl (by show 2 * 0 + _ ≤ _; exact Nat.le_of_eq rfl) (hb hby at_97) (fun _ _ => ⟨rfl, rfl, (by decide : 6 + 0 ≤ _), (by decide : 35 + 0 ≤ _)⟩)
  dsimp only [Pt.U, Pt.locs, Pt.cells, Pt.slots] at X54 l54 y54 z54 st54 hQ54
  subst y54 z54
  obtain ⟨rfl, Nq54, e54⟩ := hQ54
  have N54 : Fr n0 L54 := by rw [l54]; exact Fr.app N48 Nq54
  obtain ⟨fs, hr, hrun, hended, hREW⟩ := X54.leaveW hS30 (by rw [e54]; exact (Nat.le_trans hk30 Kq48.1)) (v := some (.int (1 : Int32))) (fun h => by rw [Bd.returns] at h; cases h)
  refine ⟨_, _, pre0 _ ?_, hrun, hended, _, _, rfl, ?_, hREW.1, hREW.2.1, hREW.2.2.1, hREW.2.2.2.mono (by decide) (by decide)⟩
  · show Steps p.tables e below (s₁.setTop (mkF m 0 #[.val (.int p1), .val (.int p2), .val (.int p3), .val (.int p4), .val (.int p5), .val (.int p6), .unset, .unset, .unset, .unset, .unset, .unset, .unset] [])) _
    refine XS.iloadN X0.here hx rfl (hb hby at_0) rfl ?_
    show Steps p.tables e below (s₁.setTop (mkF m 1 #[.val (.int p1), .val (.int p2), .val (.int p3), .val (.int p4), .val (.int p5), .val (.int p6), .unset, .unset, .unset, .unset, .unset, .unset, .unset] [(.int p1)])) _
    refine X0.ldcInt hx hown (mvT hZ (hw _ (List.mem_of_getElem? (i := 0) rfl))) (g := (mkF m 1 #[.val (.int p1), .val (.int p2), .val (.int p3), .val (.int p4), .val (.int p5), .val (.int p6), .unset, .unset, .unset, .unset, .unset, .unset, .unset] [(.int p1)])) rfl (hb hby at_1) _ ?_
    show Steps p.tables e below (s₁.setTop (mkF m 3 #[.val (.int p1), .val (.int p2), .val (.int p3), .val (.int p4), .val (.int p5), .val (.int p6), .unset, .unset, .unset, .unset, .unset, .unset, .unset] [(.int (2147483647 : Int32)), (.int p1)])) _
    refine XS.iand X0.here hx rfl (hb hby at_3) rfl ?_
    show Steps p.tables e below (s₁.setTop (mkF m 4 #[.val (.int p1), .val (.int p2), .val (.int p3), .val (.int p4), .val (.int p5), .val (.int p6), .unset, .unset, .unset, .unset, .unset, .unset, .unset] [(.int (p1 &&& (2147483647 : Int32)))])) _
    refine XS.bipush X0.here hx rfl (hb hby at_4) ?_
    show Steps p.tables e below (s₁.setTop (mkF m 6 #[.val (.int p1), .val (.int p2), .val (.int p3), .val (.int p4), .val (.int p5), .val (.int p6), .unset, .unset, .unset, .unset, .unset, .unset, .unset] [(.int (7 : Int32)), (.int (p1 &&& (2147483647 : Int32)))])) _
    refine iremM X0 hx rfl (hb hby at_6) rfl (by decide) ?_
    show Steps p.tables e below (s₁.setTop (mkF m 7 #[.val (.int p1), .val (.int p2), .val (.int p3), .val (.int p4), .val (.int p5), .val (.int p6), .unset, .unset, .unset, .unset, .unset, .unset, .unset] [(.int (own_k p1))])) _
    refine XS.istore X0.here hx rfl (hb hby at_7) rfl (l' := #[.val (.int p1), .val (.int p2), .val (.int p3), .val (.int p4), .val (.int p5), .val (.int p6), .val (.int (own_k p1)), .unset, .unset, .unset, .unset, .unset, .unset]) rfl ?_
    show Steps p.tables e below (s₁.setTop (mkF m 9 #[.val (.int p1), .val (.int p2), .val (.int p3), .val (.int p4), .val (.int p5), .val (.int p6), .val (.int (own_k p1)), .unset, .unset, .unset, .unset, .unset, .unset] [])) _
    refine XS.iload X0.here hx rfl (hb hby at_9) rfl ?_
    show Steps p.tables e below (s₁.setTop (mkF m 11 #[.val (.int p1), .val (.int p2), .val (.int p3), .val (.int p4), .val (.int p5), .val (.int p6), .val (.int (own_k p1)), .unset, .unset, .unset, .unset, .unset, .unset] [(.int (own_k p1))])) _
    refine st1 _ ?_
    show Steps p.tables e below (T1.setTop (mkF m 14 #[.val (.int p1), .val (.int p2), .val (.int p3), .val (.int p4), .val (.int p5), .val (.int p6), .val (.int (own_k p1)), .unset, .unset, .unset, .unset, .unset, .unset] [(.ref b_1)])) _
    refine XS.astore X1.here hx rfl (hb hby at_14) rfl rfl (l' := #[.val (.int p1), .val (.int p2), .val (.int p3), .val (.int p4), .val (.int p5), .val (.int p6), .val (.int (own_k p1)), .val (.ref b_1), .unset, .unset, .unset, .unset, .unset]) rfl ?_
    show Steps p.tables e below (T1.setTop (mkF m 16 #[.val (.int p1), .val (.int p2), .val (.int p3), .val (.int p4), .val (.int p5), .val (.int p6), .val (.int (own_k p1)), .val (.ref b_1), .unset, .unset, .unset, .unset, .unset] [])) _
    refine XS.iconst X1.here hx rfl (hb hby at_16) ?_
    show Steps p.tables e below (T1.setTop (mkF m 17 #[.val (.int p1), .val (.int p2), .val (.int p3), .val (.int p4), .val (.int p5), .val (.int p6), .val (.int (own_k p1)), .val (.ref b_1), .unset, .unset, .unset, .unset, .unset] [(.int (2 : Int32))])) _
    refine st2 _ ?_
    show Steps p.tables e below (T2.setTop (mkF m 19 #[.val (.int p1), .val (.int p2), .val (.int p3), .val (.int p4), .val (.int p5), .val (.int p6), .val (.int (own_k p1)), .val (.ref b_1), .unset, .unset, .unset, .unset, .unset] [(.ref b2)])) _
    refine XS.astore X2.here hx rfl (hb hby at_19) rfl rfl (l' := #[.val (.int p1), .val (.int p2), .val (.int p3), .val (.int p4), .val (.int p5), .val (.int p6), .val (.int (own_k p1)), .val (.ref b_1), .val (.ref b2), .unset, .unset, .unset, .unset]) rfl ?_
    show Steps p.tables e below (T2.setTop (mkF m 21 #[.val (.int p1), .val (.int p2), .val (.int p3), .val (.int p4), .val (.int p5), .val (.int p6), .val (.int (own_k p1)), .val (.ref b_1), .val (.ref b2), .unset, .unset, .unset, .unset] [])) _
    refine XS.aload X2.here hx rfl (hb hby at_21) rfl rfl ?_
    show Steps p.tables e below (T2.setTop (mkF m 23 #[.val (.int p1), .val (.int p2), .val (.int p3), .val (.int p4), .val (.int p5), .val (.int p6), .val (.int (own_k p1)), .val (.ref b_1), .val (.ref b2), .unset, .unset, .unset, .unset] [(.ref b2)])) _
    refine XS.iconst X2.here hx rfl (hb hby at_23) ?_
    show Steps p.tables e below (T2.setTop (mkF m 24 #[.val (.int p1), .val (.int p2), .val (.int p3), .val (.int p4), .val (.int p5), .val (.int p6), .val (.int (own_k p1)), .val (.ref b_1), .val (.ref b2), .unset, .unset, .unset, .unset] [(.int (0 : Int32)), (.ref b2)])) _
    refine XS.iloadN X2.here hx rfl (hb hby at_24) rfl ?_
    show Steps p.tables e below (T2.setTop (mkF m 25 #[.val (.int p1), .val (.int p2), .val (.int p3), .val (.int p4), .val (.int p5), .val (.int p6), .val (.int (own_k p1)), .val (.ref b_1), .val (.ref b2), .unset, .unset, .unset, .unset] [(.int p2), (.int (0 : Int32)), (.ref b2)])) _
    refine XS.sipush X2.here hx rfl (hb hby at_25) ?_
    show Steps p.tables e below (T2.setTop (mkF m 28 #[.val (.int p1), .val (.int p2), .val (.int p3), .val (.int p4), .val (.int p5), .val (.int p6), .val (.int (own_k p1)), .val (.ref b_1), .val (.ref b2), .unset, .unset, .unset, .unset] [(.int (255 : Int32)), (.int p2), (.int (0 : Int32)), (.ref b2)])) _
    refine XS.iand X2.here hx rfl (hb hby at_28) rfl ?_
    show Steps p.tables e below (T2.setTop (mkF m 29 #[.val (.int p1), .val (.int p2), .val (.int p3), .val (.int p4), .val (.int p5), .val (.int p6), .val (.int (own_k p1)), .val (.ref b_1), .val (.ref b2), .unset, .unset, .unset, .unset] [(.int (p2 &&& (255 : Int32))), (.int (0 : Int32)), (.ref b2)])) _
    refine XS.i2c X2.here hx rfl (hb hby at_29) rfl ?_
    show Steps p.tables e below (T2.setTop (mkF m 30 #[.val (.int p1), .val (.int p2), .val (.int p3), .val (.int p4), .val (.int p5), .val (.int p6), .val (.int (own_k p1)), .val (.ref b_1), .val (.ref b2), .unset, .unset, .unset, .unset] [(.int ((p2 &&& (255 : Int32)).toUInt32.toUInt16.toUInt32.toInt32)), (.int (0 : Int32)), (.ref b2)])) _
    refine st6 _ ?_
    show Steps p.tables e below (T6.setTop (mkF m 31 #[.val (.int p1), .val (.int p2), .val (.int p3), .val (.int p4), .val (.int p5), .val (.int p6), .val (.int (own_k p1)), .val (.ref b_1), .val (.ref b2), .unset, .unset, .unset, .unset] [])) _
    refine XS.aload X6.here hx rfl (hb hby at_31) rfl rfl ?_
    show Steps p.tables e below (T6.setTop (mkF m 33 #[.val (.int p1), .val (.int p2), .val (.int p3), .val (.int p4), .val (.int p5), .val (.int p6), .val (.int (own_k p1)), .val (.ref b_1), .val (.ref b2), .unset, .unset, .unset, .unset] [(.ref b2)])) _
    refine XS.iconst X6.here hx rfl (hb hby at_33) ?_
    show Steps p.tables e below (T6.setTop (mkF m 34 #[.val (.int p1), .val (.int p2), .val (.int p3), .val (.int p4), .val (.int p5), .val (.int p6), .val (.int (own_k p1)), .val (.ref b_1), .val (.ref b2), .unset, .unset, .unset, .unset] [(.int (1 : Int32)), (.ref b2)])) _
    refine XS.iloadN X6.here hx rfl (hb hby at_34) rfl ?_
    show Steps p.tables e below (T6.setTop (mkF m 35 #[.val (.int p1), .val (.int p2), .val (.int p3), .val (.int p4), .val (.int p5), .val (.int p6), .val (.int (own_k p1)), .val (.ref b_1), .val (.ref b2), .unset, .unset, .unset, .unset] [(.int p2), (.int (1 : Int32)), (.ref b2)])) _
    refine XS.bipush X6.here hx rfl (hb hby at_35) ?_
    show Steps p.tables e below (T6.setTop (mkF m 37 #[.val (.int p1), .val (.int p2), .val (.int p3), .val (.int p4), .val (.int p5), .val (.int p6), .val (.int (own_k p1)), .val (.ref b_1), .val (.ref b2), .unset, .unset, .unset, .unset] [(.int (8 : Int32)), (.int p2), (.int (1 : Int32)), (.ref b2)])) _
    refine XS.iushr X6.here hx rfl (hb hby at_37) rfl ?_
    show Steps p.tables e below (T6.setTop (mkF m 38 #[.val (.int p1), .val (.int p2), .val (.int p3), .val (.int p4), .val (.int p5), .val (.int p6), .val (.int (own_k p1)), .val (.ref b_1), .val (.ref b2), .unset, .unset, .unset, .unset] [(.int ((p2.toUInt32 >>> ((8 : Int32) &&& 31).toUInt32).toInt32)), (.int (1 : Int32)), (.ref b2)])) _
    refine XS.sipush X6.here hx rfl (hb hby at_38) ?_
    show Steps p.tables e below (T6.setTop (mkF m 41 #[.val (.int p1), .val (.int p2), .val (.int p3), .val (.int p4), .val (.int p5), .val (.int p6), .val (.int (own_k p1)), .val (.ref b_1), .val (.ref b2), .unset, .unset, .unset, .unset] [(.int (255 : Int32)), (.int ((p2.toUInt32 >>> ((8 : Int32) &&& 31).toUInt32).toInt32)), (.int (1 : Int32)), (.ref b2)])) _
    refine XS.iand X6.here hx rfl (hb hby at_41) rfl ?_
    show Steps p.tables e below (T6.setTop (mkF m 42 #[.val (.int p1), .val (.int p2), .val (.int p3), .val (.int p4), .val (.int p5), .val (.int p6), .val (.int (own_k p1)), .val (.ref b_1), .val (.ref b2), .unset, .unset, .unset, .unset] [(.int (((p2.toUInt32 >>> ((8 : Int32) &&& 31).toUInt32).toInt32) &&& (255 : Int32))), (.int (1 : Int32)), (.ref b2)])) _
    refine XS.i2c X6.here hx rfl (hb hby at_42) rfl ?_
    show Steps p.tables e below (T6.setTop (mkF m 43 #[.val (.int p1), .val (.int p2), .val (.int p3), .val (.int p4), .val (.int p5), .val (.int p6), .val (.int (own_k p1)), .val (.ref b_1), .val (.ref b2), .unset, .unset, .unset, .unset] [(.int ((((p2.toUInt32 >>> ((8 : Int32) &&& 31).toUInt32).toInt32) &&& (255 : Int32)).toUInt32.toUInt16.toUInt32.toInt32)), (.int (1 : Int32)), (.ref b2)])) _
    refine st11 _ ?_
    show Steps p.tables e below (T11.setTop (mkF m 44 #[.val (.int p1), .val (.int p2), .val (.int p3), .val (.int p4), .val (.int p5), .val (.int p6), .val (.int (own_k p1)), .val (.ref b_1), .val (.ref b2), .unset, .unset, .unset, .unset] [])) _
    refine st14 _ ?_
    show Steps p.tables e below (T14.setTop (mkF m 47 #[.val (.int p1), .val (.int p2), .val (.int p3), .val (.int p4), .val (.int p5), .val (.int p6), .val (.int (own_k p1)), .val (.ref b_1), .val (.ref b2), .unset, .unset, .unset, .unset] [(.ref b14)])) _
    refine XS.dup X14.here hx rfl (hb hby at_47) rfl rfl ?_
    show Steps p.tables e below (T14.setTop (mkF m 48 #[.val (.int p1), .val (.int p2), .val (.int p3), .val (.int p4), .val (.int p5), .val (.int p6), .val (.int (own_k p1)), .val (.ref b_1), .val (.ref b2), .unset, .unset, .unset, .unset] [(.ref b14), (.ref b14)])) _
    refine XS.aload X14.here hx rfl (hb hby at_48) rfl rfl ?_
    show Steps p.tables e below (T14.setTop (mkF m 50 #[.val (.int p1), .val (.int p2), .val (.int p3), .val (.int p4), .val (.int p5), .val (.int p6), .val (.int (own_k p1)), .val (.ref b_1), .val (.ref b2), .unset, .unset, .unset, .unset] [(.ref b2), (.ref b14), (.ref b14)])) _
    refine st26.trans ?_
    show Steps p.tables e below (T26.setTop (mkF m 53 #[.val (.int p1), .val (.int p2), .val (.int p3), .val (.int p4), .val (.int p5), .val (.int p6), .val (.int (own_k p1)), .val (.ref b_1), .val (.ref b2), .unset, .unset, .unset, .unset] [(.ref b14)])) _
    refine XS.astore X26.here hx rfl (hb hby at_53) rfl rfl (l' := #[.val (.int p1), .val (.int p2), .val (.int p3), .val (.int p4), .val (.int p5), .val (.int p6), .val (.int (own_k p1)), .val (.ref b_1), .val (.ref b2), .val (.ref b14), .unset, .unset, .unset]) rfl ?_
    show Steps p.tables e below (T26.setTop (mkF m 55 #[.val (.int p1), .val (.int p2), .val (.int p3), .val (.int p4), .val (.int p5), .val (.int p6), .val (.int (own_k p1)), .val (.ref b_1), .val (.ref b2), .val (.ref b14), .unset, .unset, .unset] [])) _
    refine st28 _ ?_
    show Steps p.tables e below (T28.setTop (mkF m 58 #[.val (.int p1), .val (.int p2), .val (.int p3), .val (.int p4), .val (.int p5), .val (.int p6), .val (.int (own_k p1)), .val (.ref b_1), .val (.ref b2), .val (.ref b14), .unset, .unset, .unset] [(.ref b28)])) _
    refine XS.dup X28.here hx rfl (hb hby at_58) rfl rfl ?_
    show Steps p.tables e below (T28.setTop (mkF m 59 #[.val (.int p1), .val (.int p2), .val (.int p3), .val (.int p4), .val (.int p5), .val (.int p6), .val (.int (own_k p1)), .val (.ref b_1), .val (.ref b2), .val (.ref b14), .unset, .unset, .unset] [(.ref b28), (.ref b28)])) _
    refine XS.aload X28.here hx rfl (hb hby at_59) rfl rfl ?_
    show Steps p.tables e below (T28.setTop (mkF m 61 #[.val (.int p1), .val (.int p2), .val (.int p3), .val (.int p4), .val (.int p5), .val (.int p6), .val (.int (own_k p1)), .val (.ref b_1), .val (.ref b2), .val (.ref b14), .unset, .unset, .unset] [(.ref b_1), (.ref b28), (.ref b28)])) _
    refine XS.aload X28.here hx rfl (hb hby at_61) rfl rfl ?_
    show Steps p.tables e below (T28.setTop (mkF m 63 #[.val (.int p1), .val (.int p2), .val (.int p3), .val (.int p4), .val (.int p5), .val (.int p6), .val (.int (own_k p1)), .val (.ref b_1), .val (.ref b2), .val (.ref b14), .unset, .unset, .unset] [(.ref b14), (.ref b_1), (.ref b28), (.ref b28)])) _
    refine st30 _ ?_
    show Steps p.tables e below (T30.setTop (mkF m 65 #[.val (.int p1), .val (.int p2), .val (.int p3), .val (.int p4), .val (.int p5), .val (.int p6), .val (.int (own_k p1)), .val (.ref b_1), .val (.ref b2), .val (.ref b14), .unset, .unset, .unset] [(.ref la30), (.ref b14), (.ref b_1), (.ref b28), (.ref b28)])) _
    refine XS.iloadN X30.here hx rfl (hb hby at_65) rfl ?_
    show Steps p.tables e below (T30.setTop (mkF m 66 #[.val (.int p1), .val (.int p2), .val (.int p3), .val (.int p4), .val (.int p5), .val (.int p6), .val (.int (own_k p1)), .val (.ref b_1), .val (.ref b2), .val (.ref b14), .unset, .unset, .unset] [(.int p3), (.ref la30), (.ref b14), (.ref b_1), (.ref b28), (.ref b28)])) _
    refine XS.iloadN X30.here hx rfl (hb hby at_66) rfl ?_
    show Steps p.tables e below (T30.setTop (mkF m 67 #[.val (.int p1), .val (.int p2), .val (.int p3), .val (.int p4), .val (.int p5), .val (.int p6), .val (.int (own_k p1)), .val (.ref b_1), .val (.ref b2), .val (.ref b14), .unset, .unset, .unset] [(.int p4), (.int p3), (.ref la30), (.ref b14), (.ref b_1), (.ref b28), (.ref b28)])) _
    refine XS.iload X30.here hx rfl (hb hby at_67) rfl ?_
    show Steps p.tables e below (T30.setTop (mkF m 69 #[.val (.int p1), .val (.int p2), .val (.int p3), .val (.int p4), .val (.int p5), .val (.int p6), .val (.int (own_k p1)), .val (.ref b_1), .val (.ref b2), .val (.ref b14), .unset, .unset, .unset] [(.int p5), (.int p4), (.int p3), (.ref la30), (.ref b14), (.ref b_1), (.ref b28), (.ref b28)])) _
    refine XS.iload X30.here hx rfl (hb hby at_69) rfl ?_
    show Steps p.tables e below (T30.setTop (mkF m 71 #[.val (.int p1), .val (.int p2), .val (.int p3), .val (.int p4), .val (.int p5), .val (.int p6), .val (.int (own_k p1)), .val (.ref b_1), .val (.ref b2), .val (.ref b14), .unset, .unset, .unset] [(.int p6), (.int p5), (.int p4), (.int p3), (.ref la30), (.ref b14), (.ref b_1), (.ref b28), (.ref b28)])) _
    refine st48.trans ?_
    show Steps p.tables e below (T48.setTop (mkF m 74 #[.val (.int p1), .val (.int p2), .val (.int p3), .val (.int p4), .val (.int p5), .val (.int p6), .val (.int (own_k p1)), .val (.ref b_1), .val (.ref b2), .val (.ref b14), .unset, .unset, .unset] [(.ref b28)])) _
    refine XS.astore X48.here hx rfl (hb hby at_74) rfl rfl (l' := #[.val (.int p1), .val (.int p2), .val (.int p3), .val (.int p4), .val (.int p5), .val (.int p6), .val (.int (own_k p1)), .val (.ref b_1), .val (.ref b2), .val (.ref b14), .val (.ref b28), .unset, .unset]) rfl ?_
    show Steps p.tables e below (T48.setTop (mkF m 76 #[.val (.int p1), .val (.int p2), .val (.int p3), .val (.int p4), .val (.int p5), .val (.int p6), .val (.int (own_k p1)), .val (.ref b_1), .val (.ref b2), .val (.ref b14), .val (.ref b28), .unset, .unset] [])) _
    refine XS.iload X48.here hx rfl (hb hby at_76) rfl ?_
    show Steps p.tables e below (T48.setTop (mkF m 78 #[.val (.int p1), .val (.int p2), .val (.int p3), .val (.int p4), .val (.int p5), .val (.int p6), .val (.int (own_k p1)), .val (.ref b_1), .val (.ref b2), .val (.ref b14), .val (.ref b28), .unset, .unset] [(.int (own_k p1))])) _
    refine XS.iconst X48.here hx rfl (hb hby at_78) ?_
    show Steps p.tables e below (T48.setTop (mkF m 79 #[.val (.int p1), .val (.int p2), .val (.int p3), .val (.int p4), .val (.int p5), .val (.int p6), .val (.int (own_k p1)), .val (.ref b_1), .val (.ref b2), .val (.ref b14), .val (.ref b28), .unset, .unset] [(.int (3 : Int32)), (.int (own_k p1))])) _
    refine XS.icmpNo X48.here hx rfl (hb hby at_79) rfl (feq (hk3 : ¬ ((own_k p1) = (3 : Int32)))).1 ?_
    show Steps p.tables e below (T48.setTop (mkF m 82 #[.val (.int p1), .val (.int p2), .val (.int p3), .val (.int p4), .val (.int p5), .val (.int p6), .val (.int (own_k p1)), .val (.ref b_1), .val (.ref b2), .val (.ref b14), .val (.ref b28), .unset, .unset] [])) _
    refine XS.iload X48.here hx rfl (hb hby at_82) rfl ?_
    show Steps p.tables e below (T48.setTop (mkF m 84 #[.val (.int p1), .val (.int p2), .val (.int p3), .val (.int p4), .val (.int p5), .val (.int p6), .val (.int (own_k p1)), .val (.ref b_1), .val (.ref b2), .val (.ref b14), .val (.ref b28), .unset, .unset] [(.int (own_k p1))])) _
    refine XS.iconst X48.here hx rfl (hb hby at_84) ?_
    show Steps p.tables e below (T48.setTop (mkF m 85 #[.val (.int p1), .val (.int p2), .val (.int p3), .val (.int p4), .val (.int p5), .val (.int p6), .val (.int (own_k p1)), .val (.ref b_1), .val (.ref b2), .val (.ref b14), .val (.ref b28), .unset, .unset] [(.int (4 : Int32)), (.int (own_k p1))])) _
    refine XS.icmpYes X48.here hx rfl (pc0 := 85) (pc' := 92) rfl (hb hby at_85) rfl (feq (hk4 : ¬ ((own_k p1) = (4 : Int32)))).2 (by decide) (by decide) ?_
    show Steps p.tables e below (T48.setTop (mkF m 92 #[.val (.int p1), .val (.int p2), .val (.int p3), .val (.int p4), .val (.int p5), .val (.int p6), .val (.int (own_k p1)), .val (.ref b_1), .val (.ref b2), .val (.ref b14), .val (.ref b28), .unset, .unset] [])) _
    refine XS.iconst X48.here hx rfl (hb hby at_92) ?_
    show Steps p.tables e below (T48.setTop (mkF m 93 #[.val (.int p1), .val (.int p2), .val (.int p3), .val (.int p4), .val (.int p5), .val (.int p6), .val (.int (own_k p1)), .val (.ref b_1), .val (.ref b2), .val (.ref b14), .val (.ref b28), .unset, .unset] [(.int (0 : Int32))])) _
    refine XS.istore X48.here hx rfl (hb hby at_93) rfl (l' := #[.val (.int p1), .val (.int p2), .val (.int p3), .val (.int p4), .val (.int p5), .val (.int p6), .val (.int (own_k p1)), .val (.ref b_1), .val (.ref b2), .val (.ref b14), .val (.ref b28), .val (.int (0 : Int32)), .unset]) rfl ?_
    show Steps p.tables e below (T48.setTop (mkF m 95 #[.val (.int p1), .val (.int p2), .val (.int p3), .val (.int p4), .val (.int p5), .val (.int p6), .val (.int (own_k p1)), .val (.ref b_1), .val (.ref b2), .val (.ref b14), .val (.ref b28), .val (.int (0 : Int32)), .unset] [])) _
    refine XS.aload X48.here hx rfl (hb hby at_95) rfl rfl ?_
    show Steps p.tables e below (T48.setTop (mkF m 97 #[.val (.int p1), .val (.int p2), .val (.int p3), .val (.int p4), .val (.int p5), .val (.int p6), .val (.int (own_k p1)), .val (.ref b_1), .val (.ref b2), .val (.ref b14), .val (.ref b28), .val (.int (0 : Int32)), .unset] [(.ref b28)])) _
    refine st54.trans ?_
    show Steps p.tables e below (T54.setTop (mkF m 100 #[.val (.int p1), .val (.int p2), .val (.int p3), .val (.int p4), .val (.int p5), .val (.int p6), .val (.int (own_k p1)), .val (.ref b_1), .val (.ref b2), .val (.ref b14), .val (.ref b28), .val (.int (0 : Int32)), .unset] [(.int (0 : Int32))])) _
    refine XS.istore X54.here hx rfl (hb hby at_100) rfl (l' := #[.val (.int p1), .val (.int p2), .val (.int p3), .val (.int p4), .val (.int p5), .val (.int p6), .val (.int (own_k p1)), .val (.ref b_1), .val (.ref b2), .val (.ref b14), .val (.ref b28), .val (.int (0 : Int32)), .val (.int (0 : Int32))]) rfl ?_
    show Steps p.tables e below (T54.setTop (mkF m 102 #[.val (.int p1), .val (.int p2), .val (.int p3), .val (.int p4), .val (.int p5), .val (.int p6), .val (.int (own_k p1)), .val (.ref b_1), .val (.ref b2), .val (.ref b14), .val (.ref b28), .val (.int (0 : Int32)), .val (.int (0 : Int32))] [])) _
    refine XS.iload X54.here hx rfl (hb hby at_102) rfl ?_
    show Steps p.tables e below (T54.setTop (mkF m 104 #[.val (.int p1), .val (.int p2), .val (.int p3), .val (.int p4), .val (.int p5), .val (.int p6), .val (.int (own_k p1)), .val (.ref b_1), .val (.ref b2), .val (.ref b14), .val (.ref b28), .val (.int (0 : Int32)), .val (.int (0 : Int32))] [(.int (0 : Int32))])) _
    refine XS.iload X54.here hx rfl (hb hby at_104) rfl ?_
    show Steps p.tables e below (T54.setTop (mkF m 106 #[.val (.int p1), .val (.int p2), .val (.int p3), .val (.int p4), .val (.int p5), .val (.int p6), .val (.int (own_k p1)), .val (.ref b_1), .val (.ref b2), .val (.ref b14), .val (.ref b28), .val (.int (0 : Int32)), .val (.int (0 : Int32))] [(.int (0 : Int32)), (.int (0 : Int32))])) _
    refine XS.icmpYes X54.here hx rfl (pc0 := 106) (pc' := 111) rfl (hb hby at_106) rfl (teq (rfl : (0 : Int32) = (0 : Int32))).1 (by decide) (by decide) ?_
    show Steps p.tables e below (T54.setTop (mkF m 111 #[.val (.int p1), .val (.int p2), .val (.int p3), .val (.int p4), .val (.int p5), .val (.int p6), .val (.int (own_k p1)), .val (.ref b_1), .val (.ref b2), .val (.ref b14), .val (.ref b28), .val (.int (0 : Int32)), .val (.int (0 : Int32))] [])) _
    refine XS.iload X54.here hx rfl (hb hby at_111) rfl ?_
    show Steps p.tables e below (T54.setTop (mkF m 113 #[.val (.int p1), .val (.int p2), .val (.int p3), .val (.int p4), .val (.int p5), .val (.int p6), .val (.int (own_k p1)), .val (.ref b_1), .val (.ref b2), .val (.ref b14), .val (.ref b28), .val (.int (0 : Int32)), .val (.int (0 : Int32))] [(.int (0 : Int32))])) _
    refine XS.ifYes X54.here hx rfl (pc0 := 113) (pc' := 126) rfl (hb hby at_113) rfl ((if0 _ _).trans (teq (rfl : (0 : Int32) = (0 : Int32))).1) (by decide) (by decide) ?_
    show Steps p.tables e below (T54.setTop (mkF m 126 #[.val (.int p1), .val (.int p2), .val (.int p3), .val (.int p4), .val (.int p5), .val (.int p6), .val (.int (own_k p1)), .val (.ref b_1), .val (.ref b2), .val (.ref b14), .val (.ref b28), .val (.int (0 : Int32)), .val (.int (0 : Int32))] [])) _
    refine XS.iconst X54.here hx rfl (hb hby at_126) ?_
    show Steps p.tables e below (T54.setTop (mkF m 127 #[.val (.int p1), .val (.int p2), .val (.int p3), .val (.int p4), .val (.int p5), .val (.int p6), .val (.int (own_k p1)), .val (.ref b_1), .val (.ref b2), .val (.ref b14), .val (.ref b28), .val (.int (0 : Int32)), .val (.int (0 : Int32))] [(.int (1 : Int32))])) _
    exact retN X54 hx (t := .boolean) Bd.returns (by simp) (hb hby at_127) hr
  · show own_Qlaw h0 n0 _ T54.heap _
    exact ⟨rfl, N54⟩
set_option maxRecDepth 65536 in
theorem own_law (l : Launch) (Z : State) (a0 : Array Value) (hw : ∀ d ∈ tables_1, d.before a0 Z = true) (ws : List Jvm.Cond) (G1 : Int32) (k_WORD : Addr) (k_STRING : Addr) (k_STRING_START : Addr) (k_STRING_MIDDLE : Addr) (k_STRING_END : Addr) (k_SYMBOL : Addr) (k_END : Addr) (gl : own_Glob Z G1 k_WORD k_STRING k_STRING_START k_STRING_MIDDLE k_STRING_END k_SYMBOL k_END) (p1 p2 p3 p4 p5 p6 : Int32) (h0 : Heap) (n0 : Nat) (Z0 : n0 ≤ h0.size) (X00 : Old Z n0 h0) :
    MetFree l x (head1 (Jvm.Cond.code x code maxLocals ret :: ws) room_1) (fun a U => a = #[(.int p1), (.int p2), (.int p3), (.int p4), (.int p5), (.int p6)] ∧ Z.Warmed39 U.vm ∧ U.heap = h0) (fun _ _ _ _ _ => True) (fun _ U o U' => ∃ v L, o = .returned v ∧ own_Qlaw h0 n0 v U'.heap L ∧ ReturnedEndW U o U' L room_1.cells room_1.slots) := by
  by_cases hk3 : own_k p1 = (3 : Int32)
  · exact own_lawA l Z a0 hw ws G1 k_WORD k_STRING k_STRING_START k_STRING_MIDDLE k_STRING_END k_SYMBOL k_END gl p1 p2 p3 p4 p5 p6 h0 n0 Z0 X00 hk3
  · by_cases hk4 : own_k p1 = (4 : Int32)
    · exact own_lawB l Z a0 hw ws G1 k_WORD k_STRING k_STRING_START k_STRING_MIDDLE k_STRING_END k_SYMBOL k_END gl p1 p2 p3 p4 p5 p6 h0 n0 Z0 X00 hk4
    · exact own_lawC l Z a0 hw ws G1 k_WORD k_STRING k_STRING_START k_STRING_MIDDLE k_STRING_END k_SYMBOL k_END gl p1 p2 p3 p4 p5 p6 h0 n0 Z0 X00 hk3 hk4
set_option maxRecDepth 65536 in
set_option maxHeartbeats 40000000 in
theorem comes_1 {Post : Tables → Env → Array Value → State → Outcome → State → Prop} (hpost : ∀ tb e args s v u, (limb_1_1.after args s (.returned v) u = true ∧ limb_1_2.after args s (.returned v) u = true ∧ True) → ReturnedEndW s (.returned v) u (Jvm.fieldLocs frame_1_writes args s ++ Jvm.arrayLocs frame_1_arrays args s ++ Jvm.staticLocs frame_1_statics s) 24 1152 → Post tb e args s (.returned v) u) :
    ArmFor flags0 classFile x code maxLocals ret World_1 tables_1 room_1 Calls_1 rest_1 Pre_1 Post := by
  intro l hfl _ _ p e ha hc hk s m args below hf hA hF happ hP
  obtain ⟨hcalls, hrest, hpre⟩ := hP
  obtain ⟨-, -, -, hnamed, -, -, -, hat⟩ := (Spec.applies_iff hf).mp happ
  obtain ⟨hg, hn⟩ := and_e (Cond.before_iff.mp (show (Jvm.Cond.and given_1 narrow_1).before args s = true from hpre))
  obtain ⟨cj1, cj2⟩ := and_e hg
  obtain ⟨cj3, cj4⟩ := and_e cj2
  obtain ⟨cj5, cj6⟩ := and_e cj4
  obtain ⟨cj7, cj8⟩ := and_e cj6
  obtain ⟨cj9, cj10⟩ := and_e cj8
  obtain ⟨cj11, cj12⟩ := and_e cj10
  obtain ⟨w0, w1, w2, w3, w4, w5, rfl⟩ : ∃ w0 w1 w2 w3 w4 w5 : Value, args = #[w0, w1, w2, w3, w4, w5] := by
    have hs : args.size = 6 := by simpa [Cond.value, given_1] using cj1
    obtain ⟨L⟩ := args
    match L, hs with
    | [w0, w1, w2, w3, w4, w5], _ => exact ⟨w0, w1, w2, w3, w4, w5, rfl⟩
  have hw := fun d (hd : d ∈ tables_1) => atoms_spec (ws := Jvm.Cond.code x code maxLocals ret :: tables_1) hat d (List.mem_cons_of_mem _ hd)
  have hfit : Fit s := fun {y c} hc i hi => by
    obtain ⟨ha, rfl⟩ := Array.getElem?_eq_some_iff.mp hc
    have q := List.all_eq_true.mp ((Array.all_eq_true_iff_forall_mem.mp hF) _ (Array.getElem_mem ha)) i (List.mem_range.mpr hi)
    simpa [Array.getElem?_eq_getElem hi] using q
  obtain ⟨hsets, hown0⟩ := atoms_of _ (rest_1_c_eq ▸ (show rest_1_c.before _ s = true from hrest))
  have hr0 := Cond.before_iff.mp hown0
  obtain ⟨i0, ei0⟩ := is_v cj3
  obtain rfl : w0 = (.int i0) := Option.some.inj ei0
  obtain ⟨i1, ei1⟩ := is_v cj5
  obtain rfl : w1 = (.int i1) := Option.some.inj ei1
  obtain ⟨i2, ei2⟩ := is_v cj7
  obtain rfl : w2 = (.int i2) := Option.some.inj ei2
  obtain ⟨i3, ei3⟩ := is_v cj9
  obtain rfl : w3 = (.int i3) := Option.some.inj ei3
  obtain ⟨i4, ei4⟩ := is_v cj11
  obtain rfl : w4 = (.int i4) := Option.some.inj ei4
  obtain ⟨i5, ei5⟩ := is_v cj12
  obtain rfl : w5 = (.int i5) := Option.some.inj ei5
  obtain ⟨cj13, cj14⟩ := and_e hn
  obtain ⟨cj15, cj16⟩ := and_e cj14
  obtain ⟨cj17, cj18⟩ := and_e cj16
  obtain ⟨cj19, cj20⟩ := and_e cj18
  obtain ⟨cj21, cj22⟩ := and_e cj20
  obtain ⟨cj23, cj24⟩ := and_e cj22
  obtain ⟨cj25, cj26⟩ := and_e cj24
  obtain ⟨cj27, cj28⟩ := and_e cj26
  obtain ⟨cj29, cj30⟩ := and_e cj28
  obtain ⟨cj31, cj32⟩ := and_e cj30
  obtain ⟨cj33, cj34⟩ := and_e cj32
  obtain ⟨cj35, cj36⟩ := and_e cj34
  obtain ⟨cj37, cj38⟩ := and_e cj36
  obtain ⟨G1, eG1⟩ := is_v (Cond.before_iff.mp (hsets _ (List.mem_of_getElem? (i := 1) rfl)))
  have O_CS : Sta s s.heap "java/lang/String" "COMPACT_STRINGS" "Z" (.int G1) := Sta.start eG1 (Or.inl (hsets _ (List.mem_of_getElem? (i := 0) rfl)))
  have P_CS : ¬ (G1 = (0 : Int32)) := gotF (Cond.eq_ints eG1 (Term.int_eval (0))) (not_v (Cond.before_iff.mp (hsets _ (List.mem_of_getElem? (i := 2) rfl))))
  obtain ⟨k_WORD, ev_WORD⟩ := exa_v cj13
  have E_WORD : Exa s s.heap k_WORD "com/example/mudwright/mudwright/Token$Kind" := Exa.start ev_WORD cj13
  have O_WORD : Sta s s.heap "com/example/mudwright/mudwright/Token$Kind" "WORD" "Lcom/example/mudwright/mudwright/Token$Kind;" (.ref k_WORD) := Sta.start ev_WORD (Or.inr ⟨(hw _ (List.mem_of_getElem? (i := 6) rfl)), (hw _ (List.mem_of_getElem? (i := 7) rfl))⟩)
  have F_WORD : Fld s s.heap k_WORD "java/lang/Enum" "ordinal" "I" (.int 0) := Fld.start ((fld_at ev_WORD).symm.trans (own_eqint cj17))
  obtain ⟨k_STRING, ev_STRING⟩ := exa_v cj25
  have E_STRING : Exa s s.heap k_STRING "com/example/mudwright/mudwright/Token$Kind" := Exa.start ev_STRING cj25
  have O_STRING : Sta s s.heap "com/example/mudwright/mudwright/Token$Kind" "STRING" "Lcom/example/mudwright/mudwright/Token$Kind;" (.ref k_STRING) := Sta.start ev_STRING (Or.inr ⟨(hw _ (List.mem_of_getElem? (i := 6) rfl)), (hw _ (List.mem_of_getElem? (i := 83) rfl))⟩)
  have F_STRING : Fld s s.heap k_STRING "java/lang/Enum" "ordinal" "I" (.int 1) := Fld.start ((fld_at ev_STRING).symm.trans (own_eqint cj27))
  obtain ⟨k_STRING_START, ev_STRING_START⟩ := exa_v cj29
  have E_STRING_START : Exa s s.heap k_STRING_START "com/example/mudwright/mudwright/Token$Kind" := Exa.start ev_STRING_START cj29
  have O_STRING_START : Sta s s.heap "com/example/mudwright/mudwright/Token$Kind" "STRING_START" "Lcom/example/mudwright/mudwright/Token$Kind;" (.ref k_STRING_START) := Sta.start ev_STRING_START (Or.inr ⟨(hw _ (List.mem_of_getElem? (i := 6) rfl)), (hw _ (List.mem_of_getElem? (i := 85) rfl))⟩)
  have F_STRING_START : Fld s s.heap k_STRING_START "java/lang/Enum" "ordinal" "I" (.int 2) := Fld.start ((fld_at ev_STRING_START).symm.trans (own_eqint cj31))
  obtain ⟨k_STRING_MIDDLE, ev_STRING_MIDDLE⟩ := exa_v cj15
  have E_STRING_MIDDLE : Exa s s.heap k_STRING_MIDDLE "com/example/mudwright/mudwright/Token$Kind" := Exa.start ev_STRING_MIDDLE cj15
  have O_STRING_MIDDLE : Sta s s.heap "com/example/mudwright/mudwright/Token$Kind" "STRING_MIDDLE" "Lcom/example/mudwright/mudwright/Token$Kind;" (.ref k_STRING_MIDDLE) := Sta.start ev_STRING_MIDDLE (Or.inr ⟨(hw _ (List.mem_of_getElem? (i := 6) rfl)), (hw _ (List.mem_of_getElem? (i := 73) rfl))⟩)
  have F_STRING_MIDDLE : Fld s s.heap k_STRING_MIDDLE "java/lang/Enum" "ordinal" "I" (.int 3) := Fld.start ((fld_at ev_STRING_MIDDLE).symm.trans (own_eqint cj19))
  obtain ⟨k_STRING_END, ev_STRING_END⟩ := exa_v cj21
  have E_STRING_END : Exa s s.heap k_STRING_END "com/example/mudwright/mudwright/Token$Kind" := Exa.start ev_STRING_END cj21
  have O_STRING_END : Sta s s.heap "com/example/mudwright/mudwright/Token$Kind" "STRING_END" "Lcom/example/mudwright/mudwright/Token$Kind;" (.ref k_STRING_END) := Sta.start ev_STRING_END (Or.inr ⟨(hw _ (List.mem_of_getElem? (i := 6) rfl)), (hw _ (List.mem_of_getElem? (i := 75) rfl))⟩)
  have F_STRING_END : Fld s s.heap k_STRING_END "java/lang/Enum" "ordinal" "I" (.int 4) := Fld.start ((fld_at ev_STRING_END).symm.trans (own_eqint cj23))
  obtain ⟨k_SYMBOL, ev_SYMBOL⟩ := exa_v cj37
  have E_SYMBOL : Exa s s.heap k_SYMBOL "com/example/mudwright/mudwright/Token$Kind" := Exa.start ev_SYMBOL cj37
  have O_SYMBOL : Sta s s.heap "com/example/mudwright/mudwright/Token$Kind" "SYMBOL" "Lcom/example/mudwright/mudwright/Token$Kind;" (.ref k_SYMBOL) := Sta.start ev_SYMBOL (Or.inr ⟨(hw _ (List.mem_of_getElem? (i := 6) rfl)), (hw _ (List.mem_of_getElem? (i := 92) rfl))⟩)
  have F_SYMBOL : Fld s s.heap k_SYMBOL "java/lang/Enum" "ordinal" "I" (.int 5) := Fld.start ((fld_at ev_SYMBOL).symm.trans (own_eqint cj38))
  obtain ⟨k_END, ev_END⟩ := exa_v cj33
  have E_END : Exa s s.heap k_END "com/example/mudwright/mudwright/Token$Kind" := Exa.start ev_END cj33
  have O_END : Sta s s.heap "com/example/mudwright/mudwright/Token$Kind" "END" "Lcom/example/mudwright/mudwright/Token$Kind;" (.ref k_END) := Sta.start ev_END (Or.inr ⟨(hw _ (List.mem_of_getElem? (i := 6) rfl)), (hw _ (List.mem_of_getElem? (i := 90) rfl))⟩)
  have F_END : Fld s s.heap k_END "java/lang/Enum" "ordinal" "I" (.int 6) := Fld.start ((fld_at ev_END).symm.trans (own_eqint cj35))
  have ne_WORD_STRING_MIDDLE : k_WORD ≠ k_STRING_MIDDLE := Fld.ne F_WORD F_STRING_MIDDLE (by decide)
  have ne_WORD_STRING_END : k_WORD ≠ k_STRING_END := Fld.ne F_WORD F_STRING_END (by decide)
  have ne_STRING_STRING_MIDDLE : k_STRING ≠ k_STRING_MIDDLE := Fld.ne F_STRING F_STRING_MIDDLE (by decide)
  have ne_STRING_STRING_END : k_STRING ≠ k_STRING_END := Fld.ne F_STRING F_STRING_END (by decide)
  have ne_STRING_START_STRING_MIDDLE : k_STRING_START ≠ k_STRING_MIDDLE := Fld.ne F_STRING_START F_STRING_MIDDLE (by decide)
  have ne_STRING_START_STRING_END : k_STRING_START ≠ k_STRING_END := Fld.ne F_STRING_START F_STRING_END (by decide)
  have ne_STRING_MIDDLE_STRING_END : k_STRING_MIDDLE ≠ k_STRING_END := Fld.ne F_STRING_MIDDLE F_STRING_END (by decide)
  have ne_SYMBOL_STRING_MIDDLE : k_SYMBOL ≠ k_STRING_MIDDLE := Fld.ne F_SYMBOL F_STRING_MIDDLE (by decide)
  have ne_SYMBOL_STRING_END : k_SYMBOL ≠ k_STRING_END := Fld.ne F_SYMBOL F_STRING_END (by decide)
  have ne_END_STRING_MIDDLE : k_END ≠ k_STRING_MIDDLE := Fld.ne F_END F_STRING_MIDDLE (by decide)
  have ne_END_STRING_END : k_END ≠ k_STRING_END := Fld.ne F_END F_STRING_END (by decide)
  obtain ⟨n, o, h1, h2, h3, _, L, rfl, ⟨rfl, N⟩, hq⟩ := own_law l s _ hw tables_1 G1 k_WORD k_STRING k_STRING_START k_STRING_MIDDLE k_STRING_END k_SYMBOL k_END ⟨O_CS, P_CS, O_WORD, E_WORD, O_STRING, E_STRING, O_STRING_START, E_STRING_START, O_STRING_MIDDLE, E_STRING_MIDDLE, O_STRING_END, E_STRING_END, O_SYMBOL, E_SYMBOL, O_END, E_END, ne_WORD_STRING_MIDDLE, ne_WORD_STRING_END, ne_STRING_STRING_MIDDLE, ne_STRING_STRING_END, ne_STRING_START_STRING_MIDDLE, ne_STRING_START_STRING_END, ne_STRING_MIDDLE_STRING_END, ne_SYMBOL_STRING_MIDDLE, ne_SYMBOL_STRING_END, ne_END_STRING_MIDDLE, ne_END_STRING_END⟩ i0 i1 i2 i3 i4 i5 s.heap s.heap.size (Nat.le_refl _) (Old.start s) p e ha hc hk s m _ below hf ((Spec.applies_iff_loose hf).mp happ).1 ⟨rfl, State.Warmed39.refl s, rfl⟩ trivial
  refine ⟨n, _, h1, h2, h3, hpost _ _ _ _ _ _ ⟨Cond.after_iff.mpr rfl, Cond.after_iff.mpr (eq_i res_at (Term.int_eval (1)) rfl), trivial⟩ ⟨hq.1, hq.2.1, hq.2.2.1, (hq.2.2.2.sift fun y hy => Or.inr (N y hy)).mono (by decide) (by decide)⟩⟩
theorem main_1_1 : Claimed_1_1 := comes_1 fun _ _ _ _ _ _ h hF => ⟨h.1, hF⟩
theorem main_1_2 : Claimed_1_2 := comes_1 fun _ _ _ _ _ _ h hF => ⟨h.2.1, hF⟩
end Jvm.Pilot.@@N@@
namespace Jvm.Pilot.@@N@@
open Jvm Jvm.ClassFile Sem Op Lib Jvm.Free Jvm.Stand Jvm.Pilot.@@N@@.Jvm.D
/-! MADE BY PROGRAM (witnessworld.py) out of the Statement's table words and the real class files: 23 classes; the members and pool entries that the words name. The judged class is class 1, her method 2. -/
namespace start1
open Jvm.ClassFile
def u (s : String) : CpInfo := .utf8 (stringToUtf16 s)
/-- a pool by its gaps: so many unusable entries, then the entry; so many at the end -/
def gap : Nat → List CpInfo → List CpInfo
  | 0, r => r
  | n + 1, r => .unusable :: gap n r
def poolList (es : List (Nat × CpInfo)) (last : Nat) : List CpInfo := es.foldr (fun e r => gap e.1 (e.2 :: r)) (gap last [])
def pool (es : List (Nat × CpInfo)) (last : Nat) : Array CpInfo := ⟨poolList es last⟩
def fileOf (pool : Array CpInfo) (this : Nat) (attrs : Array Attribute := #[]) (ms : Array MethodInfo := #[]) (fl : Nat := 33) (sup : Nat := 0) (ifs : Array Nat := #[]) (fds : Array FieldInfo := #[]) : ClassFile where
  minorVersion := 0
  majorVersion := 65
  constantPool := pool
  accessFlags := fl
  thisClass := this
  superClass := sup
  interfaces := ifs
  fields := fds
  methods := ms
  attributes := attrs
def plain (name : String) (sup : Option ClassId) : Class where
  name := name
  kind := .ordinary
  loader := none
  accessFlags := 33
  super := sup
  interfaces := #[]
  cf := none
  fields := #[]
  methods := #[]
  instanceTypes := #[]
  staticTypes := #[]
  resolved := #[]
  callSites := []
  init := .initialized
  statics := none
  mirror := none

def pool0 : Array CpInfo := pool [(5, u "<init>"), (0, u "()V"), (1, .class_ 10), (1, u "java/lang/Object")] 113

def k0c0 : Code := { maxStack := 0, maxLocals := 1, code := object_method_1_code, exceptionTable := #[], attributes := #[] }
def k0m0 : Method := { name := "<init>", desc := "()V", sig := { parameters := [], returnType := none }, accessFlags := 1, code := some k0c0 }
/-- java/lang/Object -/
def k0 : Class := { plain "java/lang/Object" none with
  accessFlags := 33
  interfaces := #[]
  cf := some (fileOf pool0 8 #[] #[{ accessFlags := 1, nameIndex := 5, descriptorIndex := 6, attributes := #[] }] 33 0 #[] #[])
  fields := #[]
  methods := #[k0m0]
  instanceTypes := #[]
  staticTypes := #[]
  resolved := Array.replicate 124 none
  statics := none }

def pool1 : Array CpInfo := pool [(2, .class_ 4), (1, u "java/lang/Object"), (0, u "<init>"), (0, u "()V"), (0, .fieldref 8 9), (0, .class_ 10), (0, .nameAndType 11 12), (0, u "com/example/mudwright/mudwright/Token$Kind"), (0, u "WORD"), (0, u "Lcom/example/mudwright/mudwright/Token$Kind;"), (0, .fieldref 8 14), (0, .nameAndType 15 12), (0, u "STRING"), (0, .fieldref 8 17), (0, .nameAndType 18 12), (0, u "STRING_START"), (0, .fieldref 8 20), (0, .nameAndType 21 12), (0, u "STRING_MIDDLE"), (0, .fieldref 8 23), (0, .nameAndType 24 12), (0, u "STRING_END"), (0, .fieldref 8 26), (0, .nameAndType 27 12), (0, u "SYMBOL"), (0, .fieldref 8 29), (0, .nameAndType 30 12), (0, u "END"), (0, .integer 2147483647), (0, .methodref 33 34), (0, .class_ 35), (0, .nameAndType 36 37), (0, u "com/example/mudwright/mudwright/TokenIsAfterValuePinLaw"), (0, u "kindOf"), (0, u "(I)Lcom/example/mudwright/mudwright/Token$Kind;"), (0, .class_ 39), (0, u "java/lang/String"), (0, .methodref 38 41), (0, .nameAndType 5 42), (0, u "([C)V"), (0, .class_ 44), (0, u "com/example/mudwright/mudwright/Token"), (0, .string 46), (0, u "w.mw"), (0, .methodref 43 48), (0, .nameAndType 5 49), (0, u "(Lcom/example/mudwright/mudwright/Token$Kind;Ljava/lang/String;Ljava/lang/String;IIII)V"), (0, .methodref 43 51), (0, .nameAndType 52 53), (0, u "isAfterValue"), (0, u "()Z"), (0, .methodref 43 55), (0, .nameAndType 56 53), (0, u "isString"), (3, u "law"), (0, u "(IIIIII)Z")] 6

def k1m0 : Method := { name := "<init>", desc := "()V", sig := { parameters := [], returnType := none }, accessFlags := 1, code := none }
def k1c1 : Code := { maxStack := 2, maxLocals := 1, code := method_2_code, exceptionTable := #[], attributes := #[] }
def k1m1 : Method := { name := "kindOf", desc := "(I)Lcom/example/mudwright/mudwright/Token$Kind;", sig := { parameters := [.int], returnType := some (.object "com/example/mudwright/mudwright/Token$Kind") }, accessFlags := 10, code := some k1c1 }
def k1c2 : Code := { maxStack := 9, maxLocals := 13, code := code, exceptionTable := #[], attributes := #[] }
def k1m2 : Method := { name := "law", desc := "(IIIIII)Z", sig := { parameters := [.int, .int, .int, .int, .int, .int], returnType := some .boolean }, accessFlags := 9, code := some k1c2 }
/-- com/example/mudwright/mudwright/TokenIsAfterValuePinLaw -/
def k1 : Class := { plain "com/example/mudwright/mudwright/TokenIsAfterValuePinLaw" (some 0) with
  accessFlags := 49
  interfaces := #[]
  cf := some (fileOf pool1 33 #[] #[{ accessFlags := 1, nameIndex := 5, descriptorIndex := 6, attributes := #[] }, { accessFlags := 10, nameIndex := 36, descriptorIndex := 37, attributes := #[] }, { accessFlags := 9, nameIndex := 60, descriptorIndex := 61, attributes := #[] }] 49 2 #[] #[])
  fields := #[]
  methods := #[k1m0, k1m1, k1m2]
  instanceTypes := #[]
  staticTypes := #[]
  resolved := Array.replicate 68 none
  statics := none }

def pool2 : Array CpInfo := pool [(1, .class_ 2), (0, u "java/lang/constant/Constable"), (0, .class_ 4), (0, u "java/lang/Object")] 6

/-- java/lang/constant/Constable -/
def k2 : Class := { plain "java/lang/constant/Constable" (some 0) with
  accessFlags := 1537
  interfaces := #[]
  cf := some (fileOf pool2 1 #[] #[] 1537 3 #[] #[])
  fields := #[]
  methods := #[]
  instanceTypes := #[]
  staticTypes := #[]
  resolved := Array.replicate 11 none
  statics := none }

def pool3 : Array CpInfo := pool [(1, .class_ 2), (0, u "java/lang/Comparable"), (0, .class_ 4), (0, u "java/lang/Object")] 7

/-- java/lang/Comparable -/
def k3 : Class := { plain "java/lang/Comparable" (some 0) with
  accessFlags := 1537
  interfaces := #[]
  cf := some (fileOf pool3 1 #[] #[] 1537 3 #[] #[])
  fields := #[]
  methods := #[]
  instanceTypes := #[]
  staticTypes := #[]
  resolved := Array.replicate 12 none
  statics := none }

def pool4 : Array CpInfo := pool [(1, .class_ 2), (0, u "java/io/Serializable"), (0, .class_ 4), (0, u "java/lang/Object")] 2

/-- java/io/Serializable -/
def k4 : Class := { plain "java/io/Serializable" (some 0) with
  accessFlags := 1537
  interfaces := #[]
  cf := some (fileOf pool4 1 #[] #[] 1537 3 #[] #[])
  fields := #[]
  methods := #[]
  instanceTypes := #[]
  staticTypes := #[]
  resolved := Array.replicate 7 none
  statics := none }

def pool5 : Array CpInfo := pool [(2, .class_ 4), (1, u "java/lang/Enum"), (0, u "name"), (0, u "Ljava/lang/String;"), (2, u "ordinal"), (0, u "I"), (1, .class_ 14), (1, u "java/lang/Object"), (4, u "hash"), (86, .class_ 108), (1, u "java/lang/Enum$EnumDesc"), (2, .class_ 112), (0, u "java/lang/constant/Constable"), (0, .class_ 114), (0, u "java/lang/Comparable"), (0, .class_ 116), (0, u "java/io/Serializable")] 87

/-- java/lang/Enum -/
def k5 : Class := { plain "java/lang/Enum" (some 0) with
  accessFlags := 1057
  interfaces := #[2, 3, 4]
  cf := some (fileOf pool5 2 #[.nestMembers #[106]] #[] 1057 12 #[111, 113, 115] #[{ accessFlags := 18, nameIndex := 5, descriptorIndex := 6, attributes := #[] }, { accessFlags := 18, nameIndex := 9, descriptorIndex := 10, attributes := #[] }, { accessFlags := 2, nameIndex := 19, descriptorIndex := 10, attributes := #[] }])
  fields := #[{ name := "name", type := (.object "java/lang/String"), accessFlags := 18, slot := 0, constantValue := 0 }, { name := "ordinal", type := .int, accessFlags := 18, slot := 1, constantValue := 0 }, { name := "hash", type := .int, accessFlags := 2, slot := 2, constantValue := 0 }]
  methods := #[]
  instanceTypes := #[(.object "java/lang/String"), .int, .int]
  staticTypes := #[]
  resolved := Array.replicate 204 none
  statics := none }

def pool6 : Array CpInfo := pool [(1, .class_ 2), (0, u "com/example/mudwright/mudwright/Token$Kind"), (2, u "WORD"), (0, u "Lcom/example/mudwright/mudwright/Token$Kind;"), (2, u "STRING"), (2, u "STRING_START"), (2, u "STRING_MIDDLE"), (2, u "STRING_END"), (2, u "SYMBOL"), (2, u "END"), (2, u "$VALUES"), (0, u "[Lcom/example/mudwright/mudwright/Token$Kind;"), (6, .class_ 37), (1, u "java/lang/Enum"), (30, .class_ 69), (0, u "com/example/mudwright/mudwright/Token")] 2

/-- com/example/mudwright/mudwright/Token$Kind -/
def k6 : Class := { plain "com/example/mudwright/mudwright/Token$Kind" (some 5) with
  accessFlags := 16432
  interfaces := #[]
  cf := some (fileOf pool6 1 #[.nestHost 68] #[] 16432 35 #[] #[{ accessFlags := 16409, nameIndex := 5, descriptorIndex := 6, attributes := #[] }, { accessFlags := 16409, nameIndex := 9, descriptorIndex := 6, attributes := #[] }, { accessFlags := 16409, nameIndex := 12, descriptorIndex := 6, attributes := #[] }, { accessFlags := 16409, nameIndex := 15, descriptorIndex := 6, attributes := #[] }, { accessFlags := 16409, nameIndex := 18, descriptorIndex := 6, attributes := #[] }, { accessFlags := 16409, nameIndex := 21, descriptorIndex := 6, attributes := #[] }, { accessFlags := 16409, nameIndex := 24, descriptorIndex := 6, attributes := #[] }, { accessFlags := 4122, nameIndex := 27, descriptorIndex := 28, attributes := #[] }])
  fields := #[{ name := "WORD", type := (.object "com/example/mudwright/mudwright/Token$Kind"), accessFlags := 16409, slot := 0, constantValue := 0 }, { name := "STRING", type := (.object "com/example/mudwright/mudwright/Token$Kind"), accessFlags := 16409, slot := 1, constantValue := 0 }, { name := "STRING_START", type := (.object "com/example/mudwright/mudwright/Token$Kind"), accessFlags := 16409, slot := 2, constantValue := 0 }, { name := "STRING_MIDDLE", type := (.object "com/example/mudwright/mudwright/Token$Kind"), accessFlags := 16409, slot := 3, constantValue := 0 }, { name := "STRING_END", type := (.object "com/example/mudwright/mudwright/Token$Kind"), accessFlags := 16409, slot := 4, constantValue := 0 }, { name := "SYMBOL", type := (.object "com/example/mudwright/mudwright/Token$Kind"), accessFlags := 16409, slot := 5, constantValue := 0 }, { name := "END", type := (.object "com/example/mudwright/mudwright/Token$Kind"), accessFlags := 16409, slot := 6, constantValue := 0 }, { name := "$VALUES", type := (.array (.object "com/example/mudwright/mudwright/Token$Kind")), accessFlags := 4122, slot := 7, constantValue := 0 }]
  methods := #[]
  instanceTypes := #[(.object "java/lang/String"), .int, .int]
  staticTypes := #[(.object "com/example/mudwright/mudwright/Token$Kind"), (.object "com/example/mudwright/mudwright/Token$Kind"), (.object "com/example/mudwright/mudwright/Token$Kind"), (.object "com/example/mudwright/mudwright/Token$Kind"), (.object "com/example/mudwright/mudwright/Token$Kind"), (.object "com/example/mudwright/mudwright/Token$Kind"), (.object "com/example/mudwright/mudwright/Token$Kind"), (.array (.object "com/example/mudwright/mudwright/Token$Kind"))]
  resolved := Array.replicate 72 none
  statics := some 0 }

def pool7 : Array CpInfo := pool [(2, .class_ 4), (1, u "java/lang/CharSequence"), (42, .class_ 48), (0, u "java/lang/CharSequence$1CodePointIterator"), (10, .class_ 60), (0, u "java/lang/CharSequence$1CharIterator"), (5, .class_ 67), (0, u "java/lang/Object")] 63

/-- java/lang/CharSequence -/
def k7 : Class := { plain "java/lang/CharSequence" (some 0) with
  accessFlags := 1537
  interfaces := #[]
  cf := some (fileOf pool7 2 #[.nestMembers #[47, 59]] #[] 1537 66 #[] #[])
  fields := #[]
  methods := #[]
  instanceTypes := #[]
  staticTypes := #[]
  resolved := Array.replicate 131 none
  statics := none }

def pool8 : Array CpInfo := pool [(1, .class_ 2), (0, u "java/lang/constant/ConstantDesc"), (0, .class_ 4), (0, u "java/lang/Object")] 32

/-- java/lang/constant/ConstantDesc -/
def k8 : Class := { plain "java/lang/constant/ConstantDesc" (some 0) with
  accessFlags := 1537
  interfaces := #[]
  cf := some (fileOf pool8 1 #[] #[] 1537 3 #[] #[])
  fields := #[]
  methods := #[]
  instanceTypes := #[]
  staticTypes := #[]
  resolved := Array.replicate 37 none
  statics := none }

def pool9 : Array CpInfo := pool [(1, .methodref 2 3), (0, .class_ 4), (0, .nameAndType 5 6), (0, u "java/lang/Object"), (0, u "<init>"), (0, u "()V"), (2, .fieldref 10 11), (0, .class_ 12), (0, .nameAndType 13 14), (0, u "java/lang/String"), (0, u "value"), (0, u "[B"), (0, .fieldref 10 16), (0, .nameAndType 17 18), (0, u "coder"), (0, u "B"), (2, u "hash"), (0, u "I"), (2, u "hashIsZero"), (0, u "Z"), (0, .methodref 10 28), (0, .nameAndType 5 29), (0, u "([CIILjava/lang/Void;)V"), (8, .fieldref 10 39), (0, .nameAndType 40 26), (0, u "COMPACT_STRINGS"), (1, .class_ 44), (1, u "java/lang/StringUTF16"), (0, u "compress"), (1, .methodref 42 48), (0, .nameAndType 49 50), (0, u "coderFromArrayLen"), (0, u "([BI)B"), (126, .methodref 42 178), (0, .nameAndType 45 179), (0, u "([CII)[B"), (395, .class_ 576), (0, u "java/lang/CharSequence"), (22, u "CASE_INSENSITIVE_ORDER"), (0, u "Ljava/util/Comparator;"), (409, u "([C)V"), (90, u "serialPersistentFields"), (0, u "[Ljava/io/ObjectStreamField;"), (0, .class_ 1104), (0, u "java/lang/String$CaseInsensitiveComparator"), (1, .class_ 1107), (0, u "java/io/Serializable"), (0, .class_ 1109), (0, u "java/lang/Comparable"), (0, .class_ 1111), (0, u "java/lang/constant/Constable"), (0, .class_ 1113), (0, u "java/lang/constant/ConstantDesc"), (2, u "serialVersionUID"), (0, u "J"), (3, u "REPL"), (0, u "C"), (2, u "LATIN1"), (1, u "UTF16")] 323

def k9m0 : Method := { name := "<init>", desc := "()V", sig := { parameters := [], returnType := none }, accessFlags := 1, code := none }
def k9c1 : Code := { maxStack := 5, maxLocals := 2, code := jdk_42_method_3_code, exceptionTable := #[], attributes := #[] }
def k9m1 : Method := { name := "<init>", desc := "([C)V", sig := { parameters := [(.array .char)], returnType := none }, accessFlags := 1, code := some k9c1 }
def k9c2 : Code := { maxStack := 4, maxLocals := 6, code := jdk_42_method_149_code, exceptionTable := #[], attributes := #[] }
def k9m2 : Method := { name := "<init>", desc := "([CIILjava/lang/Void;)V", sig := { parameters := [(.array .char), .int, .int, (.object "java/lang/Void")], returnType := none }, accessFlags := 2, code := some k9c2 }
/-- java/lang/String -/
def k9 : Class := { plain "java/lang/String" (some 0) with
  accessFlags := 49
  interfaces := #[4, 3, 7, 2, 8]
  cf := some (fileOf pool9 10 #[.nestMembers #[1103]] #[{ accessFlags := 1, nameIndex := 5, descriptorIndex := 6, attributes := #[] }, { accessFlags := 1, nameIndex := 5, descriptorIndex := 1010, attributes := #[] }, { accessFlags := 2, nameIndex := 5, descriptorIndex := 29, attributes := #[] }] 49 2 #[1106, 1108, 575, 1110, 1112] #[{ accessFlags := 18, nameIndex := 13, descriptorIndex := 14, attributes := #[] }, { accessFlags := 18, nameIndex := 17, descriptorIndex := 18, attributes := #[] }, { accessFlags := 2, nameIndex := 21, descriptorIndex := 22, attributes := #[] }, { accessFlags := 2, nameIndex := 25, descriptorIndex := 26, attributes := #[] }, { accessFlags := 26, nameIndex := 1116, descriptorIndex := 1117, attributes := #[] }, { accessFlags := 24, nameIndex := 40, descriptorIndex := 26, attributes := #[] }, { accessFlags := 26, nameIndex := 1101, descriptorIndex := 1102, attributes := #[] }, { accessFlags := 26, nameIndex := 1121, descriptorIndex := 1122, attributes := #[] }, { accessFlags := 25, nameIndex := 599, descriptorIndex := 600, attributes := #[] }, { accessFlags := 24, nameIndex := 1125, descriptorIndex := 18, attributes := #[] }, { accessFlags := 24, nameIndex := 1127, descriptorIndex := 18, attributes := #[] }])
  fields := #[{ name := "value", type := (.array .byte), accessFlags := 18, slot := 0, constantValue := 0 }, { name := "coder", type := .byte, accessFlags := 18, slot := 1, constantValue := 0 }, { name := "hash", type := .int, accessFlags := 2, slot := 2, constantValue := 0 }, { name := "hashIsZero", type := .boolean, accessFlags := 2, slot := 3, constantValue := 0 }, { name := "serialVersionUID", type := .long, accessFlags := 26, slot := 0, constantValue := 0 }, { name := "COMPACT_STRINGS", type := .boolean, accessFlags := 24, slot := 1, constantValue := 0 }, { name := "serialPersistentFields", type := (.array (.object "java/io/ObjectStreamField")), accessFlags := 26, slot := 2, constantValue := 0 }, { name := "REPL", type := .char, accessFlags := 26, slot := 3, constantValue := 0 }, { name := "CASE_INSENSITIVE_ORDER", type := (.object "java/util/Comparator"), accessFlags := 25, slot := 4, constantValue := 0 }, { name := "LATIN1", type := .byte, accessFlags := 24, slot := 5, constantValue := 0 }, { name := "UTF16", type := .byte, accessFlags := 24, slot := 6, constantValue := 0 }]
  methods := #[k9m0, k9m1, k9m2]
  instanceTypes := #[(.array .byte), .byte, .int, .boolean]
  staticTypes := #[.long, .boolean, (.array (.object "java/io/ObjectStreamField")), .char, (.object "java/util/Comparator"), .byte, .byte]
  resolved := Array.replicate 1451 none
  statics := some 1 }

def pool10 : Array CpInfo := pool [(6, .class_ 8), (1, u "java/lang/Object"), (0, u "<init>"), (0, u "()V"), (1, .class_ 14), (1, u "java/lang/StringUTF16"), (31, u "$assertionsDisabled"), (0, u "Z"), (13, u "HI_BYTE_SHIFT"), (0, u "I"), (2, u "LO_BYTE_SHIFT"), (49, .methodref 12 116), (0, .nameAndType 117 118), (0, u "compress"), (0, u "([CI[BII)I"), (3, u "([CII)[B"), (138, u "coderFromArrayLen"), (0, u "([BI)B"), (106, .class_ 371), (1, u "java/lang/StringUTF16$LinesSpliterator"), (58, u "MAX_LENGTH"), (196, .class_ 628), (0, u "java/lang/StringUTF16$CodePointsSpliterator"), (0, .class_ 630), (0, u "java/lang/StringUTF16$CharsSpliterator")] 4

def k10m0 : Method := { name := "<init>", desc := "()V", sig := { parameters := [], returnType := none }, accessFlags := 0, code := none }
def k10c1 : Code := { maxStack := 2, maxLocals := 2, code := jdk_52_method_15_code, exceptionTable := #[], attributes := #[] }
def k10m1 : Method := { name := "coderFromArrayLen", desc := "([BI)B", sig := { parameters := [(.array .byte), .int], returnType := some .byte }, accessFlags := 8, code := some k10c1 }
def k10c2 : Code := { maxStack := 5, maxLocals := 6, code := jdk_52_method_16_code, exceptionTable := #[], attributes := #[] }
def k10m2 : Method := { name := "compress", desc := "([CII)[B", sig := { parameters := [(.array .char), .int, .int], returnType := some (.array .byte) }, accessFlags := 9, code := some k10c2 }
def k10c3 : Code := { maxStack := 3, maxLocals := 7, code := jdk_52_method_21_code, exceptionTable := #[], attributes := #[] }
def k10m3 : Method := { name := "compress", desc := "([CI[BII)I", sig := { parameters := [(.array .char), .int, (.array .byte), .int, .int], returnType := some .int }, accessFlags := 9, code := some k10c3 }
/-- java/lang/StringUTF16 -/
def k10 : Class := { plain "java/lang/StringUTF16" (some 0) with
  accessFlags := 48
  interfaces := #[]
  cf := some (fileOf pool10 12 #[.nestMembers #[627, 629, 369]] #[{ accessFlags := 0, nameIndex := 9, descriptorIndex := 10, attributes := #[] }, { accessFlags := 8, nameIndex := 261, descriptorIndex := 262, attributes := #[] }, { accessFlags := 9, nameIndex := 117, descriptorIndex := 122, attributes := #[] }, { accessFlags := 9, nameIndex := 117, descriptorIndex := 118, attributes := #[] }] 48 6 #[] #[{ accessFlags := 26, nameIndex := 61, descriptorIndex := 62, attributes := #[] }, { accessFlags := 26, nameIndex := 65, descriptorIndex := 62, attributes := #[] }, { accessFlags := 24, nameIndex := 430, descriptorIndex := 62, attributes := #[] }, { accessFlags := 4120, nameIndex := 46, descriptorIndex := 47, attributes := #[] }])
  fields := #[{ name := "HI_BYTE_SHIFT", type := .int, accessFlags := 26, slot := 0, constantValue := 0 }, { name := "LO_BYTE_SHIFT", type := .int, accessFlags := 26, slot := 1, constantValue := 0 }, { name := "MAX_LENGTH", type := .int, accessFlags := 24, slot := 2, constantValue := 0 }, { name := "$assertionsDisabled", type := .boolean, accessFlags := 4120, slot := 3, constantValue := 0 }]
  methods := #[k10m0, k10m1, k10m2, k10m3]
  instanceTypes := #[]
  staticTypes := #[.int, .int, .int, .boolean]
  resolved := Array.replicate 635 none
  statics := none }

def pool11 : Array CpInfo := pool [(1, .methodref 2 3), (0, .class_ 4), (0, .nameAndType 5 6), (0, u "java/lang/Object"), (0, u "<init>"), (0, u "()V"), (0, .class_ 8), (0, u "java/lang/Record")] 13

def k11c0 : Code := { maxStack := 1, maxLocals := 1, code := jdk_30_method_1_code, exceptionTable := #[], attributes := #[] }
def k11m0 : Method := { name := "<init>", desc := "()V", sig := { parameters := [], returnType := none }, accessFlags := 4, code := some k11c0 }
/-- java/lang/Record -/
def k11 : Class := { plain "java/lang/Record" (some 0) with
  accessFlags := 1057
  interfaces := #[]
  cf := some (fileOf pool11 7 #[] #[{ accessFlags := 4, nameIndex := 5, descriptorIndex := 6, attributes := #[] }] 1057 2 #[] #[])
  fields := #[]
  methods := #[k11m0]
  instanceTypes := #[]
  staticTypes := #[]
  resolved := Array.replicate 22 none
  statics := none }

def pool12 : Array CpInfo := pool [(1, .methodref 2 3), (0, .class_ 4), (0, .nameAndType 5 6), (0, u "java/lang/Record"), (0, u "<init>"), (0, u "()V"), (0, .fieldref 8 9), (0, .class_ 10), (0, .nameAndType 11 12), (0, u "com/example/mudwright/mudwright/Token"), (0, u "kind"), (0, u "Lcom/example/mudwright/mudwright/Token$Kind;"), (0, .fieldref 8 14), (0, .nameAndType 15 16), (0, u "text"), (0, u "Ljava/lang/String;"), (0, .fieldref 8 18), (0, .nameAndType 19 16), (0, u "file"), (0, .fieldref 8 21), (0, .nameAndType 22 23), (0, u "line"), (0, u "I"), (0, .fieldref 8 25), (0, .nameAndType 26 23), (0, u "column"), (0, .fieldref 8 28), (0, .nameAndType 29 23), (0, u "endColumn"), (0, .fieldref 8 31), (0, .nameAndType 32 23), (0, u "textColumn"), (2, u "(Lcom/example/mudwright/mudwright/Token$Kind;Ljava/lang/String;Ljava/lang/String;IIII)V"), (1, .class_ 39), (1, u "com/example/mudwright/mudwright/Token$Kind"), (14, .fieldref 37 55), (0, .nameAndType 56 12), (0, u "STRING"), (0, .fieldref 37 58), (0, .nameAndType 59 12), (0, u "STRING_START"), (0, .fieldref 37 61), (0, .nameAndType 62 12), (0, u "STRING_MIDDLE"), (0, .fieldref 37 64), (0, .nameAndType 65 12), (0, u "STRING_END"), (39, u "isString"), (0, u "()Z"), (0, u "isAfterValue")] 40

def k12c0 : Code := { maxStack := 2, maxLocals := 8, code := prog_24_method_2_code, exceptionTable := #[], attributes := #[] }
def k12m0 : Method := { name := "<init>", desc := "(Lcom/example/mudwright/mudwright/Token$Kind;Ljava/lang/String;Ljava/lang/String;IIII)V", sig := { parameters := [(.object "com/example/mudwright/mudwright/Token$Kind"), (.object "java/lang/String"), (.object "java/lang/String"), .int, .int, .int, .int], returnType := none }, accessFlags := 0, code := some k12c0 }
def k12c1 : Code := { maxStack := 2, maxLocals := 1, code := prog_24_method_6_code, exceptionTable := #[], attributes := #[] }
def k12m1 : Method := { name := "isString", desc := "()Z", sig := { parameters := [], returnType := some .boolean }, accessFlags := 0, code := some k12c1 }
def k12c2 : Code := { maxStack := 2, maxLocals := 1, code := prog_24_method_7_code, exceptionTable := #[], attributes := #[] }
def k12m2 : Method := { name := "isAfterValue", desc := "()Z", sig := { parameters := [], returnType := some .boolean }, accessFlags := 0, code := some k12c2 }
/-- com/example/mudwright/mudwright/Token -/
def k12 : Class := { plain "com/example/mudwright/mudwright/Token" (some 11) with
  accessFlags := 48
  interfaces := #[]
  cf := some (fileOf pool12 8 #[.nestMembers #[37]] #[{ accessFlags := 0, nameIndex := 5, descriptorIndex := 35, attributes := #[] }, { accessFlags := 0, nameIndex := 105, descriptorIndex := 106, attributes := #[] }, { accessFlags := 0, nameIndex := 107, descriptorIndex := 106, attributes := #[] }] 48 2 #[] #[{ accessFlags := 18, nameIndex := 11, descriptorIndex := 12, attributes := #[] }, { accessFlags := 18, nameIndex := 15, descriptorIndex := 16, attributes := #[] }, { accessFlags := 18, nameIndex := 19, descriptorIndex := 16, attributes := #[] }, { accessFlags := 18, nameIndex := 22, descriptorIndex := 23, attributes := #[] }, { accessFlags := 18, nameIndex := 26, descriptorIndex := 23, attributes := #[] }, { accessFlags := 18, nameIndex := 29, descriptorIndex := 23, attributes := #[] }, { accessFlags := 18, nameIndex := 32, descriptorIndex := 23, attributes := #[] }])
  fields := #[{ name := "kind", type := (.object "com/example/mudwright/mudwright/Token$Kind"), accessFlags := 18, slot := 0, constantValue := 0 }, { name := "text", type := (.object "java/lang/String"), accessFlags := 18, slot := 1, constantValue := 0 }, { name := "file", type := (.object "java/lang/String"), accessFlags := 18, slot := 2, constantValue := 0 }, { name := "line", type := .int, accessFlags := 18, slot := 3, constantValue := 0 }, { name := "column", type := .int, accessFlags := 18, slot := 4, constantValue := 0 }, { name := "endColumn", type := .int, accessFlags := 18, slot := 5, constantValue := 0 }, { name := "textColumn", type := .int, accessFlags := 18, slot := 6, constantValue := 0 }]
  methods := #[k12m0, k12m1, k12m2]
  instanceTypes := #[(.object "com/example/mudwright/mudwright/Token$Kind"), (.object "java/lang/String"), (.object "java/lang/String"), .int, .int, .int, .int]
  staticTypes := #[]
  resolved := Array.replicate 148 none
  statics := none }

def pool13 : Array CpInfo := pool [(4, .class_ 6), (1, u "java/lang/Object"), (0, u "<init>"), (0, u "()V"), (5, .class_ 16), (1, u "java/lang/StringLatin1"), (104, u "$assertionsDisabled"), (0, u "Z"), (98, .class_ 223), (1, u "java/lang/StringLatin1$LinesSpliterator"), (166, .class_ 391), (0, u "java/lang/StringLatin1$CharsSpliterator")] 3

def k13m0 : Method := { name := "<init>", desc := "()V", sig := { parameters := [], returnType := none }, accessFlags := 0, code := none }
/-- java/lang/StringLatin1 -/
def k13 : Class := { plain "java/lang/StringLatin1" (some 0) with
  accessFlags := 48
  interfaces := #[]
  cf := some (fileOf pool13 14 #[.nestMembers #[390, 221]] #[{ accessFlags := 0, nameIndex := 7, descriptorIndex := 8, attributes := #[] }] 48 4 #[] #[{ accessFlags := 4120, nameIndex := 121, descriptorIndex := 122, attributes := #[] }])
  fields := #[{ name := "$assertionsDisabled", type := .boolean, accessFlags := 4120, slot := 0, constantValue := 0 }]
  methods := #[k13m0]
  instanceTypes := #[]
  staticTypes := #[.boolean]
  resolved := Array.replicate 395 none
  statics := none }

def pool14 : Array CpInfo := pool [(2, .class_ 4), (1, u "java/lang/Object"), (0, u "<init>"), (0, u "()V"), (17, .class_ 26), (1, u "jdk/internal/util/Preconditions"), (28, .class_ 56), (0, u "jdk/internal/util/Preconditions$4"), (57, .class_ 115), (0, u "jdk/internal/util/Preconditions$1"), (7, u "SIOOBE_FORMATTER"), (0, u "Ljava/util/function/BiFunction;"), (0, .class_ 126), (0, u "jdk/internal/util/Preconditions$2"), (3, u "AIOOBE_FORMATTER"), (0, .class_ 132), (0, u "jdk/internal/util/Preconditions$3"), (3, u "IOOBE_FORMATTER")] 57

def k14m0 : Method := { name := "<init>", desc := "()V", sig := { parameters := [], returnType := none }, accessFlags := 1, code := none }
/-- jdk/internal/util/Preconditions -/
def k14 : Class := { plain "jdk/internal/util/Preconditions" (some 0) with
  accessFlags := 33
  interfaces := #[]
  cf := some (fileOf pool14 24 #[.nestMembers #[55, 131, 125, 114]] #[{ accessFlags := 1, nameIndex := 5, descriptorIndex := 6, attributes := #[] }] 33 2 #[] #[{ accessFlags := 25, nameIndex := 123, descriptorIndex := 124, attributes := #[] }, { accessFlags := 25, nameIndex := 130, descriptorIndex := 124, attributes := #[] }, { accessFlags := 25, nameIndex := 136, descriptorIndex := 124, attributes := #[] }])
  fields := #[{ name := "SIOOBE_FORMATTER", type := (.object "java/util/function/BiFunction"), accessFlags := 25, slot := 0, constantValue := 0 }, { name := "AIOOBE_FORMATTER", type := (.object "java/util/function/BiFunction"), accessFlags := 25, slot := 1, constantValue := 0 }, { name := "IOOBE_FORMATTER", type := (.object "java/util/function/BiFunction"), accessFlags := 25, slot := 2, constantValue := 0 }]
  methods := #[k14m0]
  instanceTypes := #[]
  staticTypes := #[(.object "java/util/function/BiFunction"), (.object "java/util/function/BiFunction"), (.object "java/util/function/BiFunction")]
  resolved := Array.replicate 194 none
  statics := some 2 }

def pool15 : Array CpInfo := pool [(9, u "<init>"), (6, .class_ 18), (1, u "java/lang/Object"), (0, u "()V"), (1, .class_ 23), (1, u "jdk/internal/util/ArraysSupport"), (0, u "LOG2_ARRAY_LONG_INDEX_SCALE"), (0, u "I"), (2, u "U"), (0, u "Ljdk/internal/misc/Unsafe;"), (8, u "BIG_ENDIAN"), (0, u "Z"), (8, u "LOG2_BYTE_BIT_SIZE"), (4, u "LOG2_ARRAY_INT_INDEX_SCALE"), (54, u "JLA"), (0, u "Ljdk/internal/access/JavaLangAccess;"), (11, u "LOG2_ARRAY_BOOLEAN_INDEX_SCALE"), (9, u "LOG2_ARRAY_BYTE_INDEX_SCALE"), (5, u "LOG2_ARRAY_CHAR_INDEX_SCALE"), (5, u "LOG2_ARRAY_SHORT_INDEX_SCALE"), (18, u "LOG2_ARRAY_FLOAT_INDEX_SCALE"), (24, u "LOG2_ARRAY_DOUBLE_INDEX_SCALE"), (89, u "T_BOOLEAN"), (2, u "T_CHAR"), (1, u "T_FLOAT"), (1, u "T_DOUBLE"), (1, u "T_BYTE"), (1, u "T_SHORT"), (1, u "T_INT"), (1, u "T_LONG"), (1, u "SOFT_MAX_ARRAY_LENGTH")] 83

def k15m0 : Method := { name := "<init>", desc := "()V", sig := { parameters := [], returnType := none }, accessFlags := 2, code := none }
/-- jdk/internal/util/ArraysSupport -/
def k15 : Class := { plain "jdk/internal/util/ArraysSupport" (some 0) with
  accessFlags := 33
  interfaces := #[]
  cf := some (fileOf pool15 21 #[] #[{ accessFlags := 2, nameIndex := 9, descriptorIndex := 19, attributes := #[] }] 33 16 #[] #[{ accessFlags := 24, nameIndex := 28, descriptorIndex := 29, attributes := #[] }, { accessFlags := 26, nameIndex := 38, descriptorIndex := 39, attributes := #[] }, { accessFlags := 25, nameIndex := 121, descriptorIndex := 25, attributes := #[] }, { accessFlags := 25, nameIndex := 131, descriptorIndex := 25, attributes := #[] }, { accessFlags := 25, nameIndex := 137, descriptorIndex := 25, attributes := #[] }, { accessFlags := 25, nameIndex := 143, descriptorIndex := 25, attributes := #[] }, { accessFlags := 25, nameIndex := 53, descriptorIndex := 25, attributes := #[] }, { accessFlags := 25, nameIndex := 24, descriptorIndex := 25, attributes := #[] }, { accessFlags := 25, nameIndex := 162, descriptorIndex := 25, attributes := #[] }, { accessFlags := 25, nameIndex := 187, descriptorIndex := 25, attributes := #[] }, { accessFlags := 26, nameIndex := 48, descriptorIndex := 25, attributes := #[] }, { accessFlags := 25, nameIndex := 277, descriptorIndex := 25, attributes := #[] }, { accessFlags := 25, nameIndex := 280, descriptorIndex := 25, attributes := #[] }, { accessFlags := 25, nameIndex := 282, descriptorIndex := 25, attributes := #[] }, { accessFlags := 25, nameIndex := 284, descriptorIndex := 25, attributes := #[] }, { accessFlags := 25, nameIndex := 286, descriptorIndex := 25, attributes := #[] }, { accessFlags := 25, nameIndex := 288, descriptorIndex := 25, attributes := #[] }, { accessFlags := 25, nameIndex := 290, descriptorIndex := 25, attributes := #[] }, { accessFlags := 25, nameIndex := 292, descriptorIndex := 25, attributes := #[] }, { accessFlags := 26, nameIndex := 108, descriptorIndex := 109, attributes := #[] }, { accessFlags := 25, nameIndex := 294, descriptorIndex := 25, attributes := #[] }])
  fields := #[{ name := "U", type := (.object "jdk/internal/misc/Unsafe"), accessFlags := 24, slot := 0, constantValue := 0 }, { name := "BIG_ENDIAN", type := .boolean, accessFlags := 26, slot := 1, constantValue := 0 }, { name := "LOG2_ARRAY_BOOLEAN_INDEX_SCALE", type := .int, accessFlags := 25, slot := 2, constantValue := 0 }, { name := "LOG2_ARRAY_BYTE_INDEX_SCALE", type := .int, accessFlags := 25, slot := 3, constantValue := 0 }, { name := "LOG2_ARRAY_CHAR_INDEX_SCALE", type := .int, accessFlags := 25, slot := 4, constantValue := 0 }, { name := "LOG2_ARRAY_SHORT_INDEX_SCALE", type := .int, accessFlags := 25, slot := 5, constantValue := 0 }, { name := "LOG2_ARRAY_INT_INDEX_SCALE", type := .int, accessFlags := 25, slot := 6, constantValue := 0 }, { name := "LOG2_ARRAY_LONG_INDEX_SCALE", type := .int, accessFlags := 25, slot := 7, constantValue := 0 }, { name := "LOG2_ARRAY_FLOAT_INDEX_SCALE", type := .int, accessFlags := 25, slot := 8, constantValue := 0 }, { name := "LOG2_ARRAY_DOUBLE_INDEX_SCALE", type := .int, accessFlags := 25, slot := 9, constantValue := 0 }, { name := "LOG2_BYTE_BIT_SIZE", type := .int, accessFlags := 26, slot := 10, constantValue := 0 }, { name := "T_BOOLEAN", type := .int, accessFlags := 25, slot := 11, constantValue := 0 }, { name := "T_CHAR", type := .int, accessFlags := 25, slot := 12, constantValue := 0 }, { name := "T_FLOAT", type := .int, accessFlags := 25, slot := 13, constantValue := 0 }, { name := "T_DOUBLE", type := .int, accessFlags := 25, slot := 14, constantValue := 0 }, { name := "T_BYTE", type := .int, accessFlags := 25, slot := 15, constantValue := 0 }, { name := "T_SHORT", type := .int, accessFlags := 25, slot := 16, constantValue := 0 }, { name := "T_INT", type := .int, accessFlags := 25, slot := 17, constantValue := 0 }, { name := "T_LONG", type := .int, accessFlags := 25, slot := 18, constantValue := 0 }, { name := "JLA", type := (.object "jdk/internal/access/JavaLangAccess"), accessFlags := 26, slot := 19, constantValue := 0 }, { name := "SOFT_MAX_ARRAY_LENGTH", type := .int, accessFlags := 25, slot := 20, constantValue := 0 }]
  methods := #[k15m0]
  instanceTypes := #[]
  staticTypes := #[(.object "jdk/internal/misc/Unsafe"), .boolean, .int, .int, .int, .int, .int, .int, .int, .int, .int, .int, .int, .int, .int, .int, .int, .int, .int, (.object "jdk/internal/access/JavaLangAccess"), .int]
  resolved := Array.replicate 378 none
  statics := none }

def pool16 : Array CpInfo := pool [(1, u "java/lang/Cloneable"), (0, .class_ 1), (0, u "java/lang/Object"), (0, .class_ 3)] 3

/-- java/lang/Cloneable -/
def k16 : Class := { plain "java/lang/Cloneable" (some 0) with
  accessFlags := 1537
  interfaces := #[]
  cf := some (fileOf pool16 2 #[] #[] 1537 4 #[] #[])
  fields := #[]
  methods := #[]
  instanceTypes := #[]
  staticTypes := #[]
  resolved := Array.replicate 8 none
  statics := none }

/-- the primitive byte -/
def k17 : Class := { plain "byte" none with kind := .primitive 'B', accessFlags := 0x411 }
/-- [B -/
def k18 : Class := { plain "[B" (some 0) with kind := .array 17 .byte, interfaces := #[16, 4], accessFlags := 1041 }

/-- the primitive char -/
def k19 : Class := { plain "char" none with kind := .primitive 'C', accessFlags := 0x411 }
/-- [C -/
def k20 : Class := { plain "[C" (some 0) with kind := .array 19 .char, interfaces := #[16, 4], accessFlags := 1041 }

/-- the primitive int -/
def k21 : Class := { plain "int" none with kind := .primitive 'I', accessFlags := 0x411 }
/-- [I -/
def k22 : Class := { plain "[I" (some 0) with kind := .array 21 .int, interfaces := #[16, 4], accessFlags := 1041 }

def heap : Heap := #[{ cls := 6, slots := #[.ref 3, .ref 4, .ref 5, .ref 6, .ref 7, .ref 8, .ref 9, .null], vm := .statics 6 },
  { cls := 9, slots := #[.long 0, .int 1, .null, .int 0, .null, .int 0, .int 0], vm := .statics 9 },
  { cls := 14, slots := #[.null, .null, .null], vm := .statics 14 },
  { cls := 6, slots := #[.null, .int 0, .int 0], vm := .none },
  { cls := 6, slots := #[.null, .int 1, .int 0], vm := .none },
  { cls := 6, slots := #[.null, .int 2, .int 0], vm := .none },
  { cls := 6, slots := #[.null, .int 3, .int 0], vm := .none },
  { cls := 6, slots := #[.null, .int 4, .int 0], vm := .none },
  { cls := 6, slots := #[.null, .int 5, .int 0], vm := .none },
  { cls := 6, slots := #[.null, .int 6, .int 0], vm := .none }]
def classes : Array Class := #[k0, k1, k2, k3, k4, k5, k6, k7, k8, k9, k10, k11, k12, k13, k14, k15, k16, k17, k18, k19, k20, k21, k22]
def interned : List (Array UInt16 × Addr) := []
def slotsUsed : Nat := 39
def theMethod : MethodId := ⟨1, 2⟩
def args0 : Array Value := #[.int 5, .int 6, .int 7, .int 8, .int 9, .int 10]
def aboutOver (below : List Frame) : State where
  vm := { classes := classes, interned := interned.toArray }
  heap := heap
  slotsUsed := slotsUsed
  threads := #[{ frames := .invoking theMethod args0 :: below }]
def below0 : List Frame := [.native { method := ⟨0, 0⟩, args := #[] }]
def about1 : State := aboutOver below0
def p0 : Program := .bare "" "" ""
def e0 : Env := launch0.env 0 0 0
theorem w_frames : about1.frames = Frame.invoking theMethod args0 :: below0 := rfl
set_option maxRecDepth 65536 in
theorem w_args : argsFit about1.vm theMethod args0 = true := by decide +kernel
set_option maxRecDepth 65536 in
theorem w_heap : heapFits about1 = true := by decide +kernel
set_option maxRecDepth 65536 in
theorem w_runnable : about1.curStatus? = some .runnable := by decide +kernel
set_option maxRecDepth 65536 in
theorem w_alone : about1.alone = true := by decide +kernel
set_option maxRecDepth 65536 in
theorem w_named : about1.methodNamed? x = some theMethod := by decide +kernel
set_option maxRecDepth 65536 in
theorem w_hears : about1.hears theMethod below0 = true := by decide +kernel
set_option maxRecDepth 65536 in
theorem w_ripe : about1.ripe theMethod args0 below0 = true := by decide +kernel
theorem w_running : about1.status = .running := rfl
set_option maxRecDepth 65536 in
theorem w_room : about1.hasRoom e0.platform room_1 = true :=
  launch0.hasRoom_least _ room_1 (by decide +kernel) (by decide +kernel) (by decide +kernel) (by decide +kernel) (by decide +kernel) (by decide +kernel)
theorem allAtoms_all (ts : List Jvm.Cond) (a : Array Jvm.Value) (st : Jvm.State) : (allAtoms ts).before a st = ts.all (fun c => c.before a st) := by
  induction ts with
  | nil => rfl
  | cons c t ih =>
    show (Jvm.Cond.and c (allAtoms t)).before a st = _
    rw [Jvm.Cond.before_and, ih, List.all_cons]
def words1 : List Jvm.Cond := Jvm.Cond.code x code maxLocals ret :: tables_1
/-- a 'code' word, met by the world's own term for the bytes: nothing is compared byte by byte -/
theorem code_word {y : MethodName} {bytes : ByteArray} {mx : Nat} {rt : Option FieldType} {a : Array Value} {s : State} {m : MethodId} {meth : Method} {c : Code} (h1 : s.methodNamed? y = some m) (h2 : s.vm.method? m = some meth) (h3 : meth.code = some c) (h4 : c.code = bytes)
    (h5 : (c.maxLocals == mx && c.exceptionTable.isEmpty && decide (c.maxStack ≤ mostOperands) && decide (meth.sig.returnType = rt) && !meth.locks && decide (parseMethodDescriptor y.desc = some meth.sig)) = true) : (Jvm.Cond.code y bytes mx rt).before a s = true := by
  simp only [Bool.and_eq_true, beq_iff_eq, Bool.not_eq_true', decide_eq_true_eq] at h5
  obtain ⟨⟨⟨⟨⟨g1, g2⟩, g3⟩, g4⟩, g5⟩, g6⟩ := h5
  simp [Cond.before, Cond.holds, Cond.value, h1, h2, h3, h4, g1, g2, g3, g4, g5, g6]
def isCode : Jvm.Cond → Bool
  | .code _ _ _ _ => true
  | _ => false
theorem all_split {L : List Jvm.Cond} {P : Jvm.Cond → Bool} (h1 : L.all (fun c => isCode c || P c) = true) (h2 : ∀ c ∈ L.filter isCode, P c = true) : L.all P = true := by
  refine List.all_eq_true.mpr fun c hc => ?_
  have h := List.all_eq_true.mp h1 c hc
  rcases Bool.eq_false_or_eq_true (isCode c) with hi | hi
  · exact h2 c (List.mem_filter.mpr ⟨hc, hi⟩)
  · simpa [hi] using h
set_option maxRecDepth 65536 in
theorem w_c0 : (Jvm.Cond.code x code maxLocals ret).before args0 about1 = true := code_word (m := ⟨1, 2⟩) (meth := k1m2) (c := k1c2) (by decide +kernel) rfl rfl rfl (by decide +kernel)
set_option maxRecDepth 65536 in
theorem w_c1 : (Jvm.Cond.code ({ cls := "com/example/mudwright/mudwright/TokenIsAfterValuePinLaw", name := "kindOf", desc := "(I)Lcom/example/mudwright/mudwright/Token$Kind;" } : Jvm.MethodName) method_2_code (1 : Nat) (Option.some (Jvm.ClassFile.FieldType.object "com/example/mudwright/mudwright/Token$Kind"))).before args0 about1 = true := code_word (m := ⟨1, 1⟩) (meth := k1m1) (c := k1c1) (by decide +kernel) rfl rfl rfl (by decide +kernel)
set_option maxRecDepth 65536 in
theorem w_c2 : (Jvm.Cond.code ({ cls := "java/lang/String", name := "<init>", desc := "([C)V" } : Jvm.MethodName) jdk_42_method_3_code (2 : Nat) (Option.none : Option Jvm.ClassFile.FieldType)).before args0 about1 = true := code_word (m := ⟨9, 1⟩) (meth := k9m1) (c := k9c1) (by decide +kernel) rfl rfl rfl (by decide +kernel)
set_option maxRecDepth 65536 in
theorem w_c3 : (Jvm.Cond.code ({ cls := "java/lang/String", name := "<init>", desc := "([CIILjava/lang/Void;)V" } : Jvm.MethodName) jdk_42_method_149_code (6 : Nat) (Option.none : Option Jvm.ClassFile.FieldType)).before args0 about1 = true := code_word (m := ⟨9, 2⟩) (meth := k9m2) (c := k9c2) (by decide +kernel) rfl rfl rfl (by decide +kernel)
set_option maxRecDepth 65536 in
theorem w_c4 : (Jvm.Cond.code ({ cls := "java/lang/Object", name := "<init>", desc := "()V" } : Jvm.MethodName) object_method_1_code (1 : Nat) (Option.none : Option Jvm.ClassFile.FieldType)).before args0 about1 = true := code_word (m := ⟨0, 0⟩) (meth := k0m0) (c := k0c0) (by decide +kernel) rfl rfl rfl (by decide +kernel)
set_option maxRecDepth 65536 in
theorem w_c5 : (Jvm.Cond.code ({ cls := "java/lang/StringUTF16", name := "compress", desc := "([CII)[B" } : Jvm.MethodName) jdk_52_method_16_code (6 : Nat) (Option.some (Jvm.ClassFile.FieldType.array Jvm.ClassFile.FieldType.byte))).before args0 about1 = true := code_word (m := ⟨10, 2⟩) (meth := k10m2) (c := k10c2) (by decide +kernel) rfl rfl rfl (by decide +kernel)
set_option maxRecDepth 65536 in
theorem w_c6 : (Jvm.Cond.code ({ cls := "java/lang/StringUTF16", name := "compress", desc := "([CI[BII)I" } : Jvm.MethodName) jdk_52_method_21_code (7 : Nat) (Option.some Jvm.ClassFile.FieldType.int)).before args0 about1 = true := code_word (m := ⟨10, 3⟩) (meth := k10m3) (c := k10c3) (by decide +kernel) rfl rfl rfl (by decide +kernel)
set_option maxRecDepth 65536 in
theorem w_c7 : (Jvm.Cond.code ({ cls := "java/lang/StringUTF16", name := "coderFromArrayLen", desc := "([BI)B" } : Jvm.MethodName) jdk_52_method_15_code (2 : Nat) (Option.some Jvm.ClassFile.FieldType.byte)).before args0 about1 = true := code_word (m := ⟨10, 1⟩) (meth := k10m1) (c := k10c1) (by decide +kernel) rfl rfl rfl (by decide +kernel)
set_option maxRecDepth 65536 in
theorem w_c8 : (Jvm.Cond.code ({ cls := "com/example/mudwright/mudwright/Token", name := "<init>", desc := "(Lcom/example/mudwright/mudwright/Token$Kind;Ljava/lang/String;Ljava/lang/String;IIII)V" } : Jvm.MethodName) prog_24_method_2_code (8 : Nat) (Option.none : Option Jvm.ClassFile.FieldType)).before args0 about1 = true := code_word (m := ⟨12, 0⟩) (meth := k12m0) (c := k12c0) (by decide +kernel) rfl rfl rfl (by decide +kernel)
set_option maxRecDepth 65536 in
theorem w_c9 : (Jvm.Cond.code ({ cls := "java/lang/Record", name := "<init>", desc := "()V" } : Jvm.MethodName) jdk_30_method_1_code (1 : Nat) (Option.none : Option Jvm.ClassFile.FieldType)).before args0 about1 = true := code_word (m := ⟨11, 0⟩) (meth := k11m0) (c := k11c0) (by decide +kernel) rfl rfl rfl (by decide +kernel)
set_option maxRecDepth 65536 in
theorem w_c10 : (Jvm.Cond.code ({ cls := "com/example/mudwright/mudwright/Token", name := "isAfterValue", desc := "()Z" } : Jvm.MethodName) prog_24_method_7_code (1 : Nat) (Option.some Jvm.ClassFile.FieldType.boolean)).before args0 about1 = true := code_word (m := ⟨12, 2⟩) (meth := k12m2) (c := k12c2) (by decide +kernel) rfl rfl rfl (by decide +kernel)
set_option maxRecDepth 65536 in
theorem w_c11 : (Jvm.Cond.code ({ cls := "com/example/mudwright/mudwright/Token", name := "isString", desc := "()Z" } : Jvm.MethodName) prog_24_method_6_code (1 : Nat) (Option.some Jvm.ClassFile.FieldType.boolean)).before args0 about1 = true := code_word (m := ⟨12, 1⟩) (meth := k12m1) (c := k12c1) (by decide +kernel) rfl rfl rfl (by decide +kernel)
def codes1 : List Jvm.Cond := [Jvm.Cond.code x code maxLocals ret, Jvm.Cond.code ({ cls := "com/example/mudwright/mudwright/TokenIsAfterValuePinLaw", name := "kindOf", desc := "(I)Lcom/example/mudwright/mudwright/Token$Kind;" } : Jvm.MethodName) method_2_code (1 : Nat) (Option.some (Jvm.ClassFile.FieldType.object "com/example/mudwright/mudwright/Token$Kind")), Jvm.Cond.code ({ cls := "java/lang/String", name := "<init>", desc := "([C)V" } : Jvm.MethodName) jdk_42_method_3_code (2 : Nat) (Option.none : Option Jvm.ClassFile.FieldType), Jvm.Cond.code ({ cls := "java/lang/String", name := "<init>", desc := "([CIILjava/lang/Void;)V" } : Jvm.MethodName) jdk_42_method_149_code (6 : Nat) (Option.none : Option Jvm.ClassFile.FieldType), Jvm.Cond.code ({ cls := "java/lang/Object", name := "<init>", desc := "()V" } : Jvm.MethodName) object_method_1_code (1 : Nat) (Option.none : Option Jvm.ClassFile.FieldType), Jvm.Cond.code ({ cls := "java/lang/StringUTF16", name := "compress", desc := "([CII)[B" } : Jvm.MethodName) jdk_52_method_16_code (6 : Nat) (Option.some (Jvm.ClassFile.FieldType.array Jvm.ClassFile.FieldType.byte)), Jvm.Cond.code ({ cls := "java/lang/StringUTF16", name := "compress", desc := "([CI[BII)I" } : Jvm.MethodName) jdk_52_method_21_code (7 : Nat) (Option.some Jvm.ClassFile.FieldType.int), Jvm.Cond.code ({ cls := "java/lang/StringUTF16", name := "coderFromArrayLen", desc := "([BI)B" } : Jvm.MethodName) jdk_52_method_15_code (2 : Nat) (Option.some Jvm.ClassFile.FieldType.byte), Jvm.Cond.code ({ cls := "com/example/mudwright/mudwright/Token", name := "<init>", desc := "(Lcom/example/mudwright/mudwright/Token$Kind;Ljava/lang/String;Ljava/lang/String;IIII)V" } : Jvm.MethodName) prog_24_method_2_code (8 : Nat) (Option.none : Option Jvm.ClassFile.FieldType), Jvm.Cond.code ({ cls := "java/lang/Record", name := "<init>", desc := "()V" } : Jvm.MethodName) jdk_30_method_1_code (1 : Nat) (Option.none : Option Jvm.ClassFile.FieldType), Jvm.Cond.code ({ cls := "com/example/mudwright/mudwright/Token", name := "isAfterValue", desc := "()Z" } : Jvm.MethodName) prog_24_method_7_code (1 : Nat) (Option.some Jvm.ClassFile.FieldType.boolean), Jvm.Cond.code ({ cls := "com/example/mudwright/mudwright/Token", name := "isString", desc := "()Z" } : Jvm.MethodName) prog_24_method_6_code (1 : Nat) (Option.some Jvm.ClassFile.FieldType.boolean)]
set_option maxRecDepth 65536 in
theorem codes_eq : words1.filter isCode = codes1 := rfl
theorem w_codes : ∀ c ∈ words1.filter isCode, c.before args0 about1 = true := by
  rw [codes_eq]
  intro c hc
  simp only [codes1, List.mem_cons, List.not_mem_nil, or_false] at hc
  rcases hc with rfl | rfl | rfl | rfl | rfl | rfl | rfl | rfl | rfl | rfl | rfl | rfl
  · exact w_c0
  · exact w_c1
  · exact w_c2
  · exact w_c3
  · exact w_c4
  · exact w_c5
  · exact w_c6
  · exact w_c7
  · exact w_c8
  · exact w_c9
  · exact w_c10
  · exact w_c11
set_option maxRecDepth 65536 in
theorem w_t1 : (words1.take 24).all (fun c => isCode c || c.before args0 about1) = true := by decide +kernel
set_option maxRecDepth 65536 in
theorem w_t2 : ((words1.drop 24).take 24).all (fun c => isCode c || c.before args0 about1) = true := by decide +kernel
set_option maxRecDepth 65536 in
theorem w_t3 : (((words1.drop 24).drop 24).take 24).all (fun c => isCode c || c.before args0 about1) = true := by decide +kernel
set_option maxRecDepth 65536 in
theorem w_t4 : (((words1.drop 24).drop 24).drop 24).all (fun c => isCode c || c.before args0 about1) = true := by decide +kernel
theorem w_tables : (allAtoms (Jvm.Cond.code x code maxLocals ret :: tables_1)).before args0 about1 = true := by
  rw [allAtoms_all]
  show words1.all (fun c => c.before args0 about1) = true
  refine all_split ?_ w_codes
  rw [← List.take_append_drop 24 words1, List.all_append, w_t1, ← List.take_append_drop 24 (words1.drop 24), List.all_append, w_t2, ← List.take_append_drop 24 ((words1.drop 24).drop 24), List.all_append, w_t3, w_t4]
  rfl
set_option maxRecDepth 65536 in
theorem w_rest : rest_1_c.before args0 about1 = true := by decide +kernel
set_option maxRecDepth 65536 in
theorem w_case : (Jvm.Cond.and given_1 narrow_1).before args0 about1 = true := by decide +kernel
theorem w_applies : (headSpec (Jvm.Cond.code x code maxLocals ret :: tables_1) room_1).applies x e0.platform about1 = true :=
  (Spec.applies_iff w_frames).mpr ⟨w_running, w_runnable, w_alone, w_named, w_hears, w_ripe, w_room, w_tables⟩
theorem atStart : AtStart classFile x code maxLocals ret World_1 tables_1 room_1 Calls_1 rest_1 Pre_1 launch0 p0 e0 about1 theMethod args0 below0 :=
  ⟨lists_1, trivial, launch0.admits_env _ _ _, launch0.least_env, fairChoices_fair.cas, fairChoices_fair.clock, w_frames, w_args, w_heap, w_applies, trivial, w_rest, w_case⟩
end start1
theorem witness_1 : WitnessClaimed_1 := ⟨start1.p0, start1.e0, start1.about1, start1.theMethod, start1.args0, start1.below0, start1.atStart⟩
end Jvm.Pilot.@@N@@
