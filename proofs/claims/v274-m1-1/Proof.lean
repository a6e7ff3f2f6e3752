import JvmDerived
import JvmDerived.Pilot.@@N@@Statement
import JvmDerived.Pilot.@@N@@Code
set_option linter.unusedVariables false
set_option linter.unusedSimpArgs false
namespace Jvm.RoadKit
open Sem ClassFile Op Lib Jvm.Stand Jvm.Free Jvm.LawKit
section New
variable {p : Program} {l : Launch} {e : Env} {R : Room} {s : State} {m : MethodId} {args : Array Value} {below : List Frame} {meth : Method} {c : Code} {T : State} {locs : List Loc} {cells slots : Nat}
theorem retI (X : Stand p l e R s m args below meth c T locs cells slots) (hx : p.tables.exec = Jvm.exec) {pc : Nat} {Ls : Array Slot} {z : Int32} {rest : List Value} (hret : meth.sig.returnType = some .int) (hd : decode c.code pc = .ok (.ireturn, 1)) {fs : List Frame}
    (hl : ∀ (f : JFrame) (acts : List Action), f.method = m → f.locked = none → f.entered = [] → (doReturn e (T.setTop f) acts (some (.int z))).1 = T.setFrames fs) : Steps p.tables e below (T.setTop (mkF m pc Ls (.int z :: rest))) (T.setFrames fs) := by
  have hm' : T.vm.method? m = some meth := X.method'
  have hn : narrow .int (.int z) = .int z := rfl
  show Steps p.tables e below (T.setTop { method := m, pc := pc, locals := Ls, stack := _ :: rest, locked := none }) _
  jvm_step X.here [X.here.top, hx, hd, hm', hret, hn]
  first | (intro acts; rw [hl _ acts rfl rfl rfl]) | rw [hl _ _ rfl rfl rfl]
  exact Steps.refl _
end New
end Jvm.RoadKit
/- laws to paste: Road.backV (cut by pick.py; bodies as the Statement names them) -/
namespace Jvm.Pilot.@@N@@
namespace StrChars
open Jvm Sem ClassFile Op Lib Jvm.Stand Jvm.Free.XT Jvm.Free.ALB Jvm.Free.JM Jvm.Free
open Jvm.Lib.Cold (StaticIs)
/-- a char array whose places are chars -/
def Ch (a : Addr) (A : Cell) (U : State) : Prop := Arr .char a A U ∧ Typed .char A
theorem Ch.mv {a : Addr} {A : Cell} {U U' : State} (h : Ch a A U) (hal : U.vm.Alike U'.vm) (hh : U'.heap = U.heap) : Ch a A U' := ⟨h.1.mv hal hh, h.2⟩
theorem Ch.keep {a : Addr} {A : Cell} {U U' : State} (h : Ch a A U) (hal : U.vm.Alike U'.vm) (hk : U'.heap[a]? = some A) : Ch a A U' := ⟨h.1.keep hal hk, h.2⟩
/-- what place i of a char[]'s cell holds -/
def cv (A : Cell) (i : Nat) : Int32 := match A.slots[i]? with | some (.int x) => x | _ => 0
theorem Ch.get {a : Addr} {A : Cell} {U : State} (h : Ch a A U) {i : Nat} (hi : i < A.slots.size) : A.slots[i]? = some (.int (cv A i)) := by
  have e := Array.getElem?_eq_getElem hi
  have f := h.2 i _ e
  unfold cv; rw [e]
  generalize A.slots[i] = v at f
  cases v <;> simp [fits] at f ⊢
/-- the byte that i2b leaves of a char -/
def lo8 (x : Int32) : Int32 := x.toInt8.toInt32
theorem fits_lo8 (y : Int32) : fits .byte (.int (lo8 y)) = true := by
  have h1 := y.toInt8.le_toInt
  have h2 := y.toInt8.toInt_lt
  simp only [lo8, fits, Bool.and_eq_true, decide_eq_true_eq, Int32.le_iff_toInt_le, Int8.toInt_toInt32, show (-128 : Int32).toInt = -128 from by decide, show (127 : Int32).toInt = 127 from by decide]
  omega
/-- A' is A but that each place j of lo .. hi - 1 holds f j -/
def Laid (A A' : Cell) (lo hi : Nat) (f : Nat → Value) : Prop := A'.cls = A.cls ∧ A'.vm = A.vm ∧ A'.slots.size = A.slots.size ∧ ∀ i, A'.slots[i]? = if lo ≤ i ∧ i < hi then some (f i) else A.slots[i]?
theorem Laid.zero (A : Cell) (lo : Nat) (f : Nat → Value) : Laid A A lo (lo + 0) f := ⟨rfl, rfl, rfl, fun i => by rw [if_neg (by omega)]⟩
theorem Laid.step {A Ak : Cell} {lo k : Nat} {f : Nat → Value} {v : Value} (h : Laid A Ak lo k f) (hlo : lo ≤ k) (hk : k < Ak.slots.size) (hv : v = f k) : Laid A (Ak.setSlot k v) lo (k + 1) f := by
  refine ⟨h.1, h.2.1, by simpa [Cell.setSlot] using h.2.2.1, fun i => ?_⟩
  by_cases e : k = i
  · subst e; rw [Cell.slots_setSlot_self v hk, if_pos (by omega), hv]
  · rw [Cell.slots_setSlot_ne v e, h.2.2.2 i]
    by_cases q : lo ≤ i ∧ i < k
    · rw [if_pos q, if_pos (by omega)]
    · rw [if_neg q, if_neg (by omega)]
def U16 : String := "java/lang/StringUTF16"
namespace Cmp5
def yN : MethodName := ⟨"java/lang/StringUTF16", "compress", "([CI[BII)I"⟩
abbrev yB : ByteArray := jdk_52_method_21_code
theorem d0 : decode yB 0 = .ok (.iconst 0, 1) := by decide +kernel
theorem d1 : decode yB 1 = .ok (.istore 5, 2) := by decide +kernel
theorem d3 : decode yB 3 = .ok (.iload 5, 2) := by decide +kernel
theorem d5 : decode yB 5 = .ok (.iload 4, 2) := by decide +kernel
theorem d7 : decode yB 7 = .ok (.if_icmp (.ge) 37, 3) := by decide +kernel
theorem d10 : decode yB 10 = .ok (.aload_n 0, 1) := by decide +kernel
theorem d11 : decode yB 11 = .ok (.iload_n 1, 1) := by decide +kernel
theorem d12 : decode yB 12 = .ok (.caload, 1) := by decide +kernel
theorem d13 : decode yB 13 = .ok (.istore 6, 2) := by decide +kernel
theorem d15 : decode yB 15 = .ok (.iload 6, 2) := by decide +kernel
theorem d17 : decode yB 17 = .ok (.sipush 255, 3) := by decide +kernel
theorem d20 : decode yB 20 = .ok (.if_icmp (.le) 6, 3) := by decide +kernel
theorem d26 : decode yB 26 = .ok (.aload_n 2, 1) := by decide +kernel
theorem d27 : decode yB 27 = .ok (.iload_n 3, 1) := by decide +kernel
theorem d28 : decode yB 28 = .ok (.iload 6, 2) := by decide +kernel
theorem d30 : decode yB 30 = .ok (.i2b, 1) := by decide +kernel
theorem d31 : decode yB 31 = .ok (.bastore, 1) := by decide +kernel
theorem d32 : decode yB 32 = .ok (.iinc 1 1, 3) := by decide +kernel
theorem d35 : decode yB 35 = .ok (.iinc 3 1, 3) := by decide +kernel
theorem d38 : decode yB 38 = .ok (.iinc 5 1, 3) := by decide +kernel
theorem d41 : decode yB 41 = .ok (.goto (-38), 3) := by decide +kernel
theorem d44 : decode yB 44 = .ok (.iload 4, 2) := by decide +kernel
theorem d46 : decode yB 46 = .ok (.ireturn, 1) := by decide +kernel
def site : List Cond := []
def tab : Cond := tabOf yN yB 7 (some .int) site
def P (b : Addr) (A : Cell) (d : Addr) (B : Cell) (o q len : Nat) (args : Array Value) (s : State) : Prop := args = #[.ref b, .int (Int32.ofNat o), .ref d, .int (Int32.ofNat q), .int (Int32.ofNat len)] ∧ Ch b A s ∧ Arr .byte d B s ∧ b ≠ d ∧ o + len ≤ A.slots.size ∧ q + len ≤ B.slots.size ∧ ∀ i, i < len → ¬ 255 < cv A (o + i)
def E (b : Addr) (A : Cell) (d : Addr) (B : Cell) (o q len : Nat) (r : Option Value) (s u : State) : Prop := r = some (.int (Int32.ofNat len)) ∧ ∃ B', Put d B' s u ∧ Laid B B' q (q + len) (fun j => Value.int (lo8 (cv A (o + (j - q)))))
/-- no char of the range above 255: len; the places written hold each char's low byte -/
theorem law (l : Launch) (b : Addr) (A : Cell) (d : Addr) (B : Cell) (o q len : Nat) : Law l yN 5 5 0 0 yB 7 (some .int) site (P b A d B o q len) (E b A d B o q len) (copyLocs d q len) 0 0 := by
  refine Law.of_walk (plainFor_of_name (by decide +kernel)) (by decide +kernel) (by decide +kernel) (by decide) (fun _ _ h => by rw [h.1]; rfl) (fun _ U U' hal hh h => ⟨h.1, h.2.1.mv hal hh, h.2.2.1.mv hal hh, h.2.2.2⟩) (fun r U U' V V' h1 hal h2 h => ⟨h.1, h.2.elim fun B' q => ⟨B', q.1.mv h1 h2, q.2⟩⟩) ?_
  intro p e s m args below meth c s₁ X0 hexec hbytes hml hret hlk hnm hown hh0 W hP
  obtain ⟨rfl, hA, hB, hne, l1, l2, hp⟩ := hP
  have c1 : Steps p.tables e below (s₁.setTop (entryFrame m #[.ref b, .int (Int32.ofNat o), .ref d, .int (Int32.ofNat q), .int (Int32.ofNat len)] 7)) (s₁.setTop (mkF m 0 #[.val (.ref b), .val (.int (Int32.ofNat o)), .val (.ref d), .val (.int (Int32.ofNat q)), .val (.int (Int32.ofNat len)), .unset, .unset] [])) := entry rfl
  have hA0 := hA.1.mv X0.warmed.alike hh0
  have hB0 := hB.mv X0.warmed.alike hh0
  have a31 := hA.1.2.2.2
  have c2 : Steps p.tables e below (s₁.setTop (entryFrame m #[.ref b, .int (Int32.ofNat o), .ref d, .int (Int32.ofNat q), .int (Int32.ofNat len)] 7)) (s₁.setTop (mkF m 3 #[.val (.ref b), .val (.int (Int32.ofNat o)), .val (.ref d), .val (.int (Int32.ofNat q)), .val (.int (Int32.ofNat len)), .val (.int 0), .unset] [])) := c1.trans (by
    refine iconstV X0.here hexec rfl 0 (hb hbytes d0) (by decide) ?_
    refine XS.istore X0.here hexec rfl (hb hbytes d1) rfl rfl ?_
    exact Steps.refl _)
  have loop : ∀ (r i : Nat), i + r = len → ∀ (z : Slot), (z = .unset ∨ ∃ w, z = .val w ∧ w.category = 1) → ∀ (Tl : State) (Bk : Cell), Stand p l e { frames := 0, locals := 0, cells := 0, slots := 0 } s m #[.ref b, .int (Int32.ofNat o), .ref d, .int (Int32.ofNat q), .int (Int32.ofNat len)] below meth c Tl ([] ++ copyLocs d q i) 0 0 → Put d Bk s₁ Tl → Laid B Bk q (q + i) (fun j => Value.int (lo8 (cv A (o + (j - q))))) →
      Steps p.tables e below (s₁.setTop (entryFrame m #[.ref b, .int (Int32.ofNat o), .ref d, .int (Int32.ofNat q), .int (Int32.ofNat len)] 7)) (Tl.setTop (mkF m 3 #[.val (.ref b), .val (.int (Int32.ofNat (o + i))), .val (.ref d), .val (.int (Int32.ofNat (q + i))), .val (.int (Int32.ofNat len)), .val (.int (Int32.ofNat i)), z] [])) → ∃ (T' : State) (B' : Cell) (z' : Slot), Stand p l e { frames := 0, locals := 0, cells := 0, slots := 0 } s m #[.ref b, .int (Int32.ofNat o), .ref d, .int (Int32.ofNat q), .int (Int32.ofNat len)] below meth c T' ([] ++ copyLocs d q len) 0 0 ∧ Put d B' s₁ T' ∧ Laid B B' q (q + len) (fun j => Value.int (lo8 (cv A (o + (j - q))))) ∧
      Steps p.tables e below (s₁.setTop (entryFrame m #[.ref b, .int (Int32.ofNat o), .ref d, .int (Int32.ofNat q), .int (Int32.ofNat len)] 7)) (T'.setTop (mkF m 3 #[.val (.ref b), .val (.int (Int32.ofNat (o + len))), .val (.ref d), .val (.int (Int32.ofNat (q + len))), .val (.int (Int32.ofNat len)), .val (.int (Int32.ofNat len)), z'] [])) := by
    intro r
    induction r with
    | zero =>
      intro i hi z hz Tl Bk Xl pl fl cl
      have hil : i = len := by omega
      rw [hil] at Xl fl cl
      exact ⟨Tl, Bk, z, Xl, pl, fl, cl⟩
    | succ r ih =>
      intro i hi z hz Tl Bk Xl pl fl cl
      have all := X0.warmed.alike.symm.trans Xl.warmed.alike
      have hAl := hA0.keep all (pl.other hne hA0.1)
      have hBk := hB0.like all pl.1 fl.1 fl.2.1 fl.2.2.1
      have hlt : q + i < Bk.slots.size := by rw [fl.2.2.1]; omega
      have c3 : Steps p.tables e below (s₁.setTop (entryFrame m #[.ref b, .int (Int32.ofNat o), .ref d, .int (Int32.ofNat q), .int (Int32.ofNat len)] 7)) (Tl.setTop (mkF m 12 #[.val (.ref b), .val (.int (Int32.ofNat (o + i))), .val (.ref d), .val (.int (Int32.ofNat (q + i))), .val (.int (Int32.ofNat len)), .val (.int (Int32.ofNat i)), z] [.int (Int32.ofNat (o + i)), .ref b])) := cl.trans (by
        refine XS.iload Xl.here hexec rfl (hb hbytes d3) rfl ?_
        refine XS.iload Xl.here hexec rfl (hb hbytes d5) rfl ?_
        refine XS.icmpNo Xl.here hexec rfl (hb hbytes d7) rfl (ii_ge_f (lt32 (by omega) (by omega))) ?_
        refine XS.aloadN Xl.here hexec rfl (hb hbytes d10) rfl rfl ?_
        refine XS.iloadN Xl.here hexec rfl (hb hbytes d11) rfl ?_
        exact Steps.refl _)
      have c4 : Steps p.tables e below (s₁.setTop (entryFrame m #[.ref b, .int (Int32.ofNat o), .ref d, .int (Int32.ofNat q), .int (Int32.ofNat len)] 7)) (Tl.setTop (mkF m 13 #[.val (.ref b), .val (.int (Int32.ofNat (o + i))), .val (.ref d), .val (.int (Int32.ofNat (q + i))), .val (.int (Int32.ofNat len)), .val (.int (Int32.ofNat i)), z] [.int (cv A (o + i))])) := c3.trans (by
        refine Xl.aget hexec hAl rfl (hA.get (i := o + i) (by omega)) rfl rfl (hb hbytes d12) ?_
        exact Steps.refl _)
      have c5 : Steps p.tables e below (s₁.setTop (entryFrame m #[.ref b, .int (Int32.ofNat o), .ref d, .int (Int32.ofNat q), .int (Int32.ofNat len)] 7)) (Tl.setTop (mkF m 15 #[.val (.ref b), .val (.int (Int32.ofNat (o + i))), .val (.ref d), .val (.int (Int32.ofNat (q + i))), .val (.int (Int32.ofNat len)), .val (.int (Int32.ofNat i)), .val (.int (cv A (o + i)))] [])) := c4.trans (by
        refine XS.istoreS Xl.here hexec rfl (hb hbytes d13) rfl rfl hz ?_
        exact Steps.refl _)
      have c6 : Steps p.tables e below (s₁.setTop (entryFrame m #[.ref b, .int (Int32.ofNat o), .ref d, .int (Int32.ofNat q), .int (Int32.ofNat len)] 7)) (Tl.setTop (mkF m 31 #[.val (.ref b), .val (.int (Int32.ofNat (o + i))), .val (.ref d), .val (.int (Int32.ofNat (q + i))), .val (.int (Int32.ofNat len)), .val (.int (Int32.ofNat i)), .val (.int (cv A (o + i)))] [.int (lo8 (cv A (o + i))), .int (Int32.ofNat (q + i)), .ref d])) := c5.trans (by
        refine XS.iload Xl.here hexec rfl (hb hbytes d15) rfl ?_
        refine sipushV Xl.here hexec rfl 255 (hb hbytes d17) (by decide) ?_
        refine XS.icmpYes Xl.here hexec rfl (pc0 := 20) rfl (hb hbytes d20) rfl (ii_le_t (hp i (by omega))) (by decide) rfl ?_
        refine XS.aloadN Xl.here hexec rfl (hb hbytes d26) rfl rfl ?_
        refine XS.iloadN Xl.here hexec rfl (hb hbytes d27) rfl ?_
        refine XS.iload Xl.here hexec rfl (hb hbytes d28) rfl ?_
        refine i2b Xl.here hexec rfl (hb hbytes d30) rfl ?_
        exact Steps.refl _)
      obtain ⟨T7, X7, p7, st7⟩ := Xl.aput hexec hBk rfl hlt rfl (fits_lo8 (cv A (o + i))) (g := (mkF m 31 #[.val (.ref b), .val (.int (Int32.ofNat (o + i))), .val (.ref d), .val (.int (Int32.ofNat (q + i))), .val (.int (Int32.ofNat len)), .val (.int (Int32.ofNat i)), .val (.int (cv A (o + i)))] [.int (lo8 (cv A (o + i))), .int (Int32.ofNat (q + i)), .ref d])) rfl (rest := []) rfl (hb hbytes d31)
      have c8 : Steps p.tables e below (s₁.setTop (entryFrame m #[.ref b, .int (Int32.ofNat o), .ref d, .int (Int32.ofNat q), .int (Int32.ofNat len)] 7)) (T7.setTop (mkF m 32 #[.val (.ref b), .val (.int (Int32.ofNat (o + i))), .val (.ref d), .val (.int (Int32.ofNat (q + i))), .val (.int (Int32.ofNat len)), .val (.int (Int32.ofNat i)), .val (.int (cv A (o + i)))] [])) := c6.trans (st7 _ (Steps.refl _))
      have c9 : Steps p.tables e below (s₁.setTop (entryFrame m #[.ref b, .int (Int32.ofNat o), .ref d, .int (Int32.ofNat q), .int (Int32.ofNat len)] 7)) (T7.setTop (mkF m 3 #[.val (.ref b), .val (.int (Int32.ofNat (o + i) + 1)), .val (.ref d), .val (.int (Int32.ofNat (q + i) + 1)), .val (.int (Int32.ofNat len)), .val (.int (Int32.ofNat i + 1)), .val (.int (cv A (o + i)))] [])) := c8.trans (by
        refine iincV X7.here hexec rfl 1 (hb hbytes d32) (by decide) rfl rfl ?_
        refine iincV X7.here hexec rfl 1 (hb hbytes d35) (by decide) rfl rfl ?_
        refine iincV X7.here hexec rfl 1 (hb hbytes d38) (by decide) rfl rfl ?_
        refine XS.goto X7.here hexec rfl (pc0 := 41) rfl (hb hbytes d41) (by decide) rfl ?_
        exact Steps.refl _)
      have c10 : Steps p.tables e below (s₁.setTop (entryFrame m #[.ref b, .int (Int32.ofNat o), .ref d, .int (Int32.ofNat q), .int (Int32.ofNat len)] 7)) (T7.setTop (mkF m 3 #[.val (.ref b), .val (.int (Int32.ofNat (o + (i + 1)))), .val (.ref d), .val (.int (Int32.ofNat (q + (i + 1)))), .val (.int (Int32.ofNat len)), .val (.int (Int32.ofNat (i + 1))), .val (.int (cv A (o + i)))] [])) := by
        have := c9
        rw [succ32, succ32, succ32] at this
        exact this
      exact ih (i + 1) (by omega) _ (Or.inr ⟨_, rfl, rfl⟩) T7 _ (by rw [copyLocs_step, ← List.append_assoc]; exact X7) (pl.trans p7) (fl.step (by omega) hlt (by simp)) c10
  obtain ⟨T9, B9, z9, X9, p9, f9, g9⟩ := loop len 0 (by omega) .unset (Or.inl rfl) s₁ B (by simpa [copyLocs] using X0) ⟨hB0.1, fun _ _ => rfl, rfl⟩ (Laid.zero _ _ _) c2
  have c11 : Steps p.tables e below (s₁.setTop (entryFrame m #[.ref b, .int (Int32.ofNat o), .ref d, .int (Int32.ofNat q), .int (Int32.ofNat len)] 7)) (T9.setTop (mkF m 46 #[.val (.ref b), .val (.int (Int32.ofNat (o + len))), .val (.ref d), .val (.int (Int32.ofNat (q + len))), .val (.int (Int32.ofNat len)), .val (.int (Int32.ofNat len)), z9] [.int (Int32.ofNat len)])) := g9.trans (by
    refine XS.iload X9.here hexec rfl (hb hbytes d3) rfl ?_
    refine XS.iload X9.here hexec rfl (hb hbytes d5) rfl ?_
    refine XS.icmpYes X9.here hexec rfl (pc0 := 7) rfl (hb hbytes d7) rfl (ii_ge_t (nlt32 (by omega) (Nat.le_refl _))) (by decide) rfl ?_
    refine XS.iload X9.here hexec rfl (hb hbytes d44) rfl ?_
    exact Steps.refl _)
  exact ⟨T9, some (.int (Int32.ofNat len)), _, _, _, X9, by simp, rfl, rfl, (fun h => by cases h), ⟨rfl, B9, p9.from hh0, f9⟩, fun fs hl => c11.trans (X9.ireturnOut hexec hret rfl (Or.inl rfl) (hb hbytes d46) hl)⟩
end Cmp5
namespace Cmp3
def yN : MethodName := ⟨"java/lang/StringUTF16", "compress", "([CII)[B"⟩
abbrev yB : ByteArray := jdk_52_method_16_code
theorem d0 : decode yB 0 = .ok (.iload_n 2, 1) := by decide +kernel
theorem d1 : decode yB 1 = .ok (.newarray .byte, 2) := by decide +kernel
theorem d3 : decode yB 3 = .ok (.astore_n 3, 1) := by decide +kernel
theorem d4 : decode yB 4 = .ok (.aload_n 0, 1) := by decide +kernel
theorem d5 : decode yB 5 = .ok (.iload_n 1, 1) := by decide +kernel
theorem d6 : decode yB 6 = .ok (.aload_n 3, 1) := by decide +kernel
theorem d7 : decode yB 7 = .ok (.iconst 0, 1) := by decide +kernel
theorem d8 : decode yB 8 = .ok (.iload_n 2, 1) := by decide +kernel
theorem d9 : decode yB 9 = .ok (.invokestatic 115, 3) := by decide +kernel
theorem d12 : decode yB 12 = .ok (.istore 4, 2) := by decide +kernel
theorem d14 : decode yB 14 = .ok (.iload 4, 2) := by decide +kernel
theorem d16 : decode yB 16 = .ok (.iload_n 2, 1) := by decide +kernel
theorem d17 : decode yB 17 = .ok (.if_icmp (.eq) 40, 3) := by decide +kernel
theorem d57 : decode yB 57 = .ok (.aload_n 3, 1) := by decide +kernel
theorem d58 : decode yB 58 = .ok (.areturn, 1) := by decide +kernel
def site : List Cond := [.arrayClass .byte, Cmp5.tab] ++ staticW U16 115 Cmp5.yN
def tab : Cond := tabOf yN yB 6 (some (.array .byte)) site
def P (b : Addr) (A : Cell) (o len : Nat) (args : Array Value) (s : State) : Prop := args = #[.ref b, .int (Int32.ofNat o), .int (Int32.ofNat len)] ∧ Ch b A s ∧ o + len ≤ A.slots.size ∧ len ≤ 536870912 ∧ ∀ i, i < len → ¬ 255 < cv A (o + i)
def E (b : Addr) (A : Cell) (o len : Nat) (r : Option Value) (s u : State) : Prop := NewArr .byte "[B" len (fun j => .int (lo8 (cv A (o + j)))) r s u ∧ u.heap.size = s.heap.size + 1
/-- no char of the range above 255: a new byte[] of their low bytes -/
theorem law (l : Launch) (b : Addr) (A : Cell) (o len : Nat) : Law l yN 3 3 1 18 yB 6 (some (.array .byte)) site (P b A o len) (E b A o len) [] 1 len := by
  refine Law.of_walk (plainFor_of_name (by decide +kernel)) (by decide +kernel) (by decide +kernel) (by decide) (fun _ _ h => by rw [h.1]; rfl) (fun _ U U' hal hh h => ⟨h.1, h.2.1.mv hal hh, h.2.2⟩) (fun r U U' V V' h1 hal h2 h => ⟨NewArr.mv r U U' V V' h1 hal h2 h.1, by rw [h1, h2]; exact h.2⟩) ?_
  intro p e s m args below meth c s₁ X0 hexec hbytes hml hret hlk hnm hown hh0 W hP
  obtain ⟨rfl, hA, l1, l2, hp⟩ := hP
  have a31 := hA.1.2.2.2
  have c1 : Steps p.tables e below (s₁.setTop (entryFrame m #[.ref b, .int (Int32.ofNat o), .int (Int32.ofNat len)] 6)) (s₁.setTop (mkF m 0 #[.val (.ref b), .val (.int (Int32.ofNat o)), .val (.int (Int32.ofNat len)), .unset, .unset, .unset] [])) := entry rfl
  have c2 : Steps p.tables e below (s₁.setTop (entryFrame m #[.ref b, .int (Int32.ofNat o), .int (Int32.ofNat len)] 6)) (s₁.setTop (mkF m 1 #[.val (.ref b), .val (.int (Int32.ofNat o)), .val (.int (Int32.ofNat len)), .unset, .unset, .unset] [.int (Int32.ofNat len)])) := c1.trans (by
    refine XS.iloadN X0.here hexec rfl (hb hbytes d0) rfl ?_
    exact Steps.refl _)
  obtain ⟨T3, B3, X3, ba3, bs3, bv3, bh3, bf3, st3⟩ := X0.anew hexec (atype := .byte) (wk W (.arrayClass .byte)) rfl (by show len * 1 ≤ _; omega) (by omega) (g := (mkF m 1 #[.val (.ref b), .val (.int (Int32.ofNat o)), .val (.int (Int32.ofNat len)), .unset, .unset, .unset] [.int (Int32.ofNat len)])) rfl (hb hbytes d1) (rest := []) rfl (Nat.le_refl _) (by show 0 + len ≤ len; omega)
  rw [hh0] at ba3 st3
  have kp3 : XT.Kept s T3 := (XT.Kept.of_eq hh0).push bh3
  have hA3 := hA.keep X3.warmed.alike (kp3 _ _ hA.1.1)
  have hne : b ≠ s.heap.size := hA.1.ne
  have c4 : Steps p.tables e below (s₁.setTop (entryFrame m #[.ref b, .int (Int32.ofNat o), .int (Int32.ofNat len)] 6)) (T3.setTop (mkF m 3 #[.val (.ref b), .val (.int (Int32.ofNat o)), .val (.int (Int32.ofNat len)), .unset, .unset, .unset] [.ref s.heap.size])) := c2.trans (st3 _ (Steps.refl _))
  have c5 : Steps p.tables e below (s₁.setTop (entryFrame m #[.ref b, .int (Int32.ofNat o), .int (Int32.ofNat len)] 6)) (T3.setTop (mkF m 9 #[.val (.ref b), .val (.int (Int32.ofNat o)), .val (.int (Int32.ofNat len)), .val (.ref s.heap.size), .unset, .unset] [.int (Int32.ofNat len), .int 0, .ref s.heap.size, .int (Int32.ofNat o), .ref b])) := c4.trans (by
    refine XS.astoreN X3.here hexec rfl (hb hbytes d3) rfl rfl rfl ?_
    refine XS.aloadN X3.here hexec rfl (hb hbytes d4) rfl rfl ?_
    refine XS.iloadN X3.here hexec rfl (hb hbytes d5) rfl ?_
    refine XS.aloadN X3.here hexec rfl (hb hbytes d6) rfl rfl ?_
    refine iconstV X3.here hexec rfl 0 (hb hbytes d7) (by decide) ?_
    refine XS.iloadN X3.here hexec rfl (hb hbytes d8) rfl ?_
    exact Steps.refl _)
  obtain ⟨v6, T6, X6, E6, g6⟩ := X3.callS hexec (Cmp5.law l b A s.heap.size B3 o 0 len) hown (wks W (staticW U16 115 Cmp5.yN)) (wk W Cmp5.tab) (W := 0) (Nat.le_of_ble_eq_true rfl) (Nat.le_of_ble_eq_true rfl) (Nat.le_refl _) (by show 0 + len + 0 ≤ len; omega) (g := (mkF m 9 #[.val (.ref b), .val (.int (Int32.ofNat o)), .val (.int (Int32.ofNat len)), .val (.ref s.heap.size), .unset, .unset] [.int (Int32.ofNat len), .int (Int32.ofNat 0), .ref s.heap.size, .int (Int32.ofNat o), .ref b])) rfl (by rw [hml]; rfl) c5 (argsL := [.ref b, .int (Int32.ofNat o), .ref s.heap.size, .int (Int32.ofNat 0), .int (Int32.ofNat len)]) (rest := []) rfl rfl (by show 2 * 0 + 0 ≤ _; decide) (hb hbytes d9) (⟨rfl, hA3, ba3, hne, l1, by rw [bs3]; simp, hp⟩)
  obtain ⟨rfl, B6, p6, f6⟩ := E6
  have c7 : Steps p.tables e below (s₁.setTop (entryFrame m #[.ref b, .int (Int32.ofNat o), .int (Int32.ofNat len)] 6)) (T6.setTop (mkF m 12 #[.val (.ref b), .val (.int (Int32.ofNat o)), .val (.int (Int32.ofNat len)), .val (.ref s.heap.size), .unset, .unset] [.int (Int32.ofNat len)])) := g6
  have c8 : Steps p.tables e below (s₁.setTop (entryFrame m #[.ref b, .int (Int32.ofNat o), .int (Int32.ofNat len)] 6)) (T6.setTop (mkF m 58 #[.val (.ref b), .val (.int (Int32.ofNat o)), .val (.int (Int32.ofNat len)), .val (.ref s.heap.size), .val (.int (Int32.ofNat len)), .unset] [.ref s.heap.size])) := c7.trans (by
    refine XS.istore X6.here hexec rfl (hb hbytes d12) rfl rfl ?_
    refine XS.iload X6.here hexec rfl (hb hbytes d14) rfl ?_
    refine XS.iloadN X6.here hexec rfl (hb hbytes d16) rfl ?_
    refine XS.icmpYes X6.here hexec rfl (pc0 := 17) rfl (hb hbytes d17) rfl (ii_eq_t rfl) (by decide) rfl ?_
    refine XS.aloadN X6.here hexec rfl (hb hbytes d57) rfl rfl ?_
    exact Steps.refl _)
  have X8 := X6.wide (L' := []) (cells' := 1) (slots' := len) (fun x hx hlt => by
    simp only [List.nil_append, copyLocs, List.mem_map, List.mem_range] at hx
    obtain ⟨i, -, rfl⟩ := hx
    exact absurd hlt (Nat.lt_irrefl _)) (Nat.le_refl _) (by omega)
  exact ⟨T6, some (.ref s.heap.size), _, _, _, X8, rfl, rfl, rfl, (fun h => by cases h), ⟨⟨rfl, B6, ba3.like (X3.warmed.alike.symm.trans X6.warmed.alike) p6.1 f6.1 f6.2.1 f6.2.2.1, f6.2.1.trans bv3, by rw [X6.warmed.alike.findClass, f6.1]; exact bf3, by rw [f6.2.2.1, bs3]; simp, fun j hj => by rw [f6.2.2.2 j, if_pos (by omega)]; rfl, kp3.put p6 (Nat.le_refl _)⟩, by rw [p6.2.2, bh3, hh0]; simp⟩, fun fs hl => c8.trans (X8.areturnOut hexec rfl hret rfl (hb hbytes d58) hl)⟩
end Cmp3
namespace CodL
def yN : MethodName := ⟨"java/lang/StringUTF16", "coderFromArrayLen", "([BI)B"⟩
abbrev yB : ByteArray := jdk_52_method_15_code
theorem d0 : decode yB 0 = .ok (.iload_n 1, 1) := by decide +kernel
theorem d1 : decode yB 1 = .ok (.aload_n 0, 1) := by decide +kernel
theorem d2 : decode yB 2 = .ok (.arraylength, 1) := by decide +kernel
theorem d3 : decode yB 3 = .ok (.isub, 1) := by decide +kernel
theorem d4 : decode yB 4 = .ok (.bipush 31, 2) := by decide +kernel
theorem d6 : decode yB 6 = .ok (.iushr, 1) := by decide +kernel
theorem d7 : decode yB 7 = .ok (.i2b, 1) := by decide +kernel
theorem d8 : decode yB 8 = .ok (.ireturn, 1) := by decide +kernel
def site : List Cond := []
def tab : Cond := tabOf yN yB 2 (some .byte) site
def P (d : Addr) (B : Cell) (args : Array Value) (s : State) : Prop := args = #[.ref d, .int (Int32.ofNat B.slots.size)] ∧ Arr .byte d B s
def E (r : Option Value) (s u : State) : Prop := XT.PureE (some (.int 0)) r s u
/-- an array as long as the number of chars: LATIN1 -/
theorem law (l : Launch) (d : Addr) (B : Cell) : Law l yN 2 2 0 0 yB 2 (some .byte) site (P d B) E [] 0 0 := by
  refine Law.of_walk (plainFor_of_name (by decide +kernel)) (by decide +kernel) (by decide +kernel) (by decide) (fun _ _ h => by rw [h.1]; rfl) (fun _ U U' hal hh h => ⟨h.1, h.2.mv hal hh⟩) (fun r U U' V V' h1 hal h2 h => XT.PureE.mv r U U' V V' h1 hal h2 h) ?_
  intro p e s m args below meth c s₁ X0 hexec hbytes hml hret hlk hnm hown hh0 W hP
  obtain ⟨rfl, hB⟩ := hP
  have hB0 := hB.mv X0.warmed.alike hh0
  have c1 : Steps p.tables e below (s₁.setTop (entryFrame m #[.ref d, .int (Int32.ofNat B.slots.size)] 2)) (s₁.setTop (mkF m 0 #[.val (.ref d), .val (.int (Int32.ofNat B.slots.size))] [])) := entry rfl
  have c2 : Steps p.tables e below (s₁.setTop (entryFrame m #[.ref d, .int (Int32.ofNat B.slots.size)] 2)) (s₁.setTop (mkF m 2 #[.val (.ref d), .val (.int (Int32.ofNat B.slots.size))] [.ref d, .int (Int32.ofNat B.slots.size)])) := c1.trans (by
    refine XS.iloadN X0.here hexec rfl (hb hbytes d0) rfl ?_
    refine XS.aloadN X0.here hexec rfl (hb hbytes d1) rfl rfl ?_
    exact Steps.refl _)
  have c3 : Steps p.tables e below (s₁.setTop (entryFrame m #[.ref d, .int (Int32.ofNat B.slots.size)] 2)) (s₁.setTop (mkF m 8 #[.val (.ref d), .val (.int (Int32.ofNat B.slots.size))] [.int (lo8 (ushr (Int32.ofNat B.slots.size - Int32.ofNat B.slots.size) 31))])) := c2.trans (by
    refine X0.alen hexec hB0 rfl rfl (hb hbytes d2) ?_
    refine XS.isub X0.here hexec rfl (hb hbytes d3) rfl ?_
    refine bipushV X0.here hexec rfl 31 (hb hbytes d4) (by decide) ?_
    refine iushr X0.here hexec rfl (hb hbytes d6) rfl ?_
    refine i2b X0.here hexec rfl (hb hbytes d7) rfl ?_
    exact Steps.refl _)
  have e0 : lo8 (ushr (Int32.ofNat B.slots.size - Int32.ofNat B.slots.size) 31) = 0 := by rw [Int32.sub_self]; decide
  rw [e0] at c3
  exact ⟨s₁, some (.int 0), _, _, _, X0, rfl, rfl, rfl, (fun h => by cases h), ⟨rfl, hh0⟩, fun fs hl => c3.trans (X0.ireturnOut hexec hret rfl (Or.inr (Or.inr (Or.inl rfl))) (hb hbytes d8) hl)⟩
end CodL
/-- the String at a is Latin-1 over a new byte[] (the heap's one new cell): the low bytes of the len chars of A from o on; every cell but a is kept -/
def Got (a : Addr) (D : Cell) (fV fC : Field) (A : Cell) (o len : Nat) (r : Option Value) (s u : State) : Prop := r = none ∧ ∃ D' V : Cell, Blank "java/lang/String" a D' u ∧ Same D D' [fV.slot, fC.slot] ∧ D'.slots[fV.slot]? = some (.ref s.heap.size) ∧ D'.slots[fC.slot]? = some (.int 0) ∧ Arr .byte s.heap.size V u ∧ V.vm = .none ∧ u.vm.findClass "[B" = some V.cls ∧ V.slots.size = len ∧ (∀ j, j < len → V.slots[j]? = some (.int (lo8 (cv A (o + j))))) ∧ (∀ (y : Addr) (c : Cell), y ≠ a → s.heap[y]? = some c → u.heap[y]? = some c) ∧ u.heap.size = s.heap.size + 1
theorem Got.mv {a : Addr} {D A : Cell} {fV fC : Field} {o len : Nat} : ∀ r (U U' V V' : State), U'.heap = U.heap → V.vm.Alike V'.vm → V'.heap = V.heap → Got a D fV fC A o len r U V → Got a D fV fC A o len r U' V' :=
  fun r U U' V V' h1 hal h2 ⟨e0, D', X, a1, a2, a3, a4, a5, a6, a7, a8, a9, a10, a11⟩ => ⟨e0, D', X, a1.mv hal h2, a2, by rw [h1]; exact a3, a4, by rw [h1]; exact a5.mv hal h2, a6, by rw [hal.findClass]; exact a7, a8, a9, by rw [h1, h2]; exact a10, by rw [h1, h2]; exact a11⟩
namespace New4
def yN : MethodName := ⟨"java/lang/String", "<init>", "([CIILjava/lang/Void;)V"⟩
abbrev yB : ByteArray := jdk_42_method_149_code
theorem d0 : decode yB 0 = .ok (.aload_n 0, 1) := by decide +kernel
theorem d1 : decode yB 1 = .ok (.invokespecial 1, 3) := by decide +kernel
theorem d4 : decode yB 4 = .ok (.iload_n 3, 1) := by decide +kernel
theorem d5 : decode yB 5 = .ok (.ifCond (.ne) 22, 3) := by decide +kernel
theorem d27 : decode yB 27 = .ok (.getstatic 38, 3) := by decide +kernel
theorem d30 : decode yB 30 = .ok (.ifCond (.eq) 28, 3) := by decide +kernel
theorem d33 : decode yB 33 = .ok (.aload_n 1, 1) := by decide +kernel
theorem d34 : decode yB 34 = .ok (.iload_n 2, 1) := by decide +kernel
theorem d35 : decode yB 35 = .ok (.iload_n 3, 1) := by decide +kernel
theorem d36 : decode yB 36 = .ok (.invokestatic 177, 3) := by decide +kernel
theorem d39 : decode yB 39 = .ok (.astore 5, 2) := by decide +kernel
theorem d41 : decode yB 41 = .ok (.aload_n 0, 1) := by decide +kernel
theorem d42 : decode yB 42 = .ok (.aload 5, 2) := by decide +kernel
theorem d44 : decode yB 44 = .ok (.iload_n 3, 1) := by decide +kernel
theorem d45 : decode yB 45 = .ok (.invokestatic 47, 3) := by decide +kernel
theorem d48 : decode yB 48 = .ok (.putfield 15, 3) := by decide +kernel
theorem d51 : decode yB 51 = .ok (.aload_n 0, 1) := by decide +kernel
theorem d52 : decode yB 52 = .ok (.aload 5, 2) := by decide +kernel
theorem d54 : decode yB 54 = .ok (.putfield 9, 3) := by decide +kernel
theorem d57 : decode yB 57 = .ok (.return_, 1) := by decide +kernel
def site : List Cond := [.fieldLink "java/lang/String" 38 "java/lang/String" "COMPACT_STRINGS" "Z", Cmp3.tab, CodL.tab, .laysFinal "java/lang/String" "java/lang/String" "value" "[B", .fieldLink "java/lang/String" 9 "java/lang/String" "value" "[B", .laysFinal "java/lang/String" "java/lang/String" "coder" "B", .fieldLink "java/lang/String" 15 "java/lang/String" "coder" "B"] ++ objW "java/lang/String" 1 ++ staticW "java/lang/String" 177 Cmp3.yN ++ staticW "java/lang/String" 47 CodL.yN
def tab : Cond := tabOf yN yB 6 none site
def P (a : Addr) (D : Cell) (fV fC : Field) (b : Addr) (A : Cell) (z : Int32) (o len : Nat) (args : Array Value) (s : State) : Prop := args = #[.ref a, .ref b, .int (Int32.ofNat o), .int (Int32.ofNat len), .null] ∧ Blank "java/lang/String" a D s ∧ Found "java/lang/String" "value" "[B" fV s ∧ Found "java/lang/String" "coder" "B" fC s ∧ Ch b A s ∧ StaticIs s "java/lang/String" "COMPACT_STRINGS" "Z" (.int z) ∧ ¬ z = 0 ∧ 0 < len ∧ o + len ≤ A.slots.size ∧ len ≤ 536870912 ∧ ∀ i, i < len → ¬ 255 < cv A (o + i)
def E (a : Addr) (D : Cell) (fV fC : Field) (A : Cell) (o len : Nat) (r : Option Value) (s u : State) : Prop := Got a D fV fC A o len r s u
/-- len > 0, no char of the range above 255: a Latin-1 String of their low bytes -/
theorem law (l : Launch) (a : Addr) (D : Cell) (fV fC : Field) (b : Addr) (A : Cell) (z : Int32) (o len : Nat) : Law l yN 5 4 2 35 yB 6 none site (P a D fV fC b A z o len) (E a D fV fC A o len) [⟨a, fC.slot⟩, ⟨a, fV.slot⟩] 1 len := by
  refine Law.of_walk (plainFor_of_name (by decide +kernel)) (by decide +kernel) (by decide +kernel) (by decide) (fun _ _ h => by rw [h.1]; rfl) (fun _ U U' hal hh h => ⟨h.1, h.2.1.mv hal hh, h.2.2.1.al hal, h.2.2.2.1.al hal, h.2.2.2.2.1.mv hal hh, h.2.2.2.2.2.1.there hal hh, h.2.2.2.2.2.2⟩) (fun r U U' V V' h1 hal h2 h => Got.mv r U U' V V' h1 hal h2 h) ?_
  intro p e s m args below meth c s₁ X0 hexec hbytes hml hret hlk hnm hown hh0 W hP
  obtain ⟨rfl, hB, f1, f2, hA, s1, hz, l0, l1, l2, hp⟩ := hP
  have a31 := hA.1.2.2.2
  have c1 : Steps p.tables e below (s₁.setTop (entryFrame m #[.ref a, .ref b, .int (Int32.ofNat o), .int (Int32.ofNat len), .null] 6)) (s₁.setTop (mkF m 0 #[.val (.ref a), .val (.ref b), .val (.int (Int32.ofNat o)), .val (.int (Int32.ofNat len)), .val .null, .unset] [])) := entry rfl
  have c2 : Steps p.tables e below (s₁.setTop (entryFrame m #[.ref a, .ref b, .int (Int32.ofNat o), .int (Int32.ofNat len), .null] 6)) (s₁.setTop (mkF m 1 #[.val (.ref a), .val (.ref b), .val (.int (Int32.ofNat o)), .val (.int (Int32.ofNat len)), .val .null, .unset] [.ref a])) := c1.trans (by
    refine XS.aloadN X0.here hexec rfl (hb hbytes d0) rfl rfl ?_
    exact Steps.refl _)
  obtain ⟨T3, X3, q3, st3⟩ := X0.oinit hexec hown (wks W (objW "java/lang/String" 1)) (g := (mkF m 1 #[.val (.ref a), .val (.ref b), .val (.int (Int32.ofNat o)), .val (.int (Int32.ofNat len)), .val .null, .unset] [.ref a])) rfl (by rw [hml]; rfl) (rest := []) rfl (hb hbytes d1) (W := 0) (by show 2 * 0 + 0 ≤ _; decide) (Nat.le_of_ble_eq_true rfl) (Nat.le_of_ble_eq_true rfl)
  have hh3 := q3.trans hh0
  have c4 : Steps p.tables e below (s₁.setTop (entryFrame m #[.ref a, .ref b, .int (Int32.ofNat o), .int (Int32.ofNat len), .null] 6)) (T3.setTop (mkF m 27 #[.val (.ref a), .val (.ref b), .val (.int (Int32.ofNat o)), .val (.int (Int32.ofNat len)), .val .null, .unset] [])) := (c2.trans (st3 _ (Steps.refl _))).trans (by
    refine XS.iloadN X3.here hexec rfl (hb hbytes d4) rfl ?_
    refine XS.ifYes X3.here hexec rfl (pc0 := 5) rfl (hb hbytes d5) rfl (i0_ne_t (nz32 (by omega) l0)) (by decide) rfl ?_
    exact Steps.refl _)
  obtain ⟨T5, X5, q5, st5⟩ := X3.sget hexec hown (wk W (.fieldLink "java/lang/String" 38 "java/lang/String" "COMPACT_STRINGS" "Z")) s1 (fun _ _ h => by rw [hh3]; exact h) (g := (mkF m 27 #[.val (.ref a), .val (.ref b), .val (.int (Int32.ofNat o)), .val (.int (Int32.ofNat len)), .val .null, .unset] [])) rfl (hb hbytes d27)
  have hh5 := q5.trans hh3
  have c6 : Steps p.tables e below (s₁.setTop (entryFrame m #[.ref a, .ref b, .int (Int32.ofNat o), .int (Int32.ofNat len), .null] 6)) (T5.setTop (mkF m 30 #[.val (.ref a), .val (.ref b), .val (.int (Int32.ofNat o)), .val (.int (Int32.ofNat len)), .val .null, .unset] [.int z])) := c4.trans (st5 _ (Steps.refl _))
  have c7 : Steps p.tables e below (s₁.setTop (entryFrame m #[.ref a, .ref b, .int (Int32.ofNat o), .int (Int32.ofNat len), .null] 6)) (T5.setTop (mkF m 36 #[.val (.ref a), .val (.ref b), .val (.int (Int32.ofNat o)), .val (.int (Int32.ofNat len)), .val .null, .unset] [.int (Int32.ofNat len), .int (Int32.ofNat o), .ref b])) := c6.trans (by
    refine XS.ifNo X5.here hexec rfl (hb hbytes d30) rfl (i0_eq_f hz) ?_
    refine XS.aloadN X5.here hexec rfl (hb hbytes d33) rfl rfl ?_
    refine XS.iloadN X5.here hexec rfl (hb hbytes d34) rfl ?_
    refine XS.iloadN X5.here hexec rfl (hb hbytes d35) rfl ?_
    exact Steps.refl _)
  obtain ⟨v8, T8, X8, E8, g8⟩ := X5.callS hexec (Cmp3.law l b A o len) hown (wks W (staticW "java/lang/String" 177 Cmp3.yN)) (wk W Cmp3.tab) (W := 0) (Nat.le_of_ble_eq_true rfl) (Nat.le_of_ble_eq_true rfl) (Nat.le_refl _) (by show 0 + len ≤ len; omega) (g := (mkF m 36 #[.val (.ref a), .val (.ref b), .val (.int (Int32.ofNat o)), .val (.int (Int32.ofNat len)), .val .null, .unset] [.int (Int32.ofNat len), .int (Int32.ofNat o), .ref b])) rfl (by rw [hml]; rfl) c7 (argsL := [.ref b, .int (Int32.ofNat o), .int (Int32.ofNat len)]) (rest := []) rfl rfl (by show 2 * 0 + 0 ≤ _; decide) (hb hbytes d36) (⟨rfl, hA.mv X5.warmed.alike hh5, l1, l2, hp⟩)
  obtain ⟨e8, z8⟩ := E8
  obtain ⟨rfl, N, n1, n2, n3, n4, n5, n6⟩ := NewArr.mv _ T5 s _ _ hh5.symm (Vm.Alike.refl _) rfl e8
  rw [hh5] at z8
  have hB1 := hB.keep X8.warmed.alike (n6 _ _ hB.1)
  have hne : s.heap.size ≠ a := (Nat.ne_of_lt (Array.getElem?_eq_some_iff.mp hB.1).1).symm
  have c9 : Steps p.tables e below (s₁.setTop (entryFrame m #[.ref a, .ref b, .int (Int32.ofNat o), .int (Int32.ofNat len), .null] 6)) (T8.setTop (mkF m 39 #[.val (.ref a), .val (.ref b), .val (.int (Int32.ofNat o)), .val (.int (Int32.ofNat len)), .val .null, .unset] [.ref s.heap.size])) := g8
  have c10 : Steps p.tables e below (s₁.setTop (entryFrame m #[.ref a, .ref b, .int (Int32.ofNat o), .int (Int32.ofNat len), .null] 6)) (T8.setTop (mkF m 45 #[.val (.ref a), .val (.ref b), .val (.int (Int32.ofNat o)), .val (.int (Int32.ofNat len)), .val .null, .val (.ref s.heap.size)] [.int (Int32.ofNat N.slots.size), .ref s.heap.size, .ref a])) := by
    have hc : Steps p.tables e below (s₁.setTop (entryFrame m #[.ref a, .ref b, .int (Int32.ofNat o), .int (Int32.ofNat len), .null] 6)) (T8.setTop (mkF m 45 #[.val (.ref a), .val (.ref b), .val (.int (Int32.ofNat o)), .val (.int (Int32.ofNat len)), .val .null, .val (.ref s.heap.size)] [.int (Int32.ofNat len), .ref s.heap.size, .ref a])) := c9.trans (by
      refine XS.astore X8.here hexec rfl (hb hbytes d39) rfl rfl rfl ?_
      refine XS.aloadN X8.here hexec rfl (hb hbytes d41) rfl rfl ?_
      refine XS.aload X8.here hexec rfl (hb hbytes d42) rfl rfl ?_
      refine XS.iloadN X8.here hexec rfl (hb hbytes d44) rfl ?_
      exact Steps.refl _)
    rw [n4]; exact hc
  obtain ⟨v11, T11, X11, E11, g11⟩ := X8.callS hexec (CodL.law l s.heap.size N) hown (wks W (staticW "java/lang/String" 47 CodL.yN)) (wk W CodL.tab) (W := 1) (Nat.le_of_ble_eq_true rfl) (Nat.le_of_ble_eq_true rfl) (Nat.le_refl _) (by show 0 + len + 0 ≤ len; omega) (g := (mkF m 45 #[.val (.ref a), .val (.ref b), .val (.int (Int32.ofNat o)), .val (.int (Int32.ofNat len)), .val .null, .val (.ref s.heap.size)] [.int (Int32.ofNat N.slots.size), .ref s.heap.size, .ref a])) rfl (by rw [hml]; rfl) c10 (argsL := [.ref s.heap.size, .int (Int32.ofNat N.slots.size)]) (rest := [.ref a]) rfl rfl (by show 2 * 0 + (1 + 0) ≤ _; decide) (hb hbytes d45) (⟨rfl, n1⟩)
  obtain ⟨rfl, q11⟩ := E11
  have hB11 := hB1.mv (X8.warmed.alike.symm.trans X11.warmed.alike) q11
  have c12 : Steps p.tables e below (s₁.setTop (entryFrame m #[.ref a, .ref b, .int (Int32.ofNat o), .int (Int32.ofNat len), .null] 6)) (T11.setTop (mkF m 48 #[.val (.ref a), .val (.ref b), .val (.int (Int32.ofNat o)), .val (.int (Int32.ofNat len)), .val .null, .val (.ref s.heap.size)] [.int 0, .ref a])) := g11
  obtain ⟨T13, X13, p13, bl13, sl13, st13⟩ := X11.finit hexec hown (wk W (.fieldLink "java/lang/String" 15 "java/lang/String" "coder" "B")) (Or.inr ⟨_, (wk W (.laysFinal "java/lang/String" "java/lang/String" "coder" "B"))⟩) (Or.inl ⟨rfl, hnm⟩) f2 (Or.inl rfl) hB11 (t := .byte) (by decide +kernel) rfl (g := (mkF m 48 #[.val (.ref a), .val (.ref b), .val (.int (Int32.ofNat o)), .val (.int (Int32.ofNat len)), .val .null, .val (.ref s.heap.size)] [.int 0, .ref a])) rfl (rest := []) rfl (hb hbytes d48)
  have c14 : Steps p.tables e below (s₁.setTop (entryFrame m #[.ref a, .ref b, .int (Int32.ofNat o), .int (Int32.ofNat len), .null] 6)) (T13.setTop (mkF m 54 #[.val (.ref a), .val (.ref b), .val (.int (Int32.ofNat o)), .val (.int (Int32.ofNat len)), .val .null, .val (.ref s.heap.size)] [.ref s.heap.size, .ref a])) := (c12.trans (st13 _ (Steps.refl _))).trans (by
    refine XS.aloadN X13.here hexec rfl (hb hbytes d51) rfl rfl ?_
    refine XS.aload X13.here hexec rfl (hb hbytes d52) rfl rfl ?_
    exact Steps.refl _)
  obtain ⟨T15, X15, p15, bl15, sl15, st15⟩ := X13.finit hexec hown (wk W (.fieldLink "java/lang/String" 9 "java/lang/String" "value" "[B")) (Or.inr ⟨_, (wk W (.laysFinal "java/lang/String" "java/lang/String" "value" "[B"))⟩) (Or.inl ⟨rfl, hnm⟩) f1 (Or.inl rfl) bl13 (t := (.array .byte)) (by decide +kernel) rfl (g := (mkF m 54 #[.val (.ref a), .val (.ref b), .val (.int (Int32.ofNat o)), .val (.int (Int32.ofNat len)), .val .null, .val (.ref s.heap.size)] [.ref s.heap.size, .ref a])) rfl (rest := []) rfl (hb hbytes d54)
  have c16 : Steps p.tables e below (s₁.setTop (entryFrame m #[.ref a, .ref b, .int (Int32.ofNat o), .int (Int32.ofNat len), .null] 6)) (T15.setTop (mkF m 57 #[.val (.ref a), .val (.ref b), .val (.int (Int32.ofNat o)), .val (.int (Int32.ofNat len)), .val .null, .val (.ref s.heap.size)] [])) := c14.trans (st15 _ (Steps.refl _))
  have ap := apart (Or.inr ⟨_, (wk W (.laysFinal "java/lang/String" "java/lang/String" "value" "[B"))⟩) (Or.inr ⟨_, (wk W (.laysFinal "java/lang/String" "java/lang/String" "coder" "B"))⟩) f1 f2 (t₁ := .array .byte) (t₂ := .byte) (by decide +kernel) (by decide +kernel) (by decide)
  have al := X8.warmed.alike.symm.trans X15.warmed.alike
  have n7 : T11.heap[s.heap.size]? = some N := by rw [q11]; exact n1.1
  exact ⟨T15, none, _, _, _, X15, by simp, rfl, by omega, (fun _ => rfl), ⟨rfl, _, N, bl15, ((Same.refl D _).set _ (by simp)).set _ (by simp), sl15, (Cell.slots_setSlot_ne _ ap).trans sl13, n1.keep al (p15.other hne (p13.other hne n7)), n2, by rw [al.findClass]; exact n3, n4, n5, fun y c h1 h2 => p15.other h1 (p13.other h1 (by rw [q11]; exact n6 y c h2)), by rw [p15.2.2, p13.2.2, q11]; exact z8⟩, fun fs hl => c16.trans (X15.returnOut hexec hret (hb hbytes d57) hl)⟩
end New4
namespace New1
def yN : MethodName := ⟨"java/lang/String", "<init>", "([C)V"⟩
abbrev yB : ByteArray := jdk_42_method_3_code
theorem d0 : decode yB 0 = .ok (.aload_n 0, 1) := by decide +kernel
theorem d1 : decode yB 1 = .ok (.aload_n 1, 1) := by decide +kernel
theorem d2 : decode yB 2 = .ok (.iconst 0, 1) := by decide +kernel
theorem d3 : decode yB 3 = .ok (.aload_n 1, 1) := by decide +kernel
theorem d4 : decode yB 4 = .ok (.arraylength, 1) := by decide +kernel
theorem d5 : decode yB 5 = .ok (.aconst_null, 1) := by decide +kernel
theorem d6 : decode yB 6 = .ok (.invokespecial 27, 3) := by decide +kernel
theorem d9 : decode yB 9 = .ok (.return_, 1) := by decide +kernel
def site : List Cond := [New4.tab] ++ initW "java/lang/String" 27 New4.yN
def tab : Cond := tabOf yN yB 2 none site
def P (a : Addr) (D : Cell) (fV fC : Field) (b : Addr) (A : Cell) (z : Int32) (args : Array Value) (s : State) : Prop := args = #[.ref a, .ref b] ∧ Blank "java/lang/String" a D s ∧ Found "java/lang/String" "value" "[B" fV s ∧ Found "java/lang/String" "coder" "B" fC s ∧ Ch b A s ∧ StaticIs s "java/lang/String" "COMPACT_STRINGS" "Z" (.int z) ∧ ¬ z = 0 ∧ 0 < A.slots.size ∧ A.slots.size ≤ 536870912 ∧ ∀ i, i < A.slots.size → ¬ 255 < cv A i
def E (a : Addr) (D : Cell) (fV fC : Field) (A : Cell) (r : Option Value) (s u : State) : Prop := Got a D fV fC A 0 A.slots.size r s u
/-- new String(chars), not empty, no char above 255: a Latin-1 String of their low bytes -/
theorem law (l : Launch) (a : Addr) (D : Cell) (fV fC : Field) (b : Addr) (A : Cell) (z : Int32) : Law l yN 2 1 3 52 yB 2 none site (P a D fV fC b A z) (E a D fV fC A) [⟨a, fC.slot⟩, ⟨a, fV.slot⟩] 1 A.slots.size := by
  refine Law.of_walk (plainFor_of_name (by decide +kernel)) (by decide +kernel) (by decide +kernel) (by decide) (fun _ _ h => by rw [h.1]; rfl) (fun _ U U' hal hh h => ⟨h.1, h.2.1.mv hal hh, h.2.2.1.al hal, h.2.2.2.1.al hal, h.2.2.2.2.1.mv hal hh, h.2.2.2.2.2.1.there hal hh, h.2.2.2.2.2.2⟩) (fun r U U' V V' h1 hal h2 h => Got.mv r U U' V V' h1 hal h2 h) ?_
  intro p e s m args below meth c s₁ X0 hexec hbytes hml hret hlk hnm hown hh0 W hP
  obtain ⟨rfl, hB, f1, f2, hA, s1, hz, l0, l2, hp⟩ := hP
  have c1 : Steps p.tables e below (s₁.setTop (entryFrame m #[.ref a, .ref b] 2)) (s₁.setTop (mkF m 0 #[.val (.ref a), .val (.ref b)] [])) := entry rfl
  have c2 : Steps p.tables e below (s₁.setTop (entryFrame m #[.ref a, .ref b] 2)) (s₁.setTop (mkF m 6 #[.val (.ref a), .val (.ref b)] [.null, .int (Int32.ofNat A.slots.size), .int 0, .ref b, .ref a])) := c1.trans (by
    refine XS.aloadN X0.here hexec rfl (hb hbytes d0) rfl rfl ?_
    refine XS.aloadN X0.here hexec rfl (hb hbytes d1) rfl rfl ?_
    refine iconstV X0.here hexec rfl 0 (hb hbytes d2) (by decide) ?_
    refine XS.aloadN X0.here hexec rfl (hb hbytes d3) rfl rfl ?_
    refine X0.alen hexec (hA.1.mv X0.warmed.alike hh0) rfl rfl (hb hbytes d4) ?_
    refine XS.aconstNull X0.here hexec rfl (hb hbytes d5) ?_
    exact Steps.refl _)
  obtain ⟨v3, T3, X3, E3, g3⟩ := X0.callN hexec (New4.law l a D fV fC b A z 0 A.slots.size) rfl hown (wks W (initW "java/lang/String" 27 New4.yN)) (W New4.tab (by simp only [site, List.mem_cons, List.mem_append, true_or, or_true])) (W := 0) (Nat.le_of_ble_eq_true rfl) (Nat.le_of_ble_eq_true rfl) (Nat.le_refl _) (by show 0 + A.slots.size ≤ A.slots.size; omega) (g := (mkF m 6 #[.val (.ref a), .val (.ref b)] [.null, .int (Int32.ofNat A.slots.size), .int (Int32.ofNat 0), .ref b, .ref a])) rfl (by rw [hml]; rfl) c2 (argsL := [.ref b, .int (Int32.ofNat 0), .int (Int32.ofNat A.slots.size), .null]) (rest := []) rfl rfl (by show 2 * 0 + 0 ≤ _; decide) (hb hbytes d6) (⟨rfl, hB.mv X0.warmed.alike hh0, f1.al X0.warmed.alike, f2.al X0.warmed.alike, hA.mv X0.warmed.alike hh0, s1.there X0.warmed.alike hh0, hz, l0, by omega, l2, fun i hi => by rw [Nat.zero_add]; exact hp i hi⟩)
  have e0 := Got.mv _ s₁ s _ _ hh0.symm (Vm.Alike.refl _) rfl E3
  obtain rfl := e0.1
  have c4 : Steps p.tables e below (s₁.setTop (entryFrame m #[.ref a, .ref b] 2)) (T3.setTop (mkF m 9 #[.val (.ref a), .val (.ref b)] [])) := g3
  exact ⟨T3, none, _, _, _, X3, by simp, rfl, by omega, (fun _ => rfl), e0, fun fs hl => c4.trans (X3.returnOut hexec hret (hb hbytes d9) hl)⟩
theorem pays {l : Launch} {R : Room} {p : Program} {e : Env} {below : List Frame} {s : State} {sargs : Array Value} {len W : Nat} (a : Addr) (D : Cell) (fV fC : Field) (b : Addr) (A : Cell) (z : Int32) (htab : tab.before sargs s = true) (hfr : 4 ≤ R.frames) (hlo : W + 65 ≤ R.locals) :
    Back l R p e below s sargs yN len W (fun A₁ a₁ => A₁.cells + 1 ≤ R.cells ∧ A₁.slots + A.slots.size ≤ R.slots ∧ P a D fV fC b A z a₁ A₁.U) (fun A₁ _ v₁ B₁ => E a D fV fC A v₁ A₁.U B₁.U ∧ B₁.locs = A₁.locs ++ [⟨a, fC.slot⟩, ⟨a, fV.slot⟩] ∧ B₁.cells = A₁.cells + 1 ∧ B₁.slots = A₁.slots + A.slots.size) :=
  (law l a D fV fC b A z).pays htab hfr (by omega)
end New1
end StrChars
namespace StrChars.Road
open Jvm Sem ClassFile Op Lib Jvm.Stand Jvm.Free Jvm.Free.XT
open Jvm.Lib.Cold (StaticIs)
abbrev ST : String := "java/lang/String"
/-- every table word that New1's law asks, flat -/
abbrev words : List Jvm.Cond := [.code New1.yN New1.yB 2 none, .initialized ST, .methodLink ST 27 New4.yN, .instanceMethod New4.yN,
  .code New4.yN New4.yB 6 none, .fieldLink ST 38 ST "COMPACT_STRINGS" "Z", .laysFinal ST ST "value" "[B", .fieldLink ST 9 ST "value" "[B", .laysFinal ST ST "coder" "B", .fieldLink ST 15 ST "coder" "B",
  .methodLink ST 1 Lib.objectInit, .instanceMethod Lib.objectInit, .code Lib.objectInit ⟨#[0xb1]⟩ 1 none, .methodLink ST 177 Cmp3.yN, .static Cmp3.yN, .methodLink ST 47 CodL.yN, .static CodL.yN,
  .code Cmp3.yN Cmp3.yB 6 (some (.array .byte)), .initialized U16, .arrayClass .byte, .methodLink U16 115 Cmp5.yN, .static Cmp5.yN, .code Cmp5.yN Cmp5.yB 7 (some .int), .code CodL.yN CodL.yB 2 (some .byte)]
theorem tab_of {a : Array Value} {s : State} (h : ∀ w ∈ words, w.before a s = true) : New1.tab.before a s = true := by
  have h5 : Cmp5.tab.before a s = true := unparts (wk h (.code Cmp5.yN Cmp5.yB 7 (some .int))) (wks h (.initialized Cmp5.yN.cls :: Cmp5.site))
  have hc : CodL.tab.before a s = true := unparts (wk h (.code CodL.yN CodL.yB 2 (some .byte))) (wks h (.initialized CodL.yN.cls :: CodL.site))
  have q5 : ∀ w ∈ Cmp5.tab :: words, w.before a s = true := fun w hw => (List.mem_cons.mp hw).elim (fun e => e ▸ h5) (h w)
  have h3 : Cmp3.tab.before a s = true := unparts (wk q5 (.code Cmp3.yN Cmp3.yB 6 (some (.array .byte)))) (wks q5 (.initialized Cmp3.yN.cls :: Cmp3.site))
  have q3 : ∀ w ∈ Cmp3.tab :: CodL.tab :: words, w.before a s = true := fun w hw => (List.mem_cons.mp hw).elim (fun e => e ▸ h3) fun hw => (List.mem_cons.mp hw).elim (fun e => e ▸ hc) (h w)
  have h4 : New4.tab.before a s = true := unparts (wk q3 (.code New4.yN New4.yB 6 none)) (wks q3 (.initialized New4.yN.cls :: New4.site))
  have q4 : ∀ w ∈ New4.tab :: words, w.before a s = true := fun w hw => (List.mem_cons.mp hw).elim (fun e => e ▸ h4) (h w)
  exact unparts (wk q4 (.code New1.yN New1.yB 2 none)) (wks q4 (.initialized New1.yN.cls :: New1.site))
/-- the words ride from the start Z to the walk's own state -/
theorem moved {Z s : State} {a0 args : Array Value} (hZ : Z.Warmed39 s.vm) (hw : ∀ d ∈ words, d.before a0 Z = true) : ∀ d ∈ words, d.before args s = true := fun d hd => by
  have q := hw d hd
  have t : ∀ d ∈ words, d = .arrayClass .byte ∨ (d.onTables && d.keepsFace) = true := by decide +kernel
  rcases t d hd with rfl | t
  · exact RoadKit.mvA hZ q
  · exact RoadKit.mv hZ q t
/-- WHAT COMES BACK, over the tables of the start Z: h the heap at the call, h' behind it -/
def Q (Z : State) (x : Addr) (A : Cell) (h : Heap) (v : Option Value) (h' : Heap) (L : List Loc) : Prop := v = none ∧ (∀ y ∈ L, y.base = x) ∧ RoadKit.Keep h h' [x] ∧ h'.size = h.size + 1 ∧ RoadKit.Exa Z h' x ST ∧ RoadKit.Fld Z h' x ST "value" "[B" (.ref h.size) ∧ RoadKit.Fld Z h' x ST "coder" "B" (.int 0) ∧
  (∃ V : Cell, RoadKit.Arr Z h' h.size V .byte ∧ V.vm = .none ∧ Z.vm.findClass "[B" = some V.cls ∧ V.slots.size = A.slots.size ∧ ∀ j, j < A.slots.size → V.slots[j]? = some (.int (lo8 (cv A j)))) ∧
  ∀ (O n d : String) (w : Value), RoadKit.Fld Z h x O n d w → RoadKit.slotOf Z O n d ≠ RoadKit.slotOf Z ST "value" "[B" → RoadKit.slotOf Z O n d ≠ RoadKit.slotOf Z ST "coder" "B" → RoadKit.Fld Z h' x O n d w
/-- **new String(chars) AT A CALL, IN THE ROAD'S FORM**: for specialBack behind newO: x the fresh String, b the char[] with the cell A -/
theorem back {p : Program} {l : Launch} {e : Env} {R : Room} {s : State} {args : Array Value} {below : List Frame} {len W : Nat} {Z : State} {a0 : Array Value} {h : Heap} (hZ : Z.Warmed39 s.vm) (hw : ∀ d ∈ words, d.before a0 Z = true) {kI : Nat} (wi : (Jvm.Cond.instantiable ST kI).before a0 Z = true)
    {x b : Addr} {A : Cell} {z : Int32} {v0 c0 : Value} (E : RoadKit.Exa Z h x ST) (V : RoadKit.Fld Z h x ST "value" "[B" v0) (C : RoadKit.Fld Z h x ST "coder" "B" c0) (K : RoadKit.Arr Z h b A .char) (hty : Typed .char A) (S : RoadKit.Sta Z h ST "COMPACT_STRINGS" "Z" (.int z)) (hz : ¬ z = 0)
    (l0 : 0 < A.slots.size) (l2 : A.slots.size ≤ 536870912) (hp : ∀ i, i < A.slots.size → ¬ 255 < cv A i) (hfr : 4 ≤ R.frames) (hlo : W + 65 ≤ R.locals) :
    Back l R p e below s args New1.yN len W (fun P a => a = #[.ref x, .ref b] ∧ P.U.heap = h ∧ P.cells + 1 ≤ R.cells ∧ P.slots + A.slots.size ≤ R.slots)
      (fun P _ v B => ∃ L, Q Z x A h v B.U.heap L ∧ B.locs = P.locs ++ L ∧ B.cells = P.cells + 1 ∧ B.slots = P.slots + A.slots.size) := by
  intro m meth c P g ig mk a X hg hsize hdg hW hn hp'
  obtain ⟨rfl, rfl, r1, r2⟩ := hp'
  have al : Z.vm.Alike P.U.vm := hZ.alike.trans X.warmed.alike
  obtain ⟨D, cfV, kV, iV, fV, hD, gV, stV, knV, obV, asV, slV⟩ := id V
  obtain ⟨D', cfC, kC, iC, fC, hD', gC, stC, -, -, asC, slC⟩ := id C
  cases hD.symm.trans hD'
  obtain ⟨D2, kD, e1, e2, e3, e4, e5⟩ := id E
  cases hD.symm.trans e1
  obtain ⟨c2, k2, i1, i2, i3, -⟩ := Cond.instantiable_spec wi
  cases e2.symm.trans i1
  cases e3.symm.trans i2
  obtain ⟨kU, u1, u2⟩ := al.2.2 _ _ e3
  have hB : Blank ST x D P.U := ⟨hD, ⟨knV, fun q hq => by rw [hq] at obV; cases obV⟩, by rw [al.findClass]; exact e2, kU, u1, by rw [u2]; exact i3, by rw [u2]; exact e5 i3⟩
  have F1 : Found ST "value" "[B" fV P.U := ⟨SBG.found_only al ⟨cfV, kV, iV, gV⟩, stV⟩
  have F2 : Found ST "coder" "B" fC P.U := ⟨SBG.found_only al ⟨cfC, kC, iC, gC⟩, stC⟩
  have hA : Ch b A P.U := ⟨⟨K.1, State.isArrayOf_alike al K.2.1, K.2.2, by omega⟩, hty⟩
  have hS : StaticIs P.U ST "COMPACT_STRINGS" "Z" (.int z) := by
    obtain ⟨cfS, iS, kS, fS, st, cS, t1, t2, t3, t4, t5, t6, t7⟩ := S
    exact StaticIs.there (s := { Z with heap := P.U.heap }) ⟨cfS, iS, kS, fS, st, cS, t1, t2, t3, t4, t5, (fun q => by rw [q] at t6; cases t6), t7⟩ al rfl
  obtain ⟨v, B, X', ⟨⟨hv, E', V', q1, q2, q3, q4, q5, q6, q7, q8, q9, q10, q11⟩, hl, hc, hs⟩, st⟩ := New1.pays x D fV fC b A z (tab_of (moved hZ hw)) hfr hlo m meth c P g ig mk _ X hg hsize hdg hW hn ⟨r1, r2, rfl, hB, F1, F2, hA, hS, hz, l0, l2, hp⟩
  have al' : Z.vm.Alike B.U.vm := hZ.alike.trans X'.warmed.alike
  have hsz : E'.slots.size = D.slots.size := by
    obtain ⟨-, -, -, kB, w1, w2, w3⟩ := q1
    obtain ⟨kB', y1, y2⟩ := al'.2.2 _ _ e3
    rw [q2.2.1] at w1
    cases w1.symm.trans y1
    rw [w3, e5 i3, y2]
  refine ⟨v, B, X', ⟨_, ⟨hv, ?_, ⟨by omega, fun y cy hy hn' => q10 y cy (by simpa using hn') hy, fun y cy hy => ?_⟩, q11, ⟨E', _, q1.1, by rw [q2.2.1]; exact e2, by rw [q2.2.1]; exact e3, by rw [q2.1]; exact obV, fun _ => by rw [hsz]; exact e5 i3⟩,
    ⟨E', cfV, kV, iV, fV, q1.1, gV, stV, by rw [q2.1]; exact knV, by rw [q2.1]; exact obV, by rw [q2.2.1]; exact asV, q3⟩, ⟨E', cfC, kC, iC, fC, q1.1, gC, stC, by rw [q2.1]; exact knV, by rw [q2.1]; exact obV, by rw [q2.2.1]; exact asC, q4⟩,
    ⟨V', ⟨q5.1, State.isArrayOf_alike al'.symm q5.2.1, q5.2.2.1⟩, q6, by rw [← al'.findClass]; exact q7, q8, fun j hj => by have := q9 j hj; rwa [Nat.zero_add] at this⟩, fun O n d w F n1 n2 => ?_⟩, hl, hc, hs⟩, st⟩
  · intro y hy
    simp only [List.mem_cons, List.not_mem_nil, or_false] at hy
    rcases hy with rfl | rfl <;> rfl
  · by_cases q : y = x
    · subst q
      cases hD.symm.trans hy
      exact ⟨E', q1.1, q2.2.1, q2.1, hsz⟩
    · exact ⟨cy, q10 y cy q hy, rfl, rfl, rfl⟩
  · obtain ⟨D3, cf, k, i, f, g1, g2, g3, g4, g5, g6, g7⟩ := F
    cases hD.symm.trans g1
    simp only [RoadKit.slotOf, g2, gV, gC, Option.map_some, Option.getD_some] at n1 n2
    exact ⟨E', cf, k, i, f, q1.1, g2, g3, by rw [q2.1]; exact g4, by rw [q2.1]; exact g5, by rw [q2.2.1]; exact g6, by rw [q2.2.2 f.slot (by simp [n1, n2])]; exact g7⟩
end StrChars.Road
namespace StrChars.Road
open Jvm Sem ClassFile Op Lib Jvm.Stand Jvm.Free Jvm.Free.XT
/-- WHAT COMES BACK, the byte[] as a list of values -/
def QA (Z : State) (x : Addr) (zn : Int32) (cs : List Int32) (h : Heap) (v : Option Value) (h' : Heap) (L : List Loc) : Prop := v = none ∧ (∀ y ∈ L, y.base = x) ∧ RoadKit.Keep h h' [x] ∧ h'.size = h.size + 1 ∧ RoadKit.Exa Z h' x ST ∧ RoadKit.Fld Z h' x ST "value" "[B" (.ref h.size) ∧ RoadKit.Fld Z h' x ST "coder" "B" (.int 0) ∧
  (∃ kb, Z.vm.findClass "[B" = some kb ∧ RoadKit.Arv Z h' h.size kb .byte zn (cs.map fun c => .int (lo8 c)) (.int 0)) ∧
  ∀ (O n d : String) (w : Value), RoadKit.Fld Z h x O n d w → RoadKit.slotOf Z O n d ≠ RoadKit.slotOf Z ST "value" "[B" → RoadKit.slotOf Z O n d ≠ RoadKit.slotOf Z ST "coder" "B" → RoadKit.Fld Z h' x O n d w
/-- **new String(chars) AT A CALL, THE ARRAYS AS LISTS**: the char[] at b holds cs, not empty, no char above 255 -/
theorem backArv {p : Program} {l : Launch} {e : Env} {R : Room} {s : State} {args : Array Value} {below : List Frame} {len W : Nat} {Z : State} {a0 : Array Value} {h : Heap} (hZ : Z.Warmed39 s.vm) (hw : ∀ d ∈ words, d.before a0 Z = true) {kI : Nat} (wi : (Jvm.Cond.instantiable ST kI).before a0 Z = true)
    {x b : Addr} {k : ClassId} {zn z : Int32} {cs : List Int32} {dv v0 c0 : Value} (E : RoadKit.Exa Z h x ST) (V : RoadKit.Fld Z h x ST "value" "[B" v0) (C : RoadKit.Fld Z h x ST "coder" "B" c0) (K : RoadKit.Arv Z h b k .char zn (cs.map Value.int) dv) (S : RoadKit.Sta Z h ST "COMPACT_STRINGS" "Z" (.int z)) (hz : ¬ z = 0)
    (hlen : zn.toNatClampNeg = cs.length) (h0 : 0 < cs.length) (hbig : cs.length ≤ 536870912) (hall : ∀ c ∈ cs, ¬ 255 < c) (hfr : 4 ≤ R.frames) (hlo : W + 65 ≤ R.locals) :
    Back l R p e below s args New1.yN len W (fun P a => a = #[.ref x, .ref b] ∧ P.U.heap = h ∧ P.cells + 1 ≤ R.cells ∧ P.slots + cs.length ≤ R.slots)
      (fun P _ v B => ∃ L, QA Z x zn cs h v B.U.heap L ∧ B.locs = P.locs ++ L ∧ B.cells = P.cells + 1 ∧ B.slots = P.slots + cs.length) := by
  obtain ⟨A, K1, K2, K3, K4, K5, K6⟩ := K
  have e : A.slots.size = cs.length := K3.trans hlen
  have hat : ∀ (i : Nat) (hi : i < cs.length), A.slots[i]? = some (.int cs[i]) := fun i hi => by rw [K5 i (by omega)]; simp [List.getD_eq_getElem?_getD, hi]
  have hcv : ∀ (i : Nat) (hi : i < cs.length), cv A i = cs[i] := fun i hi => by unfold cv; rw [hat i hi]
  have hty : Typed .char A := fun i v hv => by
    have hi : i < A.slots.size := (Array.getElem?_eq_some_iff.mp hv).1
    have q := K5 i hi
    rw [hv] at q
    rw [Option.some.inj q]
    exact K6 i hi
  refine Back.mono (back hZ hw wi E V C K1 hty S hz (by omega) (by omega) (fun i hi => by rw [hcv i (by omega)]; exact hall _ (List.getElem_mem _)) hfr hlo) (fun P a hp => ⟨hp.1, hp.2.1, hp.2.2.1, by rw [e]; exact hp.2.2.2⟩) (fun P a v B hp hq => ?_)
  obtain ⟨L, ⟨q1, q2, q3, q4, q5, q6, q7, ⟨V', v1, v2, v3, v4, v5⟩, q9⟩, hl, hc, hs⟩ := hq
  refine ⟨L, ⟨q1, q2, q3, q4, q5, q6, q7, ⟨V'.cls, v3, V', v1, rfl, by rw [v4, e, hlen], K4, fun i hi => ?_, fun i hi => ?_⟩, q9⟩, hl, hc, by rw [hs, e]⟩
  · have hi' : i < cs.length := by omega
    rw [v5 i (by omega), hcv i hi']; simp [List.getD_eq_getElem?_getD, hi']
  · have hi' : i < cs.length := by omega
    simp only [List.getD_eq_getElem?_getD, List.getElem?_map, List.getElem?_eq_getElem hi', Option.map_some, Option.getD_some]
    exact fits_lo8 _
end StrChars.Road
namespace StrChars.Road
open Jvm Sem ClassFile Op Lib Jvm.Stand Jvm.Free Jvm.Free.XT
/-- WHAT COMES BACK, in the writer's own shape -/
def QV (Z : State) (x : Addr) (N : Int32) (bs : List Int32) (h : Heap) (n0 : Nat) (v : Option Value) (h' : Heap) (L : List Loc) : Prop := v = none ∧ RoadKit.Fr n0 L ∧ RoadKit.Keep h h' [x] ∧ RoadKit.Exa Z h' x ST ∧ RoadKit.Fld Z h' x ST "coder" "B" (.int 0) ∧
  ∃ (t : Addr) (kb : ClassId), n0 ≤ t ∧ h.size ≤ t ∧ ¬ t = x ∧ RoadKit.Fld Z h' x ST "value" "[B" (.ref t) ∧ RoadKit.Arv Z h' t kb .byte N (bs.map Value.int) (.int 0)
/-- **new String(chars) AT A CALL, FOR THE WRITER**: a char[] of n known ints, each 0 to 255 -/
theorem backV {p : Program} {l : Launch} {e : Env} {R : Room} {s : State} {args : Array Value} {below : List Frame} {len W : Nat} {Z : State} {a0 : Array Value} {h : Heap} (hZ : Z.Warmed39 s.vm) (hw : ∀ d ∈ words, d.before a0 Z = true) {kI : Nat} (wi : (Jvm.Cond.instantiable ST kI).before a0 Z = true)
    {x b : Addr} {kC : ClassId} {cs bs : List Int32} {d v0 c0 : Value} {z N : Int32} {n n0 : Nat} (hx0 : n0 ≤ x) (hh0 : n0 ≤ h.size) (E : RoadKit.Exa Z h x ST) (V : RoadKit.Fld Z h x ST "value" "[B" v0) (C : RoadKit.Fld Z h x ST "coder" "B" c0) (K : RoadKit.Arv Z h b kC .char N (cs.map Value.int) d) (S : RoadKit.Sta Z h ST "COMPACT_STRINGS" "Z" (.int z)) (hz : ¬ z = 0)
    (hn : cs.length = n) (hN : N = Int32.ofNat n) (l0 : 0 < n) (l2 : n ≤ 4000) (hp : ∀ c ∈ cs, ¬ c < 0 ∧ ¬ (255 : Int32) < c) (hb : bs = cs.map (fun c => c.toInt8.toInt32)) (hfr : 4 ≤ R.frames) (hlo : W + 65 ≤ R.locals) :
    Back l R p e below s args (⟨"java/lang/String", "<init>", "([C)V"⟩ : MethodName) len W (fun P a => a = #[.ref x, .ref b] ∧ P.U.heap = h ∧ P.cells + 1 ≤ R.cells ∧ P.slots + n ≤ R.slots)
      (fun P _ v B => ∃ L, QV Z x N bs h n0 v B.U.heap L ∧ B.locs = P.locs ++ L ∧ B.cells = P.cells + 1 ∧ B.slots = P.slots + n) := by
  subst hn hN hb
  refine Back.mono (backArv hZ hw wi E V C K S hz (n32 (by omega)) l0 (by omega) (fun c hc => (hp c hc).2) hfr hlo) (fun P a hp => hp) (fun P a v B hp hq => ?_)
  obtain ⟨L, ⟨q1, q2, q3, q4, q5, q6, q7, ⟨kb, v1, v2⟩, q9⟩, hl, hc, hs⟩ := hq
  exact ⟨L, ⟨q1, fun y hy => by rw [q2 y hy]; exact hx0, q3, q5, q7, h.size, kb, hh0, Nat.le_refl _, Nat.ne_of_gt E.lt, q6, by rw [List.map_map]; exact v2⟩, hl, hc, hs⟩
end StrChars.Road
end Jvm.Pilot.@@N@@
namespace Jvm.Pilot.@@N@@
open Jvm Jvm.ClassFile Sem Op Lib Jvm.Free Jvm.Stand Jvm.LawKit Jvm.RoadKit Bundle Jvm.Pilot.@@N@@.Jvm.D
theorem own_pack {p : Program} {l : Launch} {e : Env} {R : Room} {s : State} {m : MethodId} {args : Array Value} {below : List Frame} {meth : Method} {c : Code} {T : State} {locs : List Loc} {cells slots n0 : Nat} (X : Stand p l e R s m args below meth c T locs cells slots) (N : Fr n0 locs) : ∃ L, Stand p l e R s m args below meth c T L cells slots ∧ Fr n0 L := ⟨_, X, N⟩
theorem own_c0 {P : Int32 → Prop} : ∀ x ∈ ([] : List Int32), P x := fun _ h => nomatch h
theorem own_cS {P : Int32 → Prop} {y : Int32} {L : List Int32} (q : P y) (r : ∀ x ∈ L, P x) : ∀ x ∈ y :: L, P x := fun x h => (List.mem_cons.mp h).elim (fun e => e ▸ q) (r x)
theorem own_up (cs : List Int32) (h : ∀ c ∈ cs, ¬ c < 0 ∧ ¬ (255 : Int32) < c) : ∀ c ∈ cs, ¬ c < 0 ∧ ¬ (65535 : Int32) < c := fun c hc => ⟨(h c hc).1, fun q => (h c hc).2 (by rw [Int32.lt_iff_toInt_lt] at q ⊢; have e1 : (65535 : Int32).toInt = 65535 := rfl; have e2 : (255 : Int32).toInt = 255 := rfl; omega)⟩
theorem own_m32 (x : Int32) : ∃ k : Fin 256, (x &&& 255) = Int32.ofNat k.val := by
  have h : (x &&& 255).toBitVec.toNat < 256 := by
    simp only [Int32.toBitVec_and, BitVec.toNat_and]
    exact Nat.lt_succ_of_le Nat.and_le_right
  refine ⟨⟨_, h⟩, ?_⟩
  apply Int32.toBitVec_inj.mp
  show _ = BitVec.ofNat 32 _
  rw [BitVec.ofNat_toNat]; simp
theorem own_m64 (x : Int64) : ∃ k : Fin 256, (x &&& 255).toInt32 = Int32.ofNat k.val := by
  have h : (x &&& 255).toBitVec.toNat < 256 := by
    simp only [Int64.toBitVec_and, BitVec.toNat_and]
    exact Nat.lt_succ_of_le Nat.and_le_right
  refine ⟨⟨_, h⟩, ?_⟩
  have e : (x &&& 255) = Int64.ofNat (x &&& 255).toBitVec.toNat := by
    apply Int64.toBitVec_inj.mp
    show _ = BitVec.ofNat 64 _
    rw [BitVec.ofNat_toNat]; simp
  have t : ∀ k : Fin 256, (Int64.ofNat k.val).toInt32 = Int32.ofNat k.val := by decide +kernel
  exact (congrArg Int64.toInt32 e).trans (t ⟨_, h⟩)
theorem own_eqint {args : Array Value} {s : State} {t : Term} {k : Int32} (h : (Jvm.Cond.eq t (.int k)).value args s none s [] = some true) : t.eval args s none [] s = some (.int k) := by
  simp only [Cond.value, Term.eval] at h
  cases ht : t.eval args s none [] s with
  | none => simp [ht] at h
  | some x => cases x <;> simp [ht] at h ⊢ <;> exact h
def own_Qlaw (h0 : Heap) (n0 : Nat) (v : Option Value) (h : Heap) (L : List Loc) : Prop := v = some (.int 1) ∧ Fr n0 L
theorem own_hws_words : ∀ d ∈ StrChars.Road.words, d ∈ tables_1 := by decide +kernel
def own_iteq (u w a b : Int32) : Int32 := if u = w then a else b
def own_itlt (u w a b : Int32) : Int32 := if u < w then a else b
def own_Glob (Z : State) (G1 : Int32) : Prop := (Sta Z Z.heap "java/lang/String" "COMPACT_STRINGS" "Z" (.int G1)) ∧ (¬ (G1 = (0 : Int32)))
def own_n (p : Int32) : Int32 := ((1 : Int32) + (p &&& (3 : Int32)))
def own_i (p : Int32) (n : Int32) : Int32 := ((p &&& (2147483647 : Int32)) % n)
def own_ch (p : Int32) : Int32 := (nar .char ((p &&& (255 : Int32)).toUInt32.toUInt16.toUInt32.toInt32))
def own_cx (p : Int32) (q : Int32) : Int32 := (((p ^^^ q) &&& (255 : Int32)).toUInt32.toUInt16.toUInt32.toInt32)
theorem own_rng_ch (p : Int32) : ¬ own_ch p < 0 ∧ ¬ (255 : Int32) < own_ch p := by
  have t : ∀ k : Fin 256, ¬ nar .char ((Int32.ofNat k.val).toUInt32.toUInt16.toUInt32.toInt32) < 0 ∧ ¬ (255 : Int32) < nar .char ((Int32.ofNat k.val).toUInt32.toUInt16.toUInt32.toInt32) := by decide +kernel
  unfold own_ch
  obtain ⟨k, hk⟩ := own_m32 p
  rw [hk]; exact t k
theorem own_rng_cx (p q : Int32) : ¬ (255 : Int32) < own_cx p q := by
  have t : ∀ k : Fin 256, ¬ (255 : Int32) < (Int32.ofNat k.val).toUInt32.toUInt16.toUInt32.toInt32 := by decide +kernel
  unfold own_cx
  obtain ⟨k, hk⟩ := own_m32 (p ^^^ q)
  rw [hk]; exact t k
theorem own_nc (p : Int32) : own_n p = 1 ∨ own_n p = 2 ∨ own_n p = 3 ∨ own_n p = 4 := by
  have h := c_mask p 3 2 (by decide) (by decide)
  have e : (p &&& 3) = 0 ∨ (p &&& 3) = 1 ∨ (p &&& 3) = 2 ∨ (p &&& 3) = 3 := by
    have q : (p &&& 3).toInt = 0 ∨ (p &&& 3).toInt = 1 ∨ (p &&& 3).toInt = 2 ∨ (p &&& 3).toInt = 3 := by rw [h]; simp only [show ((2 ^ 2 : Nat) : Int) = 4 from rfl]; omega
    rcases q with q | q | q | q
    · exact Or.inl (Int32.toInt_inj.mp q)
    · exact Or.inr (Or.inl (Int32.toInt_inj.mp q))
    · exact Or.inr (Or.inr (Or.inl (Int32.toInt_inj.mp q)))
    · exact Or.inr (Or.inr (Or.inr (Int32.toInt_inj.mp q)))
  unfold own_n
  rcases e with e | e | e | e <;> rw [e] <;> decide
theorem own_im (p n : Int32) (d : Int) (hd : 0 < d) (hn : n.toInt = d) : 0 ≤ (own_i p n).toInt ∧ (own_i p n).toInt < d := by
  have h0 : 0 ≤ (p &&& 2147483647).toInt := (c_and p 2147483647 (by decide)).1
  have h1 := (c_irem (p &&& 2147483647) n d hn).1 h0
  unfold own_i; rw [h1]; exact ⟨Int.emod_nonneg _ (by omega), Int.emod_lt_of_pos _ hd⟩
theorem own_i1 (p : Int32) : own_i p 1 = 0 := by have := own_im p 1 1 (by decide) (by decide); exact Int32.toInt_inj.mp (show _ = (0 : Int) by omega)
theorem own_i2 (p : Int32) : own_i p 2 = 0 ∨ own_i p 2 = 1 := by
  have := own_im p 2 2 (by decide) (by decide)
  have q : (own_i p 2).toInt = 0 ∨ (own_i p 2).toInt = 1 := by omega
  exact q.imp Int32.toInt_inj.mp Int32.toInt_inj.mp
theorem own_i3 (p : Int32) : own_i p 3 = 0 ∨ own_i p 3 = 1 ∨ own_i p 3 = 2 := by
  have := own_im p 3 3 (by decide) (by decide)
  have q : (own_i p 3).toInt = 0 ∨ (own_i p 3).toInt = 1 ∨ (own_i p 3).toInt = 2 := by omega
  exact q.imp Int32.toInt_inj.mp (Or.imp Int32.toInt_inj.mp Int32.toInt_inj.mp)
theorem own_i4 (p : Int32) : own_i p 4 = 0 ∨ own_i p 4 = 1 ∨ own_i p 4 = 2 ∨ own_i p 4 = 3 := by
  have := own_im p 4 4 (by decide) (by decide)
  have q : (own_i p 4).toInt = 0 ∨ (own_i p 4).toInt = 1 ∨ (own_i p 4).toInt = 2 ∨ (own_i p 4).toInt = 3 := by omega
  exact q.imp Int32.toInt_inj.mp (Or.imp Int32.toInt_inj.mp (Or.imp Int32.toInt_inj.mp Int32.toInt_inj.mp))
theorem own_nnz (p : Int32) : ¬ (own_n p = (0 : Int32)) := by
  rcases own_nc p with h | h | h | h <;> rw [h] <;> decide
theorem own_d_jdk_43_method_3_0 : decode jdk_43_method_3_code 0 = .ok (.iload_n 0, 1) := by decide +kernel
theorem own_d_jdk_43_method_3_1 : decode jdk_43_method_3_code 1 = .ok (.sipush 255, 3) := by decide +kernel
theorem own_d_jdk_43_method_3_4 : decode jdk_43_method_3_code 4 = .ok (.if_icmp .gt 7, 3) := by decide +kernel
theorem own_d_jdk_43_method_3_7 : decode jdk_43_method_3_code 7 = .ok (.iconst 1, 1) := by decide +kernel
theorem own_d_jdk_43_method_3_8 : decode jdk_43_method_3_code 8 = .ok (.goto 4, 3) := by decide +kernel
theorem own_d_jdk_43_method_3_12 : decode jdk_43_method_3_code 12 = .ok (.ireturn, 1) := by decide +kernel
theorem own_pn0 : plainName "java/lang/StringLatin1" = true := by first | (simp [plainName, overriddenIn]; done) | decide +kernel
def own_Qrm_can (Z : State) (G1 : Int32) (p1 : Int32) (h0 : Heap) (n0 : Nat) (v : Option Value) (h : Heap) (L : List Loc) : Prop := (v = some (.int (1 : Int32))) ∧ (Fr n0 L) ∧ (h = h0)
theorem own_efrm_can (m : MethodId) (p1 : Int32) : entryFrame m #[(.int p1)] 1 = mkF m 0 #[.val (.int p1)] [] := by first | (simp [entryFrame, mkF, argsToLocals, Value.category]; done) | rfl
set_option maxRecDepth 65536 in
set_option maxHeartbeats 40000000 in
theorem own_rm_can (l : Launch) (Z : State) (a0 : Array Value) (hw : ∀ d ∈ tables_1, d.before a0 Z = true) (ws : List Jvm.Cond) (G1 : Int32) (gl : own_Glob Z G1) (p1 : Int32) (h0 : Heap) (n0 : Nat) (Z0 : n0 ≤ h0.size) (hc1 : ¬ ((255 : Int32) < p1)) :
    MetFree l (⟨"java/lang/StringLatin1", "canEncode", "(C)Z"⟩ : MethodName) (head1 (Jvm.Cond.code (⟨"java/lang/StringLatin1", "canEncode", "(C)Z"⟩ : MethodName) jdk_43_method_3_code 1 (some .boolean) :: ws) ({ frames := 0, cells := 0, slots := 0, locals := 0 } : Room)) (fun a U => a = #[(.int p1)] ∧ Z.Warmed39 U.vm ∧ U.heap = h0) (fun _ _ _ _ _ => True) (fun _ U o U' => ∃ v L, o = .returned v ∧ own_Qrm_can Z G1 p1 h0 n0 v U'.heap L ∧ FrameEnd U o U' L ({ frames := 0, cells := 0, slots := 0, locals := 0 } : Room).cells ({ frames := 0, cells := 0, slots := 0, locals := 0 } : Room).slots) := by
  refine MetFree.of_bodySF (plainFor_of_name own_pn0) hisR ?_
  intro p e s m args below meth c s₁ Bd hml0 hP hK
  obtain ⟨rfl, hZ, hh⟩ := hP
  obtain ⟨O_CS, P_CS⟩ := id gl
  have hx := Bd.exec
  have hby := Bd.bytes
  have hml : c.maxLocals = 1 := hml0
  have hown : s.vm.findClass "java/lang/StringLatin1" = some m.cls := findClass_of_methodNamed Bd.named
  have hnm := (name_of_methodNamed Bd.named Bd.method).1
  have X0 : Stand p l e ({ frames := 0, cells := 0, slots := 0, locals := 0 } : Room) s m #[(.int p1)] below meth c s₁ [] 0 0 := Stand.of_body Bd
  have e0 : s₁.heap = h0 := by rw [← hh, Bd.state]; rfl
  have N0 := Fr.nil n0
  have pre0 : ∀ t, Steps p.tables e below (s₁.setTop (mkF m 0 #[.val (.int p1)] [])) t → Steps p.tables e below (s₁.setTop (entryFrame m #[(.int p1)] 1)) t := fun t k => castTop (own_efrm_can m p1) k
  obtain ⟨fs, hr, hrun, hended, hW, hsame⟩ := X0.leave (v := some (.int (1 : Int32))) (fun h => by rw [Bd.returns] at h; cases h)
  refine ⟨_, _, pre0 _ ?_, hrun, hended, _, _, rfl, ?_, ⟨_, rfl⟩, hW, hsame.mono (by decide) (by decide)⟩
  · show Steps p.tables e below (s₁.setTop (mkF m 0 #[.val (.int p1)] [])) _
    refine XS.iloadN X0.here hx rfl (hb hby own_d_jdk_43_method_3_0) rfl ?_
    show Steps p.tables e below (s₁.setTop (mkF m 1 #[.val (.int p1)] [(.int p1)])) _
    refine XS.sipush X0.here hx rfl (hb hby own_d_jdk_43_method_3_1) ?_
    show Steps p.tables e below (s₁.setTop (mkF m 4 #[.val (.int p1)] [(.int (255 : Int32)), (.int p1)])) _
    refine XS.icmpNo X0.here hx rfl (hb hby own_d_jdk_43_method_3_4) rfl (flt hc1).2.2.1 ?_
    show Steps p.tables e below (s₁.setTop (mkF m 7 #[.val (.int p1)] [])) _
    refine XS.iconst X0.here hx rfl (hb hby own_d_jdk_43_method_3_7) ?_
    show Steps p.tables e below (s₁.setTop (mkF m 8 #[.val (.int p1)] [(.int (1 : Int32))])) _
    refine XS.goto X0.here hx rfl (pc0 := 8) (pc' := 12) rfl (hb hby own_d_jdk_43_method_3_8) (by decide) (by decide) ?_
    show Steps p.tables e below (s₁.setTop (mkF m 12 #[.val (.int p1)] [(.int (1 : Int32))])) _
    exact retN X0 hx (t := .boolean) Bd.returns (by simp) (hb hby own_d_jdk_43_method_3_12) hr
  · show own_Qrm_can Z G1 p1 h0 n0 _ s₁.heap _
    rw [e0]
    exact ⟨rfl, N0, rfl⟩
theorem own_d_jdk_43_method_46_0 : decode jdk_43_method_46_code 0 = .ok (.iconst 1, 1) := by decide +kernel
theorem own_d_jdk_43_method_46_1 : decode jdk_43_method_46_code 1 = .ok (.newarray .byte, 2) := by decide +kernel
theorem own_d_jdk_43_method_46_3 : decode jdk_43_method_46_code 3 = .ok (.dup, 1) := by decide +kernel
theorem own_d_jdk_43_method_46_4 : decode jdk_43_method_46_code 4 = .ok (.iconst 0, 1) := by decide +kernel
theorem own_d_jdk_43_method_46_5 : decode jdk_43_method_46_code 5 = .ok (.iload_n 0, 1) := by decide +kernel
theorem own_d_jdk_43_method_46_6 : decode jdk_43_method_46_code 6 = .ok (.i2b, 1) := by decide +kernel
theorem own_d_jdk_43_method_46_7 : decode jdk_43_method_46_code 7 = .ok (.bastore, 1) := by decide +kernel
theorem own_d_jdk_43_method_46_8 : decode jdk_43_method_46_code 8 = .ok (.areturn, 1) := by decide +kernel
def own_Qrm_tob (Z : State) (G1 : Int32) (p1 : Int32) (h0 : Heap) (n0 : Nat) (v : Option Value) (h : Heap) (L : List Loc) : Prop := ∃ (b1 : Addr), ∃ (k1 : ClassId), (v = some (.ref b1)) ∧ (Fr n0 L) ∧ (Keep h0 h []) ∧ (h0.size ≤ b1) ∧ (Arv Z h b1 k1 .byte (1 : Int32) [(.int (nar .byte (p1.toInt8.toInt32)))] (.int (0 : Int32)))
theorem own_efrm_tob (m : MethodId) (p1 : Int32) : entryFrame m #[(.int p1)] 1 = mkF m 0 #[.val (.int p1)] [] := by first | (simp [entryFrame, mkF, argsToLocals, Value.category]; done) | rfl
set_option maxRecDepth 65536 in
set_option maxHeartbeats 40000000 in
theorem own_rm_tob (l : Launch) (Z : State) (a0 : Array Value) (hw : ∀ d ∈ tables_1, d.before a0 Z = true) (ws : List Jvm.Cond) (G1 : Int32) (gl : own_Glob Z G1) (p1 : Int32) (h0 : Heap) (n0 : Nat) (Z0 : n0 ≤ h0.size) :
    MetFree l (⟨"java/lang/StringLatin1", "toBytes", "(C)[B"⟩ : MethodName) (head1 (Jvm.Cond.code (⟨"java/lang/StringLatin1", "toBytes", "(C)[B"⟩ : MethodName) jdk_43_method_46_code 1 (some (.array .byte)) :: ws) ({ frames := 0, cells := 1, slots := 1, locals := 0 } : Room)) (fun a U => a = #[(.int p1)] ∧ Z.Warmed39 U.vm ∧ U.heap = h0) (fun _ _ _ _ _ => True) (fun _ U o U' => ∃ v L, o = .returned v ∧ own_Qrm_tob Z G1 p1 h0 n0 v U'.heap L ∧ FrameEnd U o U' L ({ frames := 0, cells := 1, slots := 1, locals := 0 } : Room).cells ({ frames := 0, cells := 1, slots := 1, locals := 0 } : Room).slots) := by
  refine MetFree.of_bodySF (plainFor_of_name own_pn0) hisR ?_
  intro p e s m args below meth c s₁ Bd hml0 hP hK
  obtain ⟨rfl, hZ, hh⟩ := hP
  obtain ⟨O_CS, P_CS⟩ := id gl
  have hx := Bd.exec
  have hby := Bd.bytes
  have hml : c.maxLocals = 1 := hml0
  have hown : s.vm.findClass "java/lang/StringLatin1" = some m.cls := findClass_of_methodNamed Bd.named
  have hnm := (name_of_methodNamed Bd.named Bd.method).1
  have X0 : Stand p l e ({ frames := 0, cells := 1, slots := 1, locals := 0 } : Room) s m #[(.int p1)] below meth c s₁ [] 0 0 := Stand.of_body Bd
  have e0 : s₁.heap = h0 := by rw [← hh, Bd.state]; rfl
  have N0 := Fr.nil n0
  have pre0 : ∀ t, Steps p.tables e below (s₁.setTop (mkF m 0 #[.val (.int p1)] [])) t → Steps p.tables e below (s₁.setTop (entryFrame m #[(.int p1)] 1)) t := fun t k => castTop (own_efrm_tob m p1) k
  obtain ⟨T1, h1, k1, X1, e1, E1, A1, st1⟩ := newP X0 hx hZ (hw _ (List.mem_of_getElem? (i := 24) rfl)) e0 (g := (mkF m 1 #[.val (.int p1)] [(.int (1 : Int32))])) rfl (hb hby own_d_jdk_43_method_46_1) rfl (by decide) (cap := 1) (by decide) (by decide) (by decide) (by decide)
  obtain ⟨b1, g1⟩ : ∃ z, z = h0.size := ⟨_, rfl⟩
  rw [← g1] at A1 st1
  have Kp2 : Keep h0 h1 [] := (Keep.refl h0 []).ext E1
  have Vh3 : Arv Z h1 b1 k1 .byte (1 : Int32) [(.int (0 : Int32))] (.int (0 : Int32)) := (Arv.new A1 (by decide)).pad (pad_rep [] (.int (0 : Int32)) 1)
  obtain ⟨cl4, Ar4, qc4, Sz4, Ng4, Hs4, Gs4⟩ := id Vh3
  have hin4 : ¬ ((0 : Int32) < 0 ∨ cl4.slots.size ≤ ((0 : Int32)).toNatClampNeg) := inb_of Sz4 ⟨(by decide), (by decide)⟩
  obtain ⟨T5, h5, X5, e5, W5, st5⟩ := stB X1 hx hZ e1 Ar4 (j := (0 : Int32)) hin4 (g := (mkF m 7 #[.val (.int p1)] [(.int (p1.toInt8.toInt32)), (.int (0 : Int32)), (.ref b1), (.ref b1)])) rfl rfl (hb hby own_d_jdk_43_method_46_7)
  have Kp6 : Keep h0 h5 [] := Kp2.wr W5 (Or.inr (Nat.le_trans (Keep.refl h0 []).1 (Nat.le_of_eq g1.symm)))
  have gh7 : n0 ≤ b1 := Nat.le_trans Z0 (Nat.le_of_eq g1.symm)
  obtain ⟨Lp5, X5, N5⟩ := own_pack X5 (Fr.snoc X5 N0 gh7)
  have Vh8 : Arv Z h5 b1 k1 .byte (1 : Int32) [(.int (nar .byte (p1.toInt8.toInt32)))] (.int (0 : Int32)) := (Arv.set Ar4 qc4 Sz4 Ng4 Hs4 Gs4 (fits_nar_byte _) W5 0 rfl (Nat.le_of_ble_eq_true rfl))
  obtain ⟨fs, hr, hrun, hended, hW, hsame⟩ := X5.leave (v := some (.ref b1)) (fun h => by rw [Bd.returns] at h; cases h)
  refine ⟨_, _, pre0 _ ?_, hrun, hended, _, _, rfl, ?_, ⟨_, rfl⟩, hW, hsame.mono (by decide) (by decide)⟩
  · show Steps p.tables e below (s₁.setTop (mkF m 0 #[.val (.int p1)] [])) _
    refine XS.iconst X0.here hx rfl (hb hby own_d_jdk_43_method_46_0) ?_
    show Steps p.tables e below (s₁.setTop (mkF m 1 #[.val (.int p1)] [(.int (1 : Int32))])) _
    refine st1 _ ?_
    show Steps p.tables e below (T1.setTop (mkF m 3 #[.val (.int p1)] [(.ref b1)])) _
    refine XS.dup X1.here hx rfl (hb hby own_d_jdk_43_method_46_3) rfl rfl ?_
    show Steps p.tables e below (T1.setTop (mkF m 4 #[.val (.int p1)] [(.ref b1), (.ref b1)])) _
    refine XS.iconst X1.here hx rfl (hb hby own_d_jdk_43_method_46_4) ?_
    show Steps p.tables e below (T1.setTop (mkF m 5 #[.val (.int p1)] [(.int (0 : Int32)), (.ref b1), (.ref b1)])) _
    refine XS.iloadN X1.here hx rfl (hb hby own_d_jdk_43_method_46_5) rfl ?_
    show Steps p.tables e below (T1.setTop (mkF m 6 #[.val (.int p1)] [(.int p1), (.int (0 : Int32)), (.ref b1), (.ref b1)])) _
    refine XS.i2b X1.here hx rfl (hb hby own_d_jdk_43_method_46_6) rfl ?_
    show Steps p.tables e below (T1.setTop (mkF m 7 #[.val (.int p1)] [(.int (p1.toInt8.toInt32)), (.int (0 : Int32)), (.ref b1), (.ref b1)])) _
    refine st5 _ ?_
    show Steps p.tables e below (T5.setTop (mkF m 8 #[.val (.int p1)] [(.ref b1)])) _
    jvm_step X5.here [X5.here.top, hx, (hb hby own_d_jdk_43_method_46_8), X5.method', Bd.returns, Value.isRef, FieldType.isReference]
    first | (intro acts; rw [hr _ acts rfl rfl rfl]) | rw [hr _ _ rfl rfl rfl]
    exact Steps.refl _
  · show own_Qrm_tob Z G1 p1 h0 n0 _ T5.heap _
    rw [e5]
    exact ⟨b1, k1, rfl, N5, Kp6, (Nat.le_trans (Keep.refl h0 []).1 (Nat.le_of_eq g1.symm)), Vh8⟩
theorem own_d_jdk_42_method_151_0 : decode jdk_42_method_151_code 0 = .ok (.aload_n 0, 1) := by decide +kernel
theorem own_d_jdk_42_method_151_1 : decode jdk_42_method_151_code 1 = .ok (.invokespecial 1, 3) := by decide +kernel
theorem own_d_jdk_42_method_151_4 : decode jdk_42_method_151_code 4 = .ok (.aload_n 0, 1) := by decide +kernel
theorem own_d_jdk_42_method_151_5 : decode jdk_42_method_151_code 5 = .ok (.aload_n 1, 1) := by decide +kernel
theorem own_d_jdk_42_method_151_6 : decode jdk_42_method_151_code 6 = .ok (.putfield 9, 3) := by decide +kernel
theorem own_d_jdk_42_method_151_9 : decode jdk_42_method_151_code 9 = .ok (.aload_n 0, 1) := by decide +kernel
theorem own_d_jdk_42_method_151_10 : decode jdk_42_method_151_code 10 = .ok (.iload_n 2, 1) := by decide +kernel
theorem own_d_jdk_42_method_151_11 : decode jdk_42_method_151_code 11 = .ok (.putfield 15, 3) := by decide +kernel
theorem own_d_jdk_42_method_151_14 : decode jdk_42_method_151_code 14 = .ok (.return_, 1) := by decide +kernel
theorem own_pn1 : plainName "java/lang/String" = true := by first | (simp [plainName, overriddenIn]; done) | decide +kernel
def own_Qrm_sbb (Z : State) (G1 : Int32) (a1 : Addr) (a2 : Addr) (p3 : Int32) (u4 : Value) (u5 : Value) (h0 : Heap) (n0 : Nat) (v : Option Value) (h : Heap) (L : List Loc) : Prop := (v = none) ∧ (Fr n0 L) ∧ (Keep h0 h [a1]) ∧ (Exa Z h a1 "java/lang/String") ∧ (Fld Z h a1 "java/lang/String" "value" "[B" (.ref a2)) ∧ (Fld Z h a1 "java/lang/String" "coder" "B" (.int (nar .byte p3)))
theorem own_efrm_sbb (m : MethodId) (a1 : Addr) (a2 : Addr) (p3 : Int32) : entryFrame m #[(.ref a1), (.ref a2), (.int p3)] 3 = mkF m 0 #[.val (.ref a1), .val (.ref a2), .val (.int p3)] [] := by first | (simp [entryFrame, mkF, argsToLocals, Value.category]; done) | rfl
set_option maxRecDepth 65536 in
set_option maxHeartbeats 40000000 in
theorem own_rm_sbb (l : Launch) (Z : State) (a0 : Array Value) (hw : ∀ d ∈ tables_1, d.before a0 Z = true) (ws : List Jvm.Cond) (G1 : Int32) (gl : own_Glob Z G1) (a1 : Addr) (a2 : Addr) (p3 : Int32) (u4 : Value) (u5 : Value) (h0 : Heap) (n0 : Nat) (Z0 : n0 ≤ h0.size) (P1 : Exa Z h0 a1 "java/lang/String") (P2 : Fld Z h0 a1 "java/lang/String" "value" "[B" u4) (P3 : n0 ≤ a1) (P4 : Fld Z h0 a1 "java/lang/String" "coder" "B" u5) :
    MetFree l (⟨"java/lang/String", "<init>", "([BB)V"⟩ : MethodName) (head1 (Jvm.Cond.code (⟨"java/lang/String", "<init>", "([BB)V"⟩ : MethodName) jdk_42_method_151_code 3 none :: ws) ({ frames := 1, cells := 0, slots := 0, locals := 12 } : Room)) (fun a U => a = #[(.ref a1), (.ref a2), (.int p3)] ∧ Z.Warmed39 U.vm ∧ U.heap = h0) (fun _ _ _ _ _ => True) (fun _ U o U' => ∃ v L, o = .returned v ∧ own_Qrm_sbb Z G1 a1 a2 p3 u4 u5 h0 n0 v U'.heap L ∧ FrameEnd U o U' L ({ frames := 1, cells := 0, slots := 0, locals := 12 } : Room).cells ({ frames := 1, cells := 0, slots := 0, locals := 12 } : Room).slots) := by
  refine MetFree.of_bodySF (plainFor_of_name own_pn1) hisR ?_
  intro p e s m args below meth c s₁ Bd hml0 hP hK
  obtain ⟨rfl, hZ, hh⟩ := hP
  obtain ⟨O_CS, P_CS⟩ := id gl
  have hx := Bd.exec
  have hby := Bd.bytes
  have hml : c.maxLocals = 3 := hml0
  have hown : s.vm.findClass "java/lang/String" = some m.cls := findClass_of_methodNamed Bd.named
  have hnm := (name_of_methodNamed Bd.named Bd.method).1
  have X0 : Stand p l e ({ frames := 1, cells := 0, slots := 0, locals := 12 } : Room) s m #[(.ref a1), (.ref a2), (.int p3)] below meth c s₁ [] 0 0 := Stand.of_body Bd
  have e0 : s₁.heap = h0 := by rw [← hh, Bd.state]; rfl
  have N0 := Fr.nil n0
  have pre0 : ∀ t, Steps p.tables e below (s₁.setTop (mkF m 0 #[.val (.ref a1), .val (.ref a2), .val (.int p3)] [])) t → Steps p.tables e below (s₁.setTop (entryFrame m #[(.ref a1), (.ref a2), (.int p3)] 3)) t := fun t k => castTop (own_efrm_sbb m a1 a2 p3) k
  obtain ⟨T1, X1, e1, st1⟩ := initO X0 hx hZ hown (hw _ (List.mem_of_getElem? (i := 16) rfl)) (hw _ (List.mem_of_getElem? (i := 17) rfl)) (hw _ (List.mem_of_getElem? (i := 18) rfl)) e0 (g := (mkF m 1 #[.val (.ref a1), .val (.ref a2), .val (.int p3)] [(.ref a1)])) rfl (by rw [hml]; rfl) rfl (hb hby own_d_jdk_42_method_151_1) (by decide) (W := 0) (by show 2 * 0 + _ ≤ _; exact Nat.le_of_eq rfl) (by decide)
  obtain ⟨T2, h2, X2, e2, W2, st2⟩ := putF X1 hx hZ hown (host := "") (Or.inl (hw _ (List.mem_of_getElem? (i := 33) rfl))) Via.refl e1 P2 P1 (Or.inr ⟨(hw _ (List.mem_of_getElem? (i := 34) rfl)), rfl, hnm⟩) (hw _ (List.mem_of_getElem? (i := 7) rfl)) (ty := (.array .byte)) (by decide) rfl rfl (g := (mkF m 6 #[.val (.ref a1), .val (.ref a2), .val (.int p3)] [(.ref a2), (.ref a1)])) rfl rfl (hb hby own_d_jdk_42_method_151_6)
  have Kp3 : Keep h0 h2 [a1] := (Keep.refl h0 [a1]).wr W2 (Or.inl (List.mem_of_getElem? (i := 0) rfl))
  obtain ⟨Lp2, X2, N2⟩ := own_pack X2 (Fr.snoc X2 N0 P3)
  have Fh4 : Fld Z h2 a1 "java/lang/String" "value" "[B" (.ref a2) := P2.same W2
  have Eh5 : Exa Z h2 a1 "java/lang/String" := (P1.wr W2)
  have Fh6 : Fld Z h2 a1 "java/lang/String" "coder" "B" u5 := (P4.other W2 (Or.inr (slot_ne (Or.inr (hw _ (List.mem_of_getElem? (i := 32) rfl))) (Or.inr (hw _ (List.mem_of_getElem? (i := 34) rfl))) (by decide) (t := .byte) (t' := (.array .byte)) (by decide) (by decide))))
  obtain ⟨T7, h7, X7, e7, W7, st7⟩ := putFN X2 hx hZ hown (hw _ (List.mem_of_getElem? (i := 31) rfl)) Via.refl e2 Fh6 Eh5 (Or.inr ⟨(hw _ (List.mem_of_getElem? (i := 32) rfl)), rfl, hnm⟩) (hw _ (List.mem_of_getElem? (i := 7) rfl)) (ty := .byte) (v' := (.int (nar .byte p3))) (by decide) rfl (fits_nar_byte _) (g := (mkF m 11 #[.val (.ref a1), .val (.ref a2), .val (.int p3)] [(.int p3), (.ref a1)])) rfl rfl (hb hby own_d_jdk_42_method_151_11)
  have Kp8 : Keep h0 h7 [a1] := Kp3.wr W7 (Or.inl (List.mem_of_getElem? (i := 0) rfl))
  obtain ⟨Lp7, X7, N7⟩ := own_pack X7 (Fr.snoc X7 N2 P3)
  have Fh9 : Fld Z h7 a1 "java/lang/String" "coder" "B" (.int (nar .byte p3)) := Fh6.same W7
  have Eh10 : Exa Z h7 a1 "java/lang/String" := (Eh5.wr W7)
  have Fh11 : Fld Z h7 a1 "java/lang/String" "value" "[B" (.ref a2) := (Fh4.other W7 (Or.inr (slot_ne (Or.inr (hw _ (List.mem_of_getElem? (i := 34) rfl))) (Or.inr (hw _ (List.mem_of_getElem? (i := 32) rfl))) (by decide) (t := (.array .byte)) (t' := .byte) (by decide) (by decide))))
  obtain ⟨fs, hr, hrun, hended, hW, hsame⟩ := X7.leave (v := none) (fun _ => rfl)
  refine ⟨_, _, pre0 _ ?_, hrun, hended, _, _, rfl, ?_, ⟨_, rfl⟩, hW, hsame.mono (by decide) (by decide)⟩
  · show Steps p.tables e below (s₁.setTop (mkF m 0 #[.val (.ref a1), .val (.ref a2), .val (.int p3)] [])) _
    refine XS.aloadN X0.here hx rfl (hb hby own_d_jdk_42_method_151_0) rfl rfl ?_
    show Steps p.tables e below (s₁.setTop (mkF m 1 #[.val (.ref a1), .val (.ref a2), .val (.int p3)] [(.ref a1)])) _
    refine st1 _ ?_
    show Steps p.tables e below (T1.setTop (mkF m 4 #[.val (.ref a1), .val (.ref a2), .val (.int p3)] [])) _
    refine XS.aloadN X1.here hx rfl (hb hby own_d_jdk_42_method_151_4) rfl rfl ?_
    show Steps p.tables e below (T1.setTop (mkF m 5 #[.val (.ref a1), .val (.ref a2), .val (.int p3)] [(.ref a1)])) _
    refine XS.aloadN X1.here hx rfl (hb hby own_d_jdk_42_method_151_5) rfl rfl ?_
    show Steps p.tables e below (T1.setTop (mkF m 6 #[.val (.ref a1), .val (.ref a2), .val (.int p3)] [(.ref a2), (.ref a1)])) _
    refine st2 _ ?_
    show Steps p.tables e below (T2.setTop (mkF m 9 #[.val (.ref a1), .val (.ref a2), .val (.int p3)] [])) _
    refine XS.aloadN X2.here hx rfl (hb hby own_d_jdk_42_method_151_9) rfl rfl ?_
    show Steps p.tables e below (T2.setTop (mkF m 10 #[.val (.ref a1), .val (.ref a2), .val (.int p3)] [(.ref a1)])) _
    refine XS.iloadN X2.here hx rfl (hb hby own_d_jdk_42_method_151_10) rfl ?_
    show Steps p.tables e below (T2.setTop (mkF m 11 #[.val (.ref a1), .val (.ref a2), .val (.int p3)] [(.int p3), (.ref a1)])) _
    refine st7 _ ?_
    show Steps p.tables e below (T7.setTop (mkF m 14 #[.val (.ref a1), .val (.ref a2), .val (.int p3)] [])) _
    exact X7.returnOut hx Bd.returns (hb hby own_d_jdk_42_method_151_14) hr
  · show own_Qrm_sbb Z G1 a1 a2 p3 u4 u5 h0 n0 _ T7.heap _
    rw [e7]
    exact ⟨rfl, N7, Kp8, Eh10, Fh11, Fh9⟩
theorem own_d_jdk_42_method_139_0 : decode jdk_42_method_139_code 0 = .ok (.getstatic 38, 3) := by decide +kernel
theorem own_d_jdk_42_method_139_3 : decode jdk_42_method_139_code 3 = .ok (.ifCond .eq 23, 3) := by decide +kernel
theorem own_d_jdk_42_method_139_6 : decode jdk_42_method_139_code 6 = .ok (.iload_n 0, 1) := by decide +kernel
theorem own_d_jdk_42_method_139_7 : decode jdk_42_method_139_code 7 = .ok (.invokestatic 1015, 3) := by decide +kernel
theorem own_pd2 : parseMethodDescriptor "(C)Z" = some ⟨[.char], some .boolean⟩ := by decide +kernel
theorem own_d_jdk_42_method_139_10 : decode jdk_42_method_139_code 10 = .ok (.ifCond .eq 16, 3) := by decide +kernel
theorem own_d_jdk_42_method_139_13 : decode jdk_42_method_139_code 13 = .ok (.new 10, 3) := by decide +kernel
theorem own_d_jdk_42_method_139_16 : decode jdk_42_method_139_code 16 = .ok (.dup, 1) := by decide +kernel
theorem own_d_jdk_42_method_139_17 : decode jdk_42_method_139_code 17 = .ok (.iload_n 0, 1) := by decide +kernel
theorem own_d_jdk_42_method_139_18 : decode jdk_42_method_139_code 18 = .ok (.invokestatic 1018, 3) := by decide +kernel
theorem own_pd3 : parseMethodDescriptor "(C)[B" = some ⟨[.char], some (.array .byte)⟩ := by decide +kernel
theorem own_d_jdk_42_method_139_21 : decode jdk_42_method_139_code 21 = .ok (.iconst 0, 1) := by decide +kernel
theorem own_d_jdk_42_method_139_22 : decode jdk_42_method_139_code 22 = .ok (.invokespecial 209, 3) := by decide +kernel
theorem own_pd4 : parseMethodDescriptor "([BB)V" = some ⟨[(.array .byte), .byte], none⟩ := by decide +kernel
theorem own_d_jdk_42_method_139_25 : decode jdk_42_method_139_code 25 = .ok (.areturn, 1) := by decide +kernel
def own_Qrm_val (Z : State) (G1 : Int32) (p1 : Int32) (h0 : Heap) (n0 : Nat) (v : Option Value) (h : Heap) (L : List Loc) : Prop := ∃ (b3 : Addr), ∃ (b1_5 : Addr), ∃ (k1_5 : ClassId), (v = some (.ref b3)) ∧ (Fr n0 L) ∧ (Keep h0 h []) ∧ (h0.size ≤ b3) ∧ (Exa Z h b3 "java/lang/String") ∧ (Fld Z h b3 "java/lang/String" "value" "[B" (.ref b1_5)) ∧ (Fld Z h b3 "java/lang/String" "coder" "B" (.int (0 : Int32))) ∧ (h0.size ≤ b1_5) ∧ (Arv Z h b1_5 k1_5 .byte (1 : Int32) [(.int (nar .byte (p1.toInt8.toInt32)))] (.int (0 : Int32)))
theorem own_efrm_val (m : MethodId) (p1 : Int32) : entryFrame m #[(.int p1)] 1 = mkF m 0 #[.val (.int p1)] [] := by first | (simp [entryFrame, mkF, argsToLocals, Value.category]; done) | rfl
set_option maxRecDepth 65536 in
set_option maxHeartbeats 40000000 in
theorem own_rm_val (l : Launch) (Z : State) (a0 : Array Value) (hw : ∀ d ∈ tables_1, d.before a0 Z = true) (ws : List Jvm.Cond) (G1 : Int32) (gl : own_Glob Z G1) (p1 : Int32) (h0 : Heap) (n0 : Nat) (Z0 : n0 ≤ h0.size) (X00 : Old Z n0 h0) (hc1 : ¬ ((255 : Int32) < p1)) :
    MetFree l (⟨"java/lang/String", "valueOf", "(C)Ljava/lang/String;"⟩ : MethodName) (head1 (Jvm.Cond.code (⟨"java/lang/String", "valueOf", "(C)Ljava/lang/String;"⟩ : MethodName) jdk_42_method_139_code 1 (some (.object "java/lang/String")) :: ws) ({ frames := 2, cells := 2, slots := 5, locals := 27 } : Room)) (fun a U => a = #[(.int p1)] ∧ Z.Warmed39 U.vm ∧ U.heap = h0) (fun _ _ _ _ _ => True) (fun _ U o U' => ∃ v L, o = .returned v ∧ own_Qrm_val Z G1 p1 h0 n0 v U'.heap L ∧ FrameEnd U o U' L ({ frames := 2, cells := 2, slots := 5, locals := 27 } : Room).cells ({ frames := 2, cells := 2, slots := 5, locals := 27 } : Room).slots) := by
  refine MetFree.of_bodySF (plainFor_of_name own_pn1) hisR ?_
  intro p e s m args below meth c s₁ Bd hml0 hP hK
  obtain ⟨rfl, hZ, hh⟩ := hP
  obtain ⟨O_CS, P_CS⟩ := id gl
  have hx := Bd.exec
  have hby := Bd.bytes
  have hml : c.maxLocals = 1 := hml0
  have hown : s.vm.findClass "java/lang/String" = some m.cls := findClass_of_methodNamed Bd.named
  have hnm := (name_of_methodNamed Bd.named Bd.method).1
  have X0 : Stand p l e ({ frames := 2, cells := 2, slots := 5, locals := 27 } : Room) s m #[(.int p1)] below meth c s₁ [] 0 0 := Stand.of_body Bd
  have e0 : s₁.heap = h0 := by rw [← hh, Bd.state]; rfl
  have N0 := Fr.nil n0
  have pre0 : ∀ t, Steps p.tables e below (s₁.setTop (mkF m 0 #[.val (.int p1)] [])) t → Steps p.tables e below (s₁.setTop (entryFrame m #[(.int p1)] 1)) t := fun t k => castTop (own_efrm_val m p1) k
  obtain ⟨T1, X1, e1, st1⟩ := getS2 X0 hx hZ hown (host := "") (Or.inl (hw _ (List.mem_of_getElem? (i := 19) rfl))) Via.refl e0 (O_CS.ext X00.2) (g := (mkF m 0 #[.val (.int p1)] [])) rfl (hb hby own_d_jdk_42_method_139_0)
  obtain ⟨_, _, ⟨T2, L2, k2, n2⟩, -, X2, ⟨Lc2, hQ2, l2, y2, z2⟩, st2⟩ := Jvm.LawKit.callS X1 hx (y := (⟨"java/lang/StringLatin1", "canEncode", "(C)Z"⟩ : MethodName)) hown (mvT hZ (hw _ (List.mem_of_getElem? (i := 38) rfl))) (mvT hZ (hw _ (List.mem_of_getElem? (i := 39) rfl))) (mvT hZ (hw _ (List.mem_of_getElem? (i := 40) rfl))) (mvT hZ (hw _ (List.mem_of_getElem? (i := 41) rfl))) (by decide) (backOf (W := 0) (own_rm_can l Z a0 hw [] G1 gl p1 h0 n0 Z0 hc1) hZ (hw _ (List.mem_of_getElem? (i := 41) rfl)) (hw _ (List.mem_of_getElem? (i := 40) rfl)) (by decide) (by decide)) (g := (mkF m 7 #[.val (.int p1)] [(.int p1)])) rfl (by rw [hml]; rfl) (argsL := [(.int p1)]) (rest := []) (lenOf own_pd2 rfl) rfl (by show 2 * 0 + _ ≤ _; exact Nat.le_of_eq rfl) (hb hby own_d_jdk_42_method_139_7) (fun _ _ => ⟨rfl, e1, (by decide : 0 + 0 ≤ _), (by decide : 0 + 0 ≤ _)⟩)
  dsimp only [Pt.U, Pt.locs, Pt.cells, Pt.slots] at X2 l2 y2 z2 st2 hQ2
  subst y2 z2
  obtain ⟨rfl, Nq2, e2⟩ := hQ2
  have N2 : Fr n0 L2 := by rw [l2]; exact Fr.app N0 Nq2
  obtain ⟨T3, h3, X3, e3, E3, A3, D3, U3, st3⟩ := newO X2 hx hZ hown (hw _ (List.mem_of_getElem? (i := 42) rfl)) (hw _ (List.mem_of_getElem? (i := 7) rfl)) (hw _ (List.mem_of_getElem? (i := 8) rfl)) e2 (g := (mkF m 13 #[.val (.int p1)] [])) rfl (hb hby own_d_jdk_42_method_139_13) (by decide) (by decide)
  obtain ⟨b3, g3⟩ : ∃ z, z = h0.size := ⟨_, rfl⟩
  rw [← g3] at A3 D3 U3 st3
  have Kp4 : Keep h0 h3 [] := (Keep.refl h0 []).ext E3
  obtain ⟨_, _, ⟨T5, L5, k5, n5⟩, -, X5, ⟨Lc5, hQ5, l5, y5, z5⟩, st5⟩ := Jvm.LawKit.callS X3 hx (y := (⟨"java/lang/StringLatin1", "toBytes", "(C)[B"⟩ : MethodName)) hown (mvT hZ (hw _ (List.mem_of_getElem? (i := 43) rfl))) (mvT hZ (hw _ (List.mem_of_getElem? (i := 44) rfl))) (mvT hZ (hw _ (List.mem_of_getElem? (i := 40) rfl))) (mvT hZ (hw _ (List.mem_of_getElem? (i := 45) rfl))) (by decide) (backOf (W := 2) (own_rm_tob l Z a0 hw [] G1 gl p1 h3 n0 (Nat.le_trans Z0 Kp4.1) ) hZ (hw _ (List.mem_of_getElem? (i := 45) rfl)) (hw _ (List.mem_of_getElem? (i := 40) rfl)) (by decide) (by decide)) (g := (mkF m 18 #[.val (.int p1)] [(.int p1), (.ref b3), (.ref b3)])) rfl (by rw [hml]; rfl) (argsL := [(.int p1)]) (rest := [(.ref b3), (.ref b3)]) (lenOf own_pd3 rfl) rfl (by show 2 * 0 + _ ≤ _; exact Nat.le_of_eq rfl) (hb hby own_d_jdk_42_method_139_18) (fun _ _ => ⟨rfl, e3, (by decide : 1 + 1 ≤ _), (by decide : 4 + 1 ≤ _)⟩)
  dsimp only [Pt.U, Pt.locs, Pt.cells, Pt.slots] at X5 l5 y5 z5 st5 hQ5
  subst y5 z5
  obtain ⟨b1_5, k1_5, rfl, Nq5, Kq5, f5_0, f5_1⟩ := hQ5
  have N5 : Fr n0 L5 := by rw [l5]; exact Fr.app N2 Nq5
  have Kp6 : Keep h0 T5.heap [] := Kp4.trans Kq5 all0
  have Eh7 : Exa Z T5.heap b3 "java/lang/String" := (A3.keep Kq5)
  have Fh8 : Fld Z h3 b3 "java/lang/String" "value" "[B" .null := (D3 (Or.inr (hw _ (List.mem_of_getElem? (i := 34) rfl))) (ty := (.array .byte)) (by decide))
  have Fh9 : Fld Z T5.heap b3 "java/lang/String" "value" "[B" .null := (Fh8.keep Kq5 nin0)
  have gh10 : n0 ≤ b3 := Nat.le_trans Z0 (Nat.le_of_eq g3.symm)
  have Fh11 : Fld Z h3 b3 "java/lang/String" "coder" "B" (.int (0 : Int32)) := (D3 (Or.inr (hw _ (List.mem_of_getElem? (i := 32) rfl))) (ty := .byte) (by decide))
  have Fh12 : Fld Z T5.heap b3 "java/lang/String" "coder" "B" (.int (0 : Int32)) := (Fh11.keep Kq5 nin0)
  obtain ⟨_, _, ⟨T13, L13, k13, n13⟩, -, X13, ⟨Lc13, hQ13, l13, y13, z13⟩, st13⟩ := X5.specialBack hx (y := (⟨"java/lang/String", "<init>", "([BB)V"⟩ : MethodName)) rfl hown (mvT hZ (hw _ (List.mem_of_getElem? (i := 46) rfl))) (mvT hZ (hw _ (List.mem_of_getElem? (i := 47) rfl))) (mvT hZ (hw _ (List.mem_of_getElem? (i := 48) rfl))) (by decide) (backOf (W := 1) (own_rm_sbb l Z a0 hw [] G1 gl b3 b1_5 (0 : Int32) (.null) ((.int (0 : Int32))) T5.heap n0 (Nat.le_trans Z0 Kp6.1) Eh7 Fh9 gh10 Fh12) hZ (hw _ (List.mem_of_getElem? (i := 48) rfl)) (hw _ (List.mem_of_getElem? (i := 8) rfl)) (by decide) (by decide)) (g := (mkF m 22 #[.val (.int p1)] [(.int (0 : Int32)), (.ref b1_5), (.ref b3), (.ref b3)])) rfl (by rw [hml]; rfl) (Steps.refl _) (a := b3) (argsL := [(.ref b1_5), (.int (0 : Int32))]) (rest := [(.ref b3)]) (lenOf own_pd4 rfl) rfl (by show 2 * 0 + _ ≤ _; exact Nat.le_of_eq rfl) (hb hby own_d_jdk_42_method_139_22) (fun _ _ => ⟨rfl, rfl, (by decide : 2 + 0 ≤ _), (by decide : 5 + 0 ≤ _)⟩)
  dsimp only [Pt.U, Pt.locs, Pt.cells, Pt.slots] at X13 l13 y13 z13 st13 hQ13
  subst y13 z13
  obtain ⟨rfl, Nq13, Kq13, f13_0, f13_1, f13_2⟩ := hQ13
  have N13 : Fr n0 L13 := by rw [l13]; exact Fr.app N5 Nq13
  have Kp14 : Keep h0 T13.heap [] := Kp6.trans Kq13 (allS (Or.inr (Nat.le_trans (Keep.refl h0 []).1 (Nat.le_of_eq g3.symm))) all0)
  have Vh15 : Arv Z T13.heap b1_5 k1_5 .byte (1 : Int32) [(.int (nar .byte (p1.toInt8.toInt32)))] (.int (0 : Int32)) := (f5_1.keep Kq13 (ninS (Ne.symm (Nat.ne_of_lt (Nat.lt_of_lt_of_le A3.lt f5_0))) nin0))
  obtain ⟨fs, hr, hrun, hended, hW, hsame⟩ := X13.leave (v := some (.ref b3)) (fun h => by rw [Bd.returns] at h; cases h)
  refine ⟨_, _, pre0 _ ?_, hrun, hended, _, _, rfl, ?_, ⟨_, rfl⟩, hW, hsame.mono (by decide) (by decide)⟩
  · show Steps p.tables e below (s₁.setTop (mkF m 0 #[.val (.int p1)] [])) _
    refine st1 _ ?_
    show Steps p.tables e below (T1.setTop (mkF m 3 #[.val (.int p1)] [(.int G1)])) _
    refine XS.ifNo X1.here hx rfl (hb hby own_d_jdk_42_method_139_3) rfl ((if0 _ _).trans (feq (P_CS : ¬ (G1 = (0 : Int32)))).1) ?_
    show Steps p.tables e below (T1.setTop (mkF m 6 #[.val (.int p1)] [])) _
    refine XS.iloadN X1.here hx rfl (hb hby own_d_jdk_42_method_139_6) rfl ?_
    show Steps p.tables e below (T1.setTop (mkF m 7 #[.val (.int p1)] [(.int p1)])) _
    refine st2 _ ?_
    show Steps p.tables e below (T2.setTop (mkF m 10 #[.val (.int p1)] [(.int (1 : Int32))])) _
    refine XS.ifNo X2.here hx rfl (hb hby own_d_jdk_42_method_139_10) rfl ((if0 _ _).trans (feq (by decide : ¬ ((1 : Int32) = (0 : Int32)))).1) ?_
    show Steps p.tables e below (T2.setTop (mkF m 13 #[.val (.int p1)] [])) _
    refine st3 _ ?_
    show Steps p.tables e below (T3.setTop (mkF m 16 #[.val (.int p1)] [(.ref b3)])) _
    refine XS.dup X3.here hx rfl (hb hby own_d_jdk_42_method_139_16) rfl rfl ?_
    show Steps p.tables e below (T3.setTop (mkF m 17 #[.val (.int p1)] [(.ref b3), (.ref b3)])) _
    refine XS.iloadN X3.here hx rfl (hb hby own_d_jdk_42_method_139_17) rfl ?_
    show Steps p.tables e below (T3.setTop (mkF m 18 #[.val (.int p1)] [(.int p1), (.ref b3), (.ref b3)])) _
    refine st5 _ ?_
    show Steps p.tables e below (T5.setTop (mkF m 21 #[.val (.int p1)] [(.ref b1_5), (.ref b3), (.ref b3)])) _
    refine XS.iconst X5.here hx rfl (hb hby own_d_jdk_42_method_139_21) ?_
    show Steps p.tables e below (T5.setTop (mkF m 22 #[.val (.int p1)] [(.int (0 : Int32)), (.ref b1_5), (.ref b3), (.ref b3)])) _
    refine st13.trans ?_
    show Steps p.tables e below (T13.setTop (mkF m 25 #[.val (.int p1)] [(.ref b3)])) _
    jvm_step X13.here [X13.here.top, hx, (hb hby own_d_jdk_42_method_139_25), X13.method', Bd.returns, Value.isRef, FieldType.isReference]
    first | (intro acts; rw [hr _ acts rfl rfl rfl]) | rw [hr _ _ rfl rfl rfl]
    exact Steps.refl _
  · show own_Qrm_val Z G1 p1 h0 n0 _ T13.heap _
    exact ⟨b3, b1_5, k1_5, rfl, N13, Kp14, (Nat.le_trans (Keep.refl h0 []).1 (Nat.le_of_eq g3.symm)), f13_0, f13_1, f13_2, (Nat.le_trans Kp4.1 f5_0), Vh15⟩
theorem own_d_method_2_0 : decode method_2_code 0 = .ok (.iconst 2, 1) := by decide +kernel
theorem own_d_method_2_1 : decode method_2_code 1 = .ok (.newarray .char, 2) := by decide +kernel
theorem own_d_method_2_3 : decode method_2_code 3 = .ok (.dup, 1) := by decide +kernel
theorem own_d_method_2_4 : decode method_2_code 4 = .ok (.iconst 0, 1) := by decide +kernel
theorem own_d_method_2_5 : decode method_2_code 5 = .ok (.iload_n 0, 1) := by decide +kernel
theorem own_d_method_2_6 : decode method_2_code 6 = .ok (.castore, 1) := by decide +kernel
theorem own_d_method_2_7 : decode method_2_code 7 = .ok (.dup, 1) := by decide +kernel
theorem own_d_method_2_8 : decode method_2_code 8 = .ok (.iconst 1, 1) := by decide +kernel
theorem own_d_method_2_9 : decode method_2_code 9 = .ok (.iload_n 1, 1) := by decide +kernel
theorem own_d_method_2_10 : decode method_2_code 10 = .ok (.sipush 255, 3) := by decide +kernel
theorem own_d_method_2_13 : decode method_2_code 13 = .ok (.iand, 1) := by decide +kernel
theorem own_d_method_2_14 : decode method_2_code 14 = .ok (.i2c, 1) := by decide +kernel
theorem own_d_method_2_15 : decode method_2_code 15 = .ok (.castore, 1) := by decide +kernel
theorem own_d_method_2_16 : decode method_2_code 16 = .ok (.astore_n 2, 1) := by decide +kernel
theorem own_d_method_2_17 : decode method_2_code 17 = .ok (.new 7, 3) := by decide +kernel
theorem own_d_method_2_20 : decode method_2_code 20 = .ok (.dup, 1) := by decide +kernel
theorem own_d_method_2_21 : decode method_2_code 21 = .ok (.aload_n 2, 1) := by decide +kernel
theorem own_d_method_2_22 : decode method_2_code 22 = .ok (.invokespecial 9, 3) := by decide +kernel
theorem own_pd5 : parseMethodDescriptor "([C)V" = some ⟨[(.array .char)], none⟩ := by decide +kernel
theorem own_d_method_2_25 : decode method_2_code 25 = .ok (.areturn, 1) := by decide +kernel
theorem own_pn6 : plainName "com/example/dagsverke/dagsverke/CommandLineValuePinLaw" = true := by first | (simp [plainName, overriddenIn]; done) | decide +kernel
def own_Qrm_str97 (Z : State) (G1 : Int32) (p1 : Int32) (h0 : Heap) (n0 : Nat) (v : Option Value) (h : Heap) (L : List Loc) : Prop := ∃ (b13 : Addr), ∃ (t25 : Addr), ∃ (kb25 : ClassId), (v = some (.ref b13)) ∧ (Fr n0 L) ∧ (Keep h0 h []) ∧ (h0.size ≤ b13) ∧ (Exa Z h b13 "java/lang/String") ∧ (Fld Z h b13 "java/lang/String" "value" "[B" (.ref t25)) ∧ (Fld Z h b13 "java/lang/String" "coder" "B" (.int (0 : Int32))) ∧ (h0.size ≤ t25) ∧ (Arv Z h t25 kb25 .byte (2 : Int32) ((([(97 : Int32), (own_ch p1)] : List Int32).map (fun c => c.toInt8.toInt32)).map Value.int) (.int (0 : Int32))) ∧ (∀ c ∈ ([(97 : Int32), (own_ch p1)] : List Int32), ¬ c < 0 ∧ ¬ (255 : Int32) < c)
theorem own_efrm_str97 (m : MethodId) (p1 : Int32) : entryFrame m #[(.int (97 : Int32)), (.int p1)] 3 = mkF m 0 #[.val (.int (97 : Int32)), .val (.int p1), .unset] [] := by first | (simp [entryFrame, mkF, argsToLocals, Value.category]; done) | rfl
set_option maxRecDepth 65536 in
set_option maxHeartbeats 40000000 in
theorem own_rm_str97 (l : Launch) (Z : State) (a0 : Array Value) (hw : ∀ d ∈ tables_1, d.before a0 Z = true) (ws : List Jvm.Cond) (G1 : Int32) (gl : own_Glob Z G1) (p1 : Int32) (h0 : Heap) (n0 : Nat) (Z0 : n0 ≤ h0.size) (X00 : Old Z n0 h0) :
    MetFree l (⟨"com/example/dagsverke/dagsverke/CommandLineValuePinLaw", "str", "(CI)Ljava/lang/String;"⟩ : MethodName) (head1 (Jvm.Cond.code (⟨"com/example/dagsverke/dagsverke/CommandLineValuePinLaw", "str", "(CI)Ljava/lang/String;"⟩ : MethodName) method_2_code 3 (some (.object "java/lang/String")) :: ws) ({ frames := 4, cells := 3, slots := 8, locals := 66 } : Room)) (fun a U => a = #[(.int (97 : Int32)), (.int p1)] ∧ Z.Warmed39 U.vm ∧ U.heap = h0) (fun _ _ _ _ _ => True) (fun _ U o U' => ∃ v L, o = .returned v ∧ own_Qrm_str97 Z G1 p1 h0 n0 v U'.heap L ∧ FrameEnd U o U' L ({ frames := 4, cells := 3, slots := 8, locals := 66 } : Room).cells ({ frames := 4, cells := 3, slots := 8, locals := 66 } : Room).slots) := by
  refine MetFree.of_bodySF (plainFor_of_name own_pn6) hisR ?_
  intro p e s m args below meth c s₁ Bd hml0 hP hK
  obtain ⟨rfl, hZ, hh⟩ := hP
  obtain ⟨O_CS, P_CS⟩ := id gl
  have hx := Bd.exec
  have hby := Bd.bytes
  have hml : c.maxLocals = 3 := hml0
  have hown : s.vm.findClass "com/example/dagsverke/dagsverke/CommandLineValuePinLaw" = some m.cls := findClass_of_methodNamed Bd.named
  have hnm := (name_of_methodNamed Bd.named Bd.method).1
  have X0 : Stand p l e ({ frames := 4, cells := 3, slots := 8, locals := 66 } : Room) s m #[(.int (97 : Int32)), (.int p1)] below meth c s₁ [] 0 0 := Stand.of_body Bd
  have e0 : s₁.heap = h0 := by rw [← hh, Bd.state]; rfl
  have N0 := Fr.nil n0
  have pre0 : ∀ t, Steps p.tables e below (s₁.setTop (mkF m 0 #[.val (.int (97 : Int32)), .val (.int p1), .unset] [])) t → Steps p.tables e below (s₁.setTop (entryFrame m #[(.int (97 : Int32)), (.int p1)] 3)) t := fun t k => castTop (own_efrm_str97 m p1) k
  obtain ⟨T1, h1, k1, X1, e1, E1, A1, st1⟩ := newP X0 hx hZ (hw _ (List.mem_of_getElem? (i := 5) rfl)) e0 (g := (mkF m 1 #[.val (.int (97 : Int32)), .val (.int p1), .unset] [(.int (2 : Int32))])) rfl (hb hby own_d_method_2_1) rfl (by decide) (cap := 2) (by decide) (by decide) (by decide) (by decide)
  obtain ⟨b1, g1⟩ : ∃ z, z = h0.size := ⟨_, rfl⟩
  rw [← g1] at A1 st1
  have Kp2 : Keep h0 h1 [] := (Keep.refl h0 []).ext E1
  have Vh3 : Arv Z h1 b1 k1 .char (2 : Int32) [(.int (0 : Int32)), (.int (0 : Int32))] (.int (0 : Int32)) := (Arv.new A1 (by decide)).pad (pad_rep [] (.int (0 : Int32)) 2)
  obtain ⟨cl4, Ar4, qc4, Sz4, Ng4, Hs4, Gs4⟩ := id Vh3
  have hin4 : ¬ ((0 : Int32) < 0 ∨ cl4.slots.size ≤ ((0 : Int32)).toNatClampNeg) := inb_of Sz4 ⟨(by decide), (by decide)⟩
  obtain ⟨T5, h5, X5, e5, W5, st5⟩ := stC X1 hx hZ e1 Ar4 (j := (0 : Int32)) hin4 (g := (mkF m 6 #[.val (.int (97 : Int32)), .val (.int p1), .unset] [(.int (97 : Int32)), (.int (0 : Int32)), (.ref b1), (.ref b1)])) rfl rfl (hb hby own_d_method_2_6)
  have Kp6 : Keep h0 h5 [] := Kp2.wr W5 (Or.inr (Nat.le_trans (Keep.refl h0 []).1 (Nat.le_of_eq g1.symm)))
  have gh7 : n0 ≤ b1 := Nat.le_trans Z0 (Nat.le_of_eq g1.symm)
  obtain ⟨Lp5, X5, N5⟩ := own_pack X5 (Fr.snoc X5 N0 gh7)
  have Vh8 : Arv Z h5 b1 k1 .char (2 : Int32) [(.int (97 : Int32)), (.int (0 : Int32))] (.int (0 : Int32)) := (Arv.set Ar4 qc4 Sz4 Ng4 Hs4 Gs4 rfl W5 0 rfl (Nat.le_of_ble_eq_true rfl))
  obtain ⟨cl9, Ar9, qc9, Sz9, Ng9, Hs9, Gs9⟩ := id Vh8
  have hin9 : ¬ ((1 : Int32) < 0 ∨ cl9.slots.size ≤ ((1 : Int32)).toNatClampNeg) := inb_of Sz9 ⟨(by decide), (by decide)⟩
  obtain ⟨T10, h10, X10, e10, W10, st10⟩ := stC X5 hx hZ e5 Ar9 (j := (1 : Int32)) hin9 (g := (mkF m 15 #[.val (.int (97 : Int32)), .val (.int p1), .unset] [(.int ((p1 &&& (255 : Int32)).toUInt32.toUInt16.toUInt32.toInt32)), (.int (1 : Int32)), (.ref b1), (.ref b1)])) rfl rfl (hb hby own_d_method_2_15)
  have Kp11 : Keep h0 h10 [] := Kp6.wr W10 (Or.inr (Nat.le_trans (Keep.refl h0 []).1 (Nat.le_of_eq g1.symm)))
  obtain ⟨Lp10, X10, N10⟩ := own_pack X10 (Fr.snoc X10 N5 gh7)
  have Vh12 : Arv Z h10 b1 k1 .char (2 : Int32) [(.int (97 : Int32)), (.int (own_ch p1))] (.int (0 : Int32)) := (Arv.set Ar9 qc9 Sz9 Ng9 Hs9 Gs9 (fits_nar_char _) W10 1 rfl (Nat.le_of_ble_eq_true rfl))
  obtain ⟨T13, h13, X13, e13, E13, A13, D13, U13, st13⟩ := newO X10 hx hZ hown (hw _ (List.mem_of_getElem? (i := 6) rfl)) (hw _ (List.mem_of_getElem? (i := 7) rfl)) (hw _ (List.mem_of_getElem? (i := 8) rfl)) e10 (g := (mkF m 17 #[.val (.int (97 : Int32)), .val (.int p1), .val (.ref b1)] [])) rfl (hb hby own_d_method_2_17) (by decide) (by decide)
  obtain ⟨b13, g13⟩ : ∃ z, z = h10.size := ⟨_, rfl⟩
  rw [← g13] at A13 D13 U13 st13
  have Kp14 : Keep h0 h13 [] := Kp11.ext E13
  have Fh15 : Fld Z h13 b13 "java/lang/String" "value" "[B" .null := (D13 (Or.inr (hw _ (List.mem_of_getElem? (i := 34) rfl))) (ty := (.array .byte)) (by decide))
  have Fh16 : Fld Z h13 b13 "java/lang/String" "coder" "B" (.int (0 : Int32)) := (D13 (Or.inr (hw _ (List.mem_of_getElem? (i := 32) rfl))) (ty := .byte) (by decide))
  have Vh17 : Arv Z h13 b1 k1 .char (2 : Int32) [(.int (97 : Int32)), (.int (own_ch p1))] (.int (0 : Int32)) := (Vh12.ext E13)
  have hph18 : ∀ c ∈ ([(97 : Int32), (own_ch p1)] : List Int32), ¬ c < 0 ∧ ¬ (255 : Int32) < c := (own_cS (by decide) (own_cS (own_rng_ch p1) own_c0))
  have hws_words : ∀ d ∈ StrChars.Road.words, d.before a0 Z = true := fun d hd => hw d (own_hws_words d hd)
  have Zh19 : n0 ≤ h13.size := (Nat.le_trans Z0 Kp14.1)
  have gh20 : n0 ≤ b13 := Nat.le_trans (Nat.le_trans Z0 Kp11.1) (Nat.le_of_eq g13.symm)
  have Old21 : Old Z n0 h1 := X00.ext E1
  have Old22 : Old Z n0 h5 := Old21.wr W5 gh7
  have Old23 : Old Z n0 h10 := Old22.wr W10 gh7
  have Old24 : Old Z n0 h13 := Old23.ext E13
  obtain ⟨_, _, ⟨T25, L25, k25, n25⟩, -, X25, ⟨Lc25, hQ25, l25, y25, z25⟩, st25⟩ := X13.specialBack hx (y := (⟨"java/lang/String", "<init>", "([C)V"⟩ : MethodName)) rfl hown (mvT hZ (hw _ (List.mem_of_getElem? (i := 9) rfl))) (mvT hZ (hw _ (List.mem_of_getElem? (i := 10) rfl))) (mvT hZ (hw _ (List.mem_of_getElem? (i := 11) rfl))) (by decide) (StrChars.Road.backV (W := 1) hZ hws_words (kI := 4) (hw _ (List.mem_of_getElem? (i := 7) rfl)) (cs := ([(97 : Int32), (own_ch p1)] : List Int32)) (bs := ([(97 : Int32), (own_ch p1)] : List Int32).map (fun c => c.toInt8.toInt32)) (n := 2) gh20 Zh19 A13 Fh15 Fh16 Vh17 (O_CS.ext Old24.2) P_CS rfl rfl (by decide) (by decide) hph18 rfl (by decide) (by decide)) (g := (mkF m 22 #[.val (.int (97 : Int32)), .val (.int p1), .val (.ref b1)] [(.ref b1), (.ref b13), (.ref b13)])) rfl (by rw [hml]; rfl) (Steps.refl _) (a := b13) (argsL := [(.ref b1)]) (rest := [(.ref b13)]) (lenOf own_pd5 rfl) rfl (by show 2 * 0 + _ ≤ _; exact Nat.le_of_eq rfl) (hb hby own_d_method_2_22) (fun _ _ => ⟨rfl, e13, (by decide : 2 + 1 ≤ _), (by decide : 6 + 2 ≤ _)⟩)
  dsimp only [Pt.U, Pt.locs, Pt.cells, Pt.slots] at X25 l25 y25 z25 st25 hQ25
  subst y25 z25
  obtain ⟨rfl, Nq25, Kq25, Eq25, Cq25, t25, kb25, gt25, szt25, nt25, Vq25, Bq25⟩ := hQ25
  have N25 : Fr n0 L25 := by rw [l25]; exact Fr.app N10 Nq25
  have Kp26 : Keep h0 T25.heap [] := Kp14.trans Kq25 (allS (Or.inr (Nat.le_trans Kp11.1 (Nat.le_of_eq g13.symm))) all0)
  obtain ⟨fs, hr, hrun, hended, hW, hsame⟩ := X25.leave (v := some (.ref b13)) (fun h => by rw [Bd.returns] at h; cases h)
  refine ⟨_, _, pre0 _ ?_, hrun, hended, _, _, rfl, ?_, ⟨_, rfl⟩, hW, hsame.mono (by decide) (by decide)⟩
  · show Steps p.tables e below (s₁.setTop (mkF m 0 #[.val (.int (97 : Int32)), .val (.int p1), .unset] [])) _
    refine XS.iconst X0.here hx rfl (hb hby own_d_method_2_0) ?_
    show Steps p.tables e below (s₁.setTop (mkF m 1 #[.val (.int (97 : Int32)), .val (.int p1), .unset] [(.int (2 : Int32))])) _
    refine st1 _ ?_
    show Steps p.tables e below (T1.setTop (mkF m 3 #[.val (.int (97 : Int32)), .val (.int p1), .unset] [(.ref b1)])) _
    refine XS.dup X1.here hx rfl (hb hby own_d_method_2_3) rfl rfl ?_
    show Steps p.tables e below (T1.setTop (mkF m 4 #[.val (.int (97 : Int32)), .val (.int p1), .unset] [(.ref b1), (.ref b1)])) _
    refine XS.iconst X1.here hx rfl (hb hby own_d_method_2_4) ?_
    show Steps p.tables e below (T1.setTop (mkF m 5 #[.val (.int (97 : Int32)), .val (.int p1), .unset] [(.int (0 : Int32)), (.ref b1), (.ref b1)])) _
    refine XS.iloadN X1.here hx rfl (hb hby own_d_method_2_5) rfl ?_
    show Steps p.tables e below (T1.setTop (mkF m 6 #[.val (.int (97 : Int32)), .val (.int p1), .unset] [(.int (97 : Int32)), (.int (0 : Int32)), (.ref b1), (.ref b1)])) _
    refine st5 _ ?_
    show Steps p.tables e below (T5.setTop (mkF m 7 #[.val (.int (97 : Int32)), .val (.int p1), .unset] [(.ref b1)])) _
    refine XS.dup X5.here hx rfl (hb hby own_d_method_2_7) rfl rfl ?_
    show Steps p.tables e below (T5.setTop (mkF m 8 #[.val (.int (97 : Int32)), .val (.int p1), .unset] [(.ref b1), (.ref b1)])) _
    refine XS.iconst X5.here hx rfl (hb hby own_d_method_2_8) ?_
    show Steps p.tables e below (T5.setTop (mkF m 9 #[.val (.int (97 : Int32)), .val (.int p1), .unset] [(.int (1 : Int32)), (.ref b1), (.ref b1)])) _
    refine XS.iloadN X5.here hx rfl (hb hby own_d_method_2_9) rfl ?_
    show Steps p.tables e below (T5.setTop (mkF m 10 #[.val (.int (97 : Int32)), .val (.int p1), .unset] [(.int p1), (.int (1 : Int32)), (.ref b1), (.ref b1)])) _
    refine XS.sipush X5.here hx rfl (hb hby own_d_method_2_10) ?_
    show Steps p.tables e below (T5.setTop (mkF m 13 #[.val (.int (97 : Int32)), .val (.int p1), .unset] [(.int (255 : Int32)), (.int p1), (.int (1 : Int32)), (.ref b1), (.ref b1)])) _
    refine XS.iand X5.here hx rfl (hb hby own_d_method_2_13) rfl ?_
    show Steps p.tables e below (T5.setTop (mkF m 14 #[.val (.int (97 : Int32)), .val (.int p1), .unset] [(.int (p1 &&& (255 : Int32))), (.int (1 : Int32)), (.ref b1), (.ref b1)])) _
    refine XS.i2c X5.here hx rfl (hb hby own_d_method_2_14) rfl ?_
    show Steps p.tables e below (T5.setTop (mkF m 15 #[.val (.int (97 : Int32)), .val (.int p1), .unset] [(.int ((p1 &&& (255 : Int32)).toUInt32.toUInt16.toUInt32.toInt32)), (.int (1 : Int32)), (.ref b1), (.ref b1)])) _
    refine st10 _ ?_
    show Steps p.tables e below (T10.setTop (mkF m 16 #[.val (.int (97 : Int32)), .val (.int p1), .unset] [(.ref b1)])) _
    refine XS.astoreN X10.here hx rfl (hb hby own_d_method_2_16) rfl rfl (l' := #[.val (.int (97 : Int32)), .val (.int p1), .val (.ref b1)]) rfl ?_
    show Steps p.tables e below (T10.setTop (mkF m 17 #[.val (.int (97 : Int32)), .val (.int p1), .val (.ref b1)] [])) _
    refine st13 _ ?_
    show Steps p.tables e below (T13.setTop (mkF m 20 #[.val (.int (97 : Int32)), .val (.int p1), .val (.ref b1)] [(.ref b13)])) _
    refine XS.dup X13.here hx rfl (hb hby own_d_method_2_20) rfl rfl ?_
    show Steps p.tables e below (T13.setTop (mkF m 21 #[.val (.int (97 : Int32)), .val (.int p1), .val (.ref b1)] [(.ref b13), (.ref b13)])) _
    refine XS.aloadN X13.here hx rfl (hb hby own_d_method_2_21) rfl rfl ?_
    show Steps p.tables e below (T13.setTop (mkF m 22 #[.val (.int (97 : Int32)), .val (.int p1), .val (.ref b1)] [(.ref b1), (.ref b13), (.ref b13)])) _
    refine st25.trans ?_
    show Steps p.tables e below (T25.setTop (mkF m 25 #[.val (.int (97 : Int32)), .val (.int p1), .val (.ref b1)] [(.ref b13)])) _
    jvm_step X25.here [X25.here.top, hx, (hb hby own_d_method_2_25), X25.method', Bd.returns, Value.isRef, FieldType.isReference]
    first | (intro acts; rw [hr _ acts rfl rfl rfl]) | rw [hr _ _ rfl rfl rfl]
    exact Steps.refl _
  · show own_Qrm_str97 Z G1 p1 h0 n0 _ T25.heap _
    exact ⟨b13, t25, kb25, rfl, N25, Kp26, (Nat.le_trans Kp11.1 (Nat.le_of_eq g13.symm)), Eq25, Vq25, Cq25, (Nat.le_trans Kp14.1 szt25), Bq25, hph18⟩
def own_Qrm_str98 (Z : State) (G1 : Int32) (p1 : Int32) (h0 : Heap) (n0 : Nat) (v : Option Value) (h : Heap) (L : List Loc) : Prop := ∃ (b13 : Addr), ∃ (t25 : Addr), ∃ (kb25 : ClassId), (v = some (.ref b13)) ∧ (Fr n0 L) ∧ (Keep h0 h []) ∧ (h0.size ≤ b13) ∧ (Exa Z h b13 "java/lang/String") ∧ (Fld Z h b13 "java/lang/String" "value" "[B" (.ref t25)) ∧ (Fld Z h b13 "java/lang/String" "coder" "B" (.int (0 : Int32))) ∧ (h0.size ≤ t25) ∧ (Arv Z h t25 kb25 .byte (2 : Int32) ((([(98 : Int32), (own_ch p1)] : List Int32).map (fun c => c.toInt8.toInt32)).map Value.int) (.int (0 : Int32))) ∧ (∀ c ∈ ([(98 : Int32), (own_ch p1)] : List Int32), ¬ c < 0 ∧ ¬ (255 : Int32) < c)
theorem own_efrm_str98 (m : MethodId) (p1 : Int32) : entryFrame m #[(.int (98 : Int32)), (.int p1)] 3 = mkF m 0 #[.val (.int (98 : Int32)), .val (.int p1), .unset] [] := by first | (simp [entryFrame, mkF, argsToLocals, Value.category]; done) | rfl
set_option maxRecDepth 65536 in
set_option maxHeartbeats 40000000 in
theorem own_rm_str98 (l : Launch) (Z : State) (a0 : Array Value) (hw : ∀ d ∈ tables_1, d.before a0 Z = true) (ws : List Jvm.Cond) (G1 : Int32) (gl : own_Glob Z G1) (p1 : Int32) (h0 : Heap) (n0 : Nat) (Z0 : n0 ≤ h0.size) (X00 : Old Z n0 h0) :
    MetFree l (⟨"com/example/dagsverke/dagsverke/CommandLineValuePinLaw", "str", "(CI)Ljava/lang/String;"⟩ : MethodName) (head1 (Jvm.Cond.code (⟨"com/example/dagsverke/dagsverke/CommandLineValuePinLaw", "str", "(CI)Ljava/lang/String;"⟩ : MethodName) method_2_code 3 (some (.object "java/lang/String")) :: ws) ({ frames := 4, cells := 3, slots := 8, locals := 66 } : Room)) (fun a U => a = #[(.int (98 : Int32)), (.int p1)] ∧ Z.Warmed39 U.vm ∧ U.heap = h0) (fun _ _ _ _ _ => True) (fun _ U o U' => ∃ v L, o = .returned v ∧ own_Qrm_str98 Z G1 p1 h0 n0 v U'.heap L ∧ FrameEnd U o U' L ({ frames := 4, cells := 3, slots := 8, locals := 66 } : Room).cells ({ frames := 4, cells := 3, slots := 8, locals := 66 } : Room).slots) := by
  refine MetFree.of_bodySF (plainFor_of_name own_pn6) hisR ?_
  intro p e s m args below meth c s₁ Bd hml0 hP hK
  obtain ⟨rfl, hZ, hh⟩ := hP
  obtain ⟨O_CS, P_CS⟩ := id gl
  have hx := Bd.exec
  have hby := Bd.bytes
  have hml : c.maxLocals = 3 := hml0
  have hown : s.vm.findClass "com/example/dagsverke/dagsverke/CommandLineValuePinLaw" = some m.cls := findClass_of_methodNamed Bd.named
  have hnm := (name_of_methodNamed Bd.named Bd.method).1
  have X0 : Stand p l e ({ frames := 4, cells := 3, slots := 8, locals := 66 } : Room) s m #[(.int (98 : Int32)), (.int p1)] below meth c s₁ [] 0 0 := Stand.of_body Bd
  have e0 : s₁.heap = h0 := by rw [← hh, Bd.state]; rfl
  have N0 := Fr.nil n0
  have pre0 : ∀ t, Steps p.tables e below (s₁.setTop (mkF m 0 #[.val (.int (98 : Int32)), .val (.int p1), .unset] [])) t → Steps p.tables e below (s₁.setTop (entryFrame m #[(.int (98 : Int32)), (.int p1)] 3)) t := fun t k => castTop (own_efrm_str98 m p1) k
  obtain ⟨T1, h1, k1, X1, e1, E1, A1, st1⟩ := newP X0 hx hZ (hw _ (List.mem_of_getElem? (i := 5) rfl)) e0 (g := (mkF m 1 #[.val (.int (98 : Int32)), .val (.int p1), .unset] [(.int (2 : Int32))])) rfl (hb hby own_d_method_2_1) rfl (by decide) (cap := 2) (by decide) (by decide) (by decide) (by decide)
  obtain ⟨b1, g1⟩ : ∃ z, z = h0.size := ⟨_, rfl⟩
  rw [← g1] at A1 st1
  have Kp2 : Keep h0 h1 [] := (Keep.refl h0 []).ext E1
  have Vh3 : Arv Z h1 b1 k1 .char (2 : Int32) [(.int (0 : Int32)), (.int (0 : Int32))] (.int (0 : Int32)) := (Arv.new A1 (by decide)).pad (pad_rep [] (.int (0 : Int32)) 2)
  obtain ⟨cl4, Ar4, qc4, Sz4, Ng4, Hs4, Gs4⟩ := id Vh3
  have hin4 : ¬ ((0 : Int32) < 0 ∨ cl4.slots.size ≤ ((0 : Int32)).toNatClampNeg) := inb_of Sz4 ⟨(by decide), (by decide)⟩
  obtain ⟨T5, h5, X5, e5, W5, st5⟩ := stC X1 hx hZ e1 Ar4 (j := (0 : Int32)) hin4 (g := (mkF m 6 #[.val (.int (98 : Int32)), .val (.int p1), .unset] [(.int (98 : Int32)), (.int (0 : Int32)), (.ref b1), (.ref b1)])) rfl rfl (hb hby own_d_method_2_6)
  have Kp6 : Keep h0 h5 [] := Kp2.wr W5 (Or.inr (Nat.le_trans (Keep.refl h0 []).1 (Nat.le_of_eq g1.symm)))
  have gh7 : n0 ≤ b1 := Nat.le_trans Z0 (Nat.le_of_eq g1.symm)
  obtain ⟨Lp5, X5, N5⟩ := own_pack X5 (Fr.snoc X5 N0 gh7)
  have Vh8 : Arv Z h5 b1 k1 .char (2 : Int32) [(.int (98 : Int32)), (.int (0 : Int32))] (.int (0 : Int32)) := (Arv.set Ar4 qc4 Sz4 Ng4 Hs4 Gs4 rfl W5 0 rfl (Nat.le_of_ble_eq_true rfl))
  obtain ⟨cl9, Ar9, qc9, Sz9, Ng9, Hs9, Gs9⟩ := id Vh8
  have hin9 : ¬ ((1 : Int32) < 0 ∨ cl9.slots.size ≤ ((1 : Int32)).toNatClampNeg) := inb_of Sz9 ⟨(by decide), (by decide)⟩
  obtain ⟨T10, h10, X10, e10, W10, st10⟩ := stC X5 hx hZ e5 Ar9 (j := (1 : Int32)) hin9 (g := (mkF m 15 #[.val (.int (98 : Int32)), .val (.int p1), .unset] [(.int ((p1 &&& (255 : Int32)).toUInt32.toUInt16.toUInt32.toInt32)), (.int (1 : Int32)), (.ref b1), (.ref b1)])) rfl rfl (hb hby own_d_method_2_15)
  have Kp11 : Keep h0 h10 [] := Kp6.wr W10 (Or.inr (Nat.le_trans (Keep.refl h0 []).1 (Nat.le_of_eq g1.symm)))
  obtain ⟨Lp10, X10, N10⟩ := own_pack X10 (Fr.snoc X10 N5 gh7)
  have Vh12 : Arv Z h10 b1 k1 .char (2 : Int32) [(.int (98 : Int32)), (.int (own_ch p1))] (.int (0 : Int32)) := (Arv.set Ar9 qc9 Sz9 Ng9 Hs9 Gs9 (fits_nar_char _) W10 1 rfl (Nat.le_of_ble_eq_true rfl))
  obtain ⟨T13, h13, X13, e13, E13, A13, D13, U13, st13⟩ := newO X10 hx hZ hown (hw _ (List.mem_of_getElem? (i := 6) rfl)) (hw _ (List.mem_of_getElem? (i := 7) rfl)) (hw _ (List.mem_of_getElem? (i := 8) rfl)) e10 (g := (mkF m 17 #[.val (.int (98 : Int32)), .val (.int p1), .val (.ref b1)] [])) rfl (hb hby own_d_method_2_17) (by decide) (by decide)
  obtain ⟨b13, g13⟩ : ∃ z, z = h10.size := ⟨_, rfl⟩
  rw [← g13] at A13 D13 U13 st13
  have Kp14 : Keep h0 h13 [] := Kp11.ext E13
  have Fh15 : Fld Z h13 b13 "java/lang/String" "value" "[B" .null := (D13 (Or.inr (hw _ (List.mem_of_getElem? (i := 34) rfl))) (ty := (.array .byte)) (by decide))
  have Fh16 : Fld Z h13 b13 "java/lang/String" "coder" "B" (.int (0 : Int32)) := (D13 (Or.inr (hw _ (List.mem_of_getElem? (i := 32) rfl))) (ty := .byte) (by decide))
  have Vh17 : Arv Z h13 b1 k1 .char (2 : Int32) [(.int (98 : Int32)), (.int (own_ch p1))] (.int (0 : Int32)) := (Vh12.ext E13)
  have hph18 : ∀ c ∈ ([(98 : Int32), (own_ch p1)] : List Int32), ¬ c < 0 ∧ ¬ (255 : Int32) < c := (own_cS (by decide) (own_cS (own_rng_ch p1) own_c0))
  have hws_words : ∀ d ∈ StrChars.Road.words, d.before a0 Z = true := fun d hd => hw d (own_hws_words d hd)
  have Zh19 : n0 ≤ h13.size := (Nat.le_trans Z0 Kp14.1)
  have gh20 : n0 ≤ b13 := Nat.le_trans (Nat.le_trans Z0 Kp11.1) (Nat.le_of_eq g13.symm)
  have Old21 : Old Z n0 h1 := X00.ext E1
  have Old22 : Old Z n0 h5 := Old21.wr W5 gh7
  have Old23 : Old Z n0 h10 := Old22.wr W10 gh7
  have Old24 : Old Z n0 h13 := Old23.ext E13
  obtain ⟨_, _, ⟨T25, L25, k25, n25⟩, -, X25, ⟨Lc25, hQ25, l25, y25, z25⟩, st25⟩ := X13.specialBack hx (y := (⟨"java/lang/String", "<init>", "([C)V"⟩ : MethodName)) rfl hown (mvT hZ (hw _ (List.mem_of_getElem? (i := 9) rfl))) (mvT hZ (hw _ (List.mem_of_getElem? (i := 10) rfl))) (mvT hZ (hw _ (List.mem_of_getElem? (i := 11) rfl))) (by decide) (StrChars.Road.backV (W := 1) hZ hws_words (kI := 4) (hw _ (List.mem_of_getElem? (i := 7) rfl)) (cs := ([(98 : Int32), (own_ch p1)] : List Int32)) (bs := ([(98 : Int32), (own_ch p1)] : List Int32).map (fun c => c.toInt8.toInt32)) (n := 2) gh20 Zh19 A13 Fh15 Fh16 Vh17 (O_CS.ext Old24.2) P_CS rfl rfl (by decide) (by decide) hph18 rfl (by decide) (by decide)) (g := (mkF m 22 #[.val (.int (98 : Int32)), .val (.int p1), .val (.ref b1)] [(.ref b1), (.ref b13), (.ref b13)])) rfl (by rw [hml]; rfl) (Steps.refl _) (a := b13) (argsL := [(.ref b1)]) (rest := [(.ref b13)]) (lenOf own_pd5 rfl) rfl (by show 2 * 0 + _ ≤ _; exact Nat.le_of_eq rfl) (hb hby own_d_method_2_22) (fun _ _ => ⟨rfl, e13, (by decide : 2 + 1 ≤ _), (by decide : 6 + 2 ≤ _)⟩)
  dsimp only [Pt.U, Pt.locs, Pt.cells, Pt.slots] at X25 l25 y25 z25 st25 hQ25
  subst y25 z25
  obtain ⟨rfl, Nq25, Kq25, Eq25, Cq25, t25, kb25, gt25, szt25, nt25, Vq25, Bq25⟩ := hQ25
  have N25 : Fr n0 L25 := by rw [l25]; exact Fr.app N10 Nq25
  have Kp26 : Keep h0 T25.heap [] := Kp14.trans Kq25 (allS (Or.inr (Nat.le_trans Kp11.1 (Nat.le_of_eq g13.symm))) all0)
  obtain ⟨fs, hr, hrun, hended, hW, hsame⟩ := X25.leave (v := some (.ref b13)) (fun h => by rw [Bd.returns] at h; cases h)
  refine ⟨_, _, pre0 _ ?_, hrun, hended, _, _, rfl, ?_, ⟨_, rfl⟩, hW, hsame.mono (by decide) (by decide)⟩
  · show Steps p.tables e below (s₁.setTop (mkF m 0 #[.val (.int (98 : Int32)), .val (.int p1), .unset] [])) _
    refine XS.iconst X0.here hx rfl (hb hby own_d_method_2_0) ?_
    show Steps p.tables e below (s₁.setTop (mkF m 1 #[.val (.int (98 : Int32)), .val (.int p1), .unset] [(.int (2 : Int32))])) _
    refine st1 _ ?_
    show Steps p.tables e below (T1.setTop (mkF m 3 #[.val (.int (98 : Int32)), .val (.int p1), .unset] [(.ref b1)])) _
    refine XS.dup X1.here hx rfl (hb hby own_d_method_2_3) rfl rfl ?_
    show Steps p.tables e below (T1.setTop (mkF m 4 #[.val (.int (98 : Int32)), .val (.int p1), .unset] [(.ref b1), (.ref b1)])) _
    refine XS.iconst X1.here hx rfl (hb hby own_d_method_2_4) ?_
    show Steps p.tables e below (T1.setTop (mkF m 5 #[.val (.int (98 : Int32)), .val (.int p1), .unset] [(.int (0 : Int32)), (.ref b1), (.ref b1)])) _
    refine XS.iloadN X1.here hx rfl (hb hby own_d_method_2_5) rfl ?_
    show Steps p.tables e below (T1.setTop (mkF m 6 #[.val (.int (98 : Int32)), .val (.int p1), .unset] [(.int (98 : Int32)), (.int (0 : Int32)), (.ref b1), (.ref b1)])) _
    refine st5 _ ?_
    show Steps p.tables e below (T5.setTop (mkF m 7 #[.val (.int (98 : Int32)), .val (.int p1), .unset] [(.ref b1)])) _
    refine XS.dup X5.here hx rfl (hb hby own_d_method_2_7) rfl rfl ?_
    show Steps p.tables e below (T5.setTop (mkF m 8 #[.val (.int (98 : Int32)), .val (.int p1), .unset] [(.ref b1), (.ref b1)])) _
    refine XS.iconst X5.here hx rfl (hb hby own_d_method_2_8) ?_
    show Steps p.tables e below (T5.setTop (mkF m 9 #[.val (.int (98 : Int32)), .val (.int p1), .unset] [(.int (1 : Int32)), (.ref b1), (.ref b1)])) _
    refine XS.iloadN X5.here hx rfl (hb hby own_d_method_2_9) rfl ?_
    show Steps p.tables e below (T5.setTop (mkF m 10 #[.val (.int (98 : Int32)), .val (.int p1), .unset] [(.int p1), (.int (1 : Int32)), (.ref b1), (.ref b1)])) _
    refine XS.sipush X5.here hx rfl (hb hby own_d_method_2_10) ?_
    show Steps p.tables e below (T5.setTop (mkF m 13 #[.val (.int (98 : Int32)), .val (.int p1), .unset] [(.int (255 : Int32)), (.int p1), (.int (1 : Int32)), (.ref b1), (.ref b1)])) _
    refine XS.iand X5.here hx rfl (hb hby own_d_method_2_13) rfl ?_
    show Steps p.tables e below (T5.setTop (mkF m 14 #[.val (.int (98 : Int32)), .val (.int p1), .unset] [(.int (p1 &&& (255 : Int32))), (.int (1 : Int32)), (.ref b1), (.ref b1)])) _
    refine XS.i2c X5.here hx rfl (hb hby own_d_method_2_14) rfl ?_
    show Steps p.tables e below (T5.setTop (mkF m 15 #[.val (.int (98 : Int32)), .val (.int p1), .unset] [(.int ((p1 &&& (255 : Int32)).toUInt32.toUInt16.toUInt32.toInt32)), (.int (1 : Int32)), (.ref b1), (.ref b1)])) _
    refine st10 _ ?_
    show Steps p.tables e below (T10.setTop (mkF m 16 #[.val (.int (98 : Int32)), .val (.int p1), .unset] [(.ref b1)])) _
    refine XS.astoreN X10.here hx rfl (hb hby own_d_method_2_16) rfl rfl (l' := #[.val (.int (98 : Int32)), .val (.int p1), .val (.ref b1)]) rfl ?_
    show Steps p.tables e below (T10.setTop (mkF m 17 #[.val (.int (98 : Int32)), .val (.int p1), .val (.ref b1)] [])) _
    refine st13 _ ?_
    show Steps p.tables e below (T13.setTop (mkF m 20 #[.val (.int (98 : Int32)), .val (.int p1), .val (.ref b1)] [(.ref b13)])) _
    refine XS.dup X13.here hx rfl (hb hby own_d_method_2_20) rfl rfl ?_
    show Steps p.tables e below (T13.setTop (mkF m 21 #[.val (.int (98 : Int32)), .val (.int p1), .val (.ref b1)] [(.ref b13), (.ref b13)])) _
    refine XS.aloadN X13.here hx rfl (hb hby own_d_method_2_21) rfl rfl ?_
    show Steps p.tables e below (T13.setTop (mkF m 22 #[.val (.int (98 : Int32)), .val (.int p1), .val (.ref b1)] [(.ref b1), (.ref b13), (.ref b13)])) _
    refine st25.trans ?_
    show Steps p.tables e below (T25.setTop (mkF m 25 #[.val (.int (98 : Int32)), .val (.int p1), .val (.ref b1)] [(.ref b13)])) _
    jvm_step X25.here [X25.here.top, hx, (hb hby own_d_method_2_25), X25.method', Bd.returns, Value.isRef, FieldType.isReference]
    first | (intro acts; rw [hr _ acts rfl rfl rfl]) | rw [hr _ _ rfl rfl rfl]
    exact Steps.refl _
  · show own_Qrm_str98 Z G1 p1 h0 n0 _ T25.heap _
    exact ⟨b13, t25, kb25, rfl, N25, Kp26, (Nat.le_trans Kp11.1 (Nat.le_of_eq g13.symm)), Eq25, Vq25, Cq25, (Nat.le_trans Kp14.1 szt25), Bq25, hph18⟩
def own_Qrm_str99 (Z : State) (G1 : Int32) (p1 : Int32) (h0 : Heap) (n0 : Nat) (v : Option Value) (h : Heap) (L : List Loc) : Prop := ∃ (b13 : Addr), ∃ (t25 : Addr), ∃ (kb25 : ClassId), (v = some (.ref b13)) ∧ (Fr n0 L) ∧ (Keep h0 h []) ∧ (h0.size ≤ b13) ∧ (Exa Z h b13 "java/lang/String") ∧ (Fld Z h b13 "java/lang/String" "value" "[B" (.ref t25)) ∧ (Fld Z h b13 "java/lang/String" "coder" "B" (.int (0 : Int32))) ∧ (h0.size ≤ t25) ∧ (Arv Z h t25 kb25 .byte (2 : Int32) ((([(99 : Int32), (own_ch p1)] : List Int32).map (fun c => c.toInt8.toInt32)).map Value.int) (.int (0 : Int32))) ∧ (∀ c ∈ ([(99 : Int32), (own_ch p1)] : List Int32), ¬ c < 0 ∧ ¬ (255 : Int32) < c)
theorem own_efrm_str99 (m : MethodId) (p1 : Int32) : entryFrame m #[(.int (99 : Int32)), (.int p1)] 3 = mkF m 0 #[.val (.int (99 : Int32)), .val (.int p1), .unset] [] := by first | (simp [entryFrame, mkF, argsToLocals, Value.category]; done) | rfl
set_option maxRecDepth 65536 in
set_option maxHeartbeats 40000000 in
theorem own_rm_str99 (l : Launch) (Z : State) (a0 : Array Value) (hw : ∀ d ∈ tables_1, d.before a0 Z = true) (ws : List Jvm.Cond) (G1 : Int32) (gl : own_Glob Z G1) (p1 : Int32) (h0 : Heap) (n0 : Nat) (Z0 : n0 ≤ h0.size) (X00 : Old Z n0 h0) :
    MetFree l (⟨"com/example/dagsverke/dagsverke/CommandLineValuePinLaw", "str", "(CI)Ljava/lang/String;"⟩ : MethodName) (head1 (Jvm.Cond.code (⟨"com/example/dagsverke/dagsverke/CommandLineValuePinLaw", "str", "(CI)Ljava/lang/String;"⟩ : MethodName) method_2_code 3 (some (.object "java/lang/String")) :: ws) ({ frames := 4, cells := 3, slots := 8, locals := 66 } : Room)) (fun a U => a = #[(.int (99 : Int32)), (.int p1)] ∧ Z.Warmed39 U.vm ∧ U.heap = h0) (fun _ _ _ _ _ => True) (fun _ U o U' => ∃ v L, o = .returned v ∧ own_Qrm_str99 Z G1 p1 h0 n0 v U'.heap L ∧ FrameEnd U o U' L ({ frames := 4, cells := 3, slots := 8, locals := 66 } : Room).cells ({ frames := 4, cells := 3, slots := 8, locals := 66 } : Room).slots) := by
  refine MetFree.of_bodySF (plainFor_of_name own_pn6) hisR ?_
  intro p e s m args below meth c s₁ Bd hml0 hP hK
  obtain ⟨rfl, hZ, hh⟩ := hP
  obtain ⟨O_CS, P_CS⟩ := id gl
  have hx := Bd.exec
  have hby := Bd.bytes
  have hml : c.maxLocals = 3 := hml0
  have hown : s.vm.findClass "com/example/dagsverke/dagsverke/CommandLineValuePinLaw" = some m.cls := findClass_of_methodNamed Bd.named
  have hnm := (name_of_methodNamed Bd.named Bd.method).1
  have X0 : Stand p l e ({ frames := 4, cells := 3, slots := 8, locals := 66 } : Room) s m #[(.int (99 : Int32)), (.int p1)] below meth c s₁ [] 0 0 := Stand.of_body Bd
  have e0 : s₁.heap = h0 := by rw [← hh, Bd.state]; rfl
  have N0 := Fr.nil n0
  have pre0 : ∀ t, Steps p.tables e below (s₁.setTop (mkF m 0 #[.val (.int (99 : Int32)), .val (.int p1), .unset] [])) t → Steps p.tables e below (s₁.setTop (entryFrame m #[(.int (99 : Int32)), (.int p1)] 3)) t := fun t k => castTop (own_efrm_str99 m p1) k
  obtain ⟨T1, h1, k1, X1, e1, E1, A1, st1⟩ := newP X0 hx hZ (hw _ (List.mem_of_getElem? (i := 5) rfl)) e0 (g := (mkF m 1 #[.val (.int (99 : Int32)), .val (.int p1), .unset] [(.int (2 : Int32))])) rfl (hb hby own_d_method_2_1) rfl (by decide) (cap := 2) (by decide) (by decide) (by decide) (by decide)
  obtain ⟨b1, g1⟩ : ∃ z, z = h0.size := ⟨_, rfl⟩
  rw [← g1] at A1 st1
  have Kp2 : Keep h0 h1 [] := (Keep.refl h0 []).ext E1
  have Vh3 : Arv Z h1 b1 k1 .char (2 : Int32) [(.int (0 : Int32)), (.int (0 : Int32))] (.int (0 : Int32)) := (Arv.new A1 (by decide)).pad (pad_rep [] (.int (0 : Int32)) 2)
  obtain ⟨cl4, Ar4, qc4, Sz4, Ng4, Hs4, Gs4⟩ := id Vh3
  have hin4 : ¬ ((0 : Int32) < 0 ∨ cl4.slots.size ≤ ((0 : Int32)).toNatClampNeg) := inb_of Sz4 ⟨(by decide), (by decide)⟩
  obtain ⟨T5, h5, X5, e5, W5, st5⟩ := stC X1 hx hZ e1 Ar4 (j := (0 : Int32)) hin4 (g := (mkF m 6 #[.val (.int (99 : Int32)), .val (.int p1), .unset] [(.int (99 : Int32)), (.int (0 : Int32)), (.ref b1), (.ref b1)])) rfl rfl (hb hby own_d_method_2_6)
  have Kp6 : Keep h0 h5 [] := Kp2.wr W5 (Or.inr (Nat.le_trans (Keep.refl h0 []).1 (Nat.le_of_eq g1.symm)))
  have gh7 : n0 ≤ b1 := Nat.le_trans Z0 (Nat.le_of_eq g1.symm)
  obtain ⟨Lp5, X5, N5⟩ := own_pack X5 (Fr.snoc X5 N0 gh7)
  have Vh8 : Arv Z h5 b1 k1 .char (2 : Int32) [(.int (99 : Int32)), (.int (0 : Int32))] (.int (0 : Int32)) := (Arv.set Ar4 qc4 Sz4 Ng4 Hs4 Gs4 rfl W5 0 rfl (Nat.le_of_ble_eq_true rfl))
  obtain ⟨cl9, Ar9, qc9, Sz9, Ng9, Hs9, Gs9⟩ := id Vh8
  have hin9 : ¬ ((1 : Int32) < 0 ∨ cl9.slots.size ≤ ((1 : Int32)).toNatClampNeg) := inb_of Sz9 ⟨(by decide), (by decide)⟩
  obtain ⟨T10, h10, X10, e10, W10, st10⟩ := stC X5 hx hZ e5 Ar9 (j := (1 : Int32)) hin9 (g := (mkF m 15 #[.val (.int (99 : Int32)), .val (.int p1), .unset] [(.int ((p1 &&& (255 : Int32)).toUInt32.toUInt16.toUInt32.toInt32)), (.int (1 : Int32)), (.ref b1), (.ref b1)])) rfl rfl (hb hby own_d_method_2_15)
  have Kp11 : Keep h0 h10 [] := Kp6.wr W10 (Or.inr (Nat.le_trans (Keep.refl h0 []).1 (Nat.le_of_eq g1.symm)))
  obtain ⟨Lp10, X10, N10⟩ := own_pack X10 (Fr.snoc X10 N5 gh7)
  have Vh12 : Arv Z h10 b1 k1 .char (2 : Int32) [(.int (99 : Int32)), (.int (own_ch p1))] (.int (0 : Int32)) := (Arv.set Ar9 qc9 Sz9 Ng9 Hs9 Gs9 (fits_nar_char _) W10 1 rfl (Nat.le_of_ble_eq_true rfl))
  obtain ⟨T13, h13, X13, e13, E13, A13, D13, U13, st13⟩ := newO X10 hx hZ hown (hw _ (List.mem_of_getElem? (i := 6) rfl)) (hw _ (List.mem_of_getElem? (i := 7) rfl)) (hw _ (List.mem_of_getElem? (i := 8) rfl)) e10 (g := (mkF m 17 #[.val (.int (99 : Int32)), .val (.int p1), .val (.ref b1)] [])) rfl (hb hby own_d_method_2_17) (by decide) (by decide)
  obtain ⟨b13, g13⟩ : ∃ z, z = h10.size := ⟨_, rfl⟩
  rw [← g13] at A13 D13 U13 st13
  have Kp14 : Keep h0 h13 [] := Kp11.ext E13
  have Fh15 : Fld Z h13 b13 "java/lang/String" "value" "[B" .null := (D13 (Or.inr (hw _ (List.mem_of_getElem? (i := 34) rfl))) (ty := (.array .byte)) (by decide))
  have Fh16 : Fld Z h13 b13 "java/lang/String" "coder" "B" (.int (0 : Int32)) := (D13 (Or.inr (hw _ (List.mem_of_getElem? (i := 32) rfl))) (ty := .byte) (by decide))
  have Vh17 : Arv Z h13 b1 k1 .char (2 : Int32) [(.int (99 : Int32)), (.int (own_ch p1))] (.int (0 : Int32)) := (Vh12.ext E13)
  have hph18 : ∀ c ∈ ([(99 : Int32), (own_ch p1)] : List Int32), ¬ c < 0 ∧ ¬ (255 : Int32) < c := (own_cS (by decide) (own_cS (own_rng_ch p1) own_c0))
  have hws_words : ∀ d ∈ StrChars.Road.words, d.before a0 Z = true := fun d hd => hw d (own_hws_words d hd)
  have Zh19 : n0 ≤ h13.size := (Nat.le_trans Z0 Kp14.1)
  have gh20 : n0 ≤ b13 := Nat.le_trans (Nat.le_trans Z0 Kp11.1) (Nat.le_of_eq g13.symm)
  have Old21 : Old Z n0 h1 := X00.ext E1
  have Old22 : Old Z n0 h5 := Old21.wr W5 gh7
  have Old23 : Old Z n0 h10 := Old22.wr W10 gh7
  have Old24 : Old Z n0 h13 := Old23.ext E13
  obtain ⟨_, _, ⟨T25, L25, k25, n25⟩, -, X25, ⟨Lc25, hQ25, l25, y25, z25⟩, st25⟩ := X13.specialBack hx (y := (⟨"java/lang/String", "<init>", "([C)V"⟩ : MethodName)) rfl hown (mvT hZ (hw _ (List.mem_of_getElem? (i := 9) rfl))) (mvT hZ (hw _ (List.mem_of_getElem? (i := 10) rfl))) (mvT hZ (hw _ (List.mem_of_getElem? (i := 11) rfl))) (by decide) (StrChars.Road.backV (W := 1) hZ hws_words (kI := 4) (hw _ (List.mem_of_getElem? (i := 7) rfl)) (cs := ([(99 : Int32), (own_ch p1)] : List Int32)) (bs := ([(99 : Int32), (own_ch p1)] : List Int32).map (fun c => c.toInt8.toInt32)) (n := 2) gh20 Zh19 A13 Fh15 Fh16 Vh17 (O_CS.ext Old24.2) P_CS rfl rfl (by decide) (by decide) hph18 rfl (by decide) (by decide)) (g := (mkF m 22 #[.val (.int (99 : Int32)), .val (.int p1), .val (.ref b1)] [(.ref b1), (.ref b13), (.ref b13)])) rfl (by rw [hml]; rfl) (Steps.refl _) (a := b13) (argsL := [(.ref b1)]) (rest := [(.ref b13)]) (lenOf own_pd5 rfl) rfl (by show 2 * 0 + _ ≤ _; exact Nat.le_of_eq rfl) (hb hby own_d_method_2_22) (fun _ _ => ⟨rfl, e13, (by decide : 2 + 1 ≤ _), (by decide : 6 + 2 ≤ _)⟩)
  dsimp only [Pt.U, Pt.locs, Pt.cells, Pt.slots] at X25 l25 y25 z25 st25 hQ25
  subst y25 z25
  obtain ⟨rfl, Nq25, Kq25, Eq25, Cq25, t25, kb25, gt25, szt25, nt25, Vq25, Bq25⟩ := hQ25
  have N25 : Fr n0 L25 := by rw [l25]; exact Fr.app N10 Nq25
  have Kp26 : Keep h0 T25.heap [] := Kp14.trans Kq25 (allS (Or.inr (Nat.le_trans Kp11.1 (Nat.le_of_eq g13.symm))) all0)
  obtain ⟨fs, hr, hrun, hended, hW, hsame⟩ := X25.leave (v := some (.ref b13)) (fun h => by rw [Bd.returns] at h; cases h)
  refine ⟨_, _, pre0 _ ?_, hrun, hended, _, _, rfl, ?_, ⟨_, rfl⟩, hW, hsame.mono (by decide) (by decide)⟩
  · show Steps p.tables e below (s₁.setTop (mkF m 0 #[.val (.int (99 : Int32)), .val (.int p1), .unset] [])) _
    refine XS.iconst X0.here hx rfl (hb hby own_d_method_2_0) ?_
    show Steps p.tables e below (s₁.setTop (mkF m 1 #[.val (.int (99 : Int32)), .val (.int p1), .unset] [(.int (2 : Int32))])) _
    refine st1 _ ?_
    show Steps p.tables e below (T1.setTop (mkF m 3 #[.val (.int (99 : Int32)), .val (.int p1), .unset] [(.ref b1)])) _
    refine XS.dup X1.here hx rfl (hb hby own_d_method_2_3) rfl rfl ?_
    show Steps p.tables e below (T1.setTop (mkF m 4 #[.val (.int (99 : Int32)), .val (.int p1), .unset] [(.ref b1), (.ref b1)])) _
    refine XS.iconst X1.here hx rfl (hb hby own_d_method_2_4) ?_
    show Steps p.tables e below (T1.setTop (mkF m 5 #[.val (.int (99 : Int32)), .val (.int p1), .unset] [(.int (0 : Int32)), (.ref b1), (.ref b1)])) _
    refine XS.iloadN X1.here hx rfl (hb hby own_d_method_2_5) rfl ?_
    show Steps p.tables e below (T1.setTop (mkF m 6 #[.val (.int (99 : Int32)), .val (.int p1), .unset] [(.int (99 : Int32)), (.int (0 : Int32)), (.ref b1), (.ref b1)])) _
    refine st5 _ ?_
    show Steps p.tables e below (T5.setTop (mkF m 7 #[.val (.int (99 : Int32)), .val (.int p1), .unset] [(.ref b1)])) _
    refine XS.dup X5.here hx rfl (hb hby own_d_method_2_7) rfl rfl ?_
    show Steps p.tables e below (T5.setTop (mkF m 8 #[.val (.int (99 : Int32)), .val (.int p1), .unset] [(.ref b1), (.ref b1)])) _
    refine XS.iconst X5.here hx rfl (hb hby own_d_method_2_8) ?_
    show Steps p.tables e below (T5.setTop (mkF m 9 #[.val (.int (99 : Int32)), .val (.int p1), .unset] [(.int (1 : Int32)), (.ref b1), (.ref b1)])) _
    refine XS.iloadN X5.here hx rfl (hb hby own_d_method_2_9) rfl ?_
    show Steps p.tables e below (T5.setTop (mkF m 10 #[.val (.int (99 : Int32)), .val (.int p1), .unset] [(.int p1), (.int (1 : Int32)), (.ref b1), (.ref b1)])) _
    refine XS.sipush X5.here hx rfl (hb hby own_d_method_2_10) ?_
    show Steps p.tables e below (T5.setTop (mkF m 13 #[.val (.int (99 : Int32)), .val (.int p1), .unset] [(.int (255 : Int32)), (.int p1), (.int (1 : Int32)), (.ref b1), (.ref b1)])) _
    refine XS.iand X5.here hx rfl (hb hby own_d_method_2_13) rfl ?_
    show Steps p.tables e below (T5.setTop (mkF m 14 #[.val (.int (99 : Int32)), .val (.int p1), .unset] [(.int (p1 &&& (255 : Int32))), (.int (1 : Int32)), (.ref b1), (.ref b1)])) _
    refine XS.i2c X5.here hx rfl (hb hby own_d_method_2_14) rfl ?_
    show Steps p.tables e below (T5.setTop (mkF m 15 #[.val (.int (99 : Int32)), .val (.int p1), .unset] [(.int ((p1 &&& (255 : Int32)).toUInt32.toUInt16.toUInt32.toInt32)), (.int (1 : Int32)), (.ref b1), (.ref b1)])) _
    refine st10 _ ?_
    show Steps p.tables e below (T10.setTop (mkF m 16 #[.val (.int (99 : Int32)), .val (.int p1), .unset] [(.ref b1)])) _
    refine XS.astoreN X10.here hx rfl (hb hby own_d_method_2_16) rfl rfl (l' := #[.val (.int (99 : Int32)), .val (.int p1), .val (.ref b1)]) rfl ?_
    show Steps p.tables e below (T10.setTop (mkF m 17 #[.val (.int (99 : Int32)), .val (.int p1), .val (.ref b1)] [])) _
    refine st13 _ ?_
    show Steps p.tables e below (T13.setTop (mkF m 20 #[.val (.int (99 : Int32)), .val (.int p1), .val (.ref b1)] [(.ref b13)])) _
    refine XS.dup X13.here hx rfl (hb hby own_d_method_2_20) rfl rfl ?_
    show Steps p.tables e below (T13.setTop (mkF m 21 #[.val (.int (99 : Int32)), .val (.int p1), .val (.ref b1)] [(.ref b13), (.ref b13)])) _
    refine XS.aloadN X13.here hx rfl (hb hby own_d_method_2_21) rfl rfl ?_
    show Steps p.tables e below (T13.setTop (mkF m 22 #[.val (.int (99 : Int32)), .val (.int p1), .val (.ref b1)] [(.ref b1), (.ref b13), (.ref b13)])) _
    refine st25.trans ?_
    show Steps p.tables e below (T25.setTop (mkF m 25 #[.val (.int (99 : Int32)), .val (.int p1), .val (.ref b1)] [(.ref b13)])) _
    jvm_step X25.here [X25.here.top, hx, (hb hby own_d_method_2_25), X25.method', Bd.returns, Value.isRef, FieldType.isReference]
    first | (intro acts; rw [hr _ acts rfl rfl rfl]) | rw [hr _ _ rfl rfl rfl]
    exact Steps.refl _
  · show own_Qrm_str99 Z G1 p1 h0 n0 _ T25.heap _
    exact ⟨b13, t25, kb25, rfl, N25, Kp26, (Nat.le_trans Kp11.1 (Nat.le_of_eq g13.symm)), Eq25, Vq25, Cq25, (Nat.le_trans Kp14.1 szt25), Bq25, hph18⟩
def own_Qrm_str100 (Z : State) (G1 : Int32) (p1 : Int32) (h0 : Heap) (n0 : Nat) (v : Option Value) (h : Heap) (L : List Loc) : Prop := ∃ (b13 : Addr), ∃ (t25 : Addr), ∃ (kb25 : ClassId), (v = some (.ref b13)) ∧ (Fr n0 L) ∧ (Keep h0 h []) ∧ (h0.size ≤ b13) ∧ (Exa Z h b13 "java/lang/String") ∧ (Fld Z h b13 "java/lang/String" "value" "[B" (.ref t25)) ∧ (Fld Z h b13 "java/lang/String" "coder" "B" (.int (0 : Int32))) ∧ (h0.size ≤ t25) ∧ (Arv Z h t25 kb25 .byte (2 : Int32) ((([(100 : Int32), (own_ch p1)] : List Int32).map (fun c => c.toInt8.toInt32)).map Value.int) (.int (0 : Int32))) ∧ (∀ c ∈ ([(100 : Int32), (own_ch p1)] : List Int32), ¬ c < 0 ∧ ¬ (255 : Int32) < c)
theorem own_efrm_str100 (m : MethodId) (p1 : Int32) : entryFrame m #[(.int (100 : Int32)), (.int p1)] 3 = mkF m 0 #[.val (.int (100 : Int32)), .val (.int p1), .unset] [] := by first | (simp [entryFrame, mkF, argsToLocals, Value.category]; done) | rfl
set_option maxRecDepth 65536 in
set_option maxHeartbeats 40000000 in
theorem own_rm_str100 (l : Launch) (Z : State) (a0 : Array Value) (hw : ∀ d ∈ tables_1, d.before a0 Z = true) (ws : List Jvm.Cond) (G1 : Int32) (gl : own_Glob Z G1) (p1 : Int32) (h0 : Heap) (n0 : Nat) (Z0 : n0 ≤ h0.size) (X00 : Old Z n0 h0) :
    MetFree l (⟨"com/example/dagsverke/dagsverke/CommandLineValuePinLaw", "str", "(CI)Ljava/lang/String;"⟩ : MethodName) (head1 (Jvm.Cond.code (⟨"com/example/dagsverke/dagsverke/CommandLineValuePinLaw", "str", "(CI)Ljava/lang/String;"⟩ : MethodName) method_2_code 3 (some (.object "java/lang/String")) :: ws) ({ frames := 4, cells := 3, slots := 8, locals := 66 } : Room)) (fun a U => a = #[(.int (100 : Int32)), (.int p1)] ∧ Z.Warmed39 U.vm ∧ U.heap = h0) (fun _ _ _ _ _ => True) (fun _ U o U' => ∃ v L, o = .returned v ∧ own_Qrm_str100 Z G1 p1 h0 n0 v U'.heap L ∧ FrameEnd U o U' L ({ frames := 4, cells := 3, slots := 8, locals := 66 } : Room).cells ({ frames := 4, cells := 3, slots := 8, locals := 66 } : Room).slots) := by
  refine MetFree.of_bodySF (plainFor_of_name own_pn6) hisR ?_
  intro p e s m args below meth c s₁ Bd hml0 hP hK
  obtain ⟨rfl, hZ, hh⟩ := hP
  obtain ⟨O_CS, P_CS⟩ := id gl
  have hx := Bd.exec
  have hby := Bd.bytes
  have hml : c.maxLocals = 3 := hml0
  have hown : s.vm.findClass "com/example/dagsverke/dagsverke/CommandLineValuePinLaw" = some m.cls := findClass_of_methodNamed Bd.named
  have hnm := (name_of_methodNamed Bd.named Bd.method).1
  have X0 : Stand p l e ({ frames := 4, cells := 3, slots := 8, locals := 66 } : Room) s m #[(.int (100 : Int32)), (.int p1)] below meth c s₁ [] 0 0 := Stand.of_body Bd
  have e0 : s₁.heap = h0 := by rw [← hh, Bd.state]; rfl
  have N0 := Fr.nil n0
  have pre0 : ∀ t, Steps p.tables e below (s₁.setTop (mkF m 0 #[.val (.int (100 : Int32)), .val (.int p1), .unset] [])) t → Steps p.tables e below (s₁.setTop (entryFrame m #[(.int (100 : Int32)), (.int p1)] 3)) t := fun t k => castTop (own_efrm_str100 m p1) k
  obtain ⟨T1, h1, k1, X1, e1, E1, A1, st1⟩ := newP X0 hx hZ (hw _ (List.mem_of_getElem? (i := 5) rfl)) e0 (g := (mkF m 1 #[.val (.int (100 : Int32)), .val (.int p1), .unset] [(.int (2 : Int32))])) rfl (hb hby own_d_method_2_1) rfl (by decide) (cap := 2) (by decide) (by decide) (by decide) (by decide)
  obtain ⟨b1, g1⟩ : ∃ z, z = h0.size := ⟨_, rfl⟩
  rw [← g1] at A1 st1
  have Kp2 : Keep h0 h1 [] := (Keep.refl h0 []).ext E1
  have Vh3 : Arv Z h1 b1 k1 .char (2 : Int32) [(.int (0 : Int32)), (.int (0 : Int32))] (.int (0 : Int32)) := (Arv.new A1 (by decide)).pad (pad_rep [] (.int (0 : Int32)) 2)
  obtain ⟨cl4, Ar4, qc4, Sz4, Ng4, Hs4, Gs4⟩ := id Vh3
  have hin4 : ¬ ((0 : Int32) < 0 ∨ cl4.slots.size ≤ ((0 : Int32)).toNatClampNeg) := inb_of Sz4 ⟨(by decide), (by decide)⟩
  obtain ⟨T5, h5, X5, e5, W5, st5⟩ := stC X1 hx hZ e1 Ar4 (j := (0 : Int32)) hin4 (g := (mkF m 6 #[.val (.int (100 : Int32)), .val (.int p1), .unset] [(.int (100 : Int32)), (.int (0 : Int32)), (.ref b1), (.ref b1)])) rfl rfl (hb hby own_d_method_2_6)
  have Kp6 : Keep h0 h5 [] := Kp2.wr W5 (Or.inr (Nat.le_trans (Keep.refl h0 []).1 (Nat.le_of_eq g1.symm)))
  have gh7 : n0 ≤ b1 := Nat.le_trans Z0 (Nat.le_of_eq g1.symm)
  obtain ⟨Lp5, X5, N5⟩ := own_pack X5 (Fr.snoc X5 N0 gh7)
  have Vh8 : Arv Z h5 b1 k1 .char (2 : Int32) [(.int (100 : Int32)), (.int (0 : Int32))] (.int (0 : Int32)) := (Arv.set Ar4 qc4 Sz4 Ng4 Hs4 Gs4 rfl W5 0 rfl (Nat.le_of_ble_eq_true rfl))
  obtain ⟨cl9, Ar9, qc9, Sz9, Ng9, Hs9, Gs9⟩ := id Vh8
  have hin9 : ¬ ((1 : Int32) < 0 ∨ cl9.slots.size ≤ ((1 : Int32)).toNatClampNeg) := inb_of Sz9 ⟨(by decide), (by decide)⟩
  obtain ⟨T10, h10, X10, e10, W10, st10⟩ := stC X5 hx hZ e5 Ar9 (j := (1 : Int32)) hin9 (g := (mkF m 15 #[.val (.int (100 : Int32)), .val (.int p1), .unset] [(.int ((p1 &&& (255 : Int32)).toUInt32.toUInt16.toUInt32.toInt32)), (.int (1 : Int32)), (.ref b1), (.ref b1)])) rfl rfl (hb hby own_d_method_2_15)
  have Kp11 : Keep h0 h10 [] := Kp6.wr W10 (Or.inr (Nat.le_trans (Keep.refl h0 []).1 (Nat.le_of_eq g1.symm)))
  obtain ⟨Lp10, X10, N10⟩ := own_pack X10 (Fr.snoc X10 N5 gh7)
  have Vh12 : Arv Z h10 b1 k1 .char (2 : Int32) [(.int (100 : Int32)), (.int (own_ch p1))] (.int (0 : Int32)) := (Arv.set Ar9 qc9 Sz9 Ng9 Hs9 Gs9 (fits_nar_char _) W10 1 rfl (Nat.le_of_ble_eq_true rfl))
  obtain ⟨T13, h13, X13, e13, E13, A13, D13, U13, st13⟩ := newO X10 hx hZ hown (hw _ (List.mem_of_getElem? (i := 6) rfl)) (hw _ (List.mem_of_getElem? (i := 7) rfl)) (hw _ (List.mem_of_getElem? (i := 8) rfl)) e10 (g := (mkF m 17 #[.val (.int (100 : Int32)), .val (.int p1), .val (.ref b1)] [])) rfl (hb hby own_d_method_2_17) (by decide) (by decide)
  obtain ⟨b13, g13⟩ : ∃ z, z = h10.size := ⟨_, rfl⟩
  rw [← g13] at A13 D13 U13 st13
  have Kp14 : Keep h0 h13 [] := Kp11.ext E13
  have Fh15 : Fld Z h13 b13 "java/lang/String" "value" "[B" .null := (D13 (Or.inr (hw _ (List.mem_of_getElem? (i := 34) rfl))) (ty := (.array .byte)) (by decide))
  have Fh16 : Fld Z h13 b13 "java/lang/String" "coder" "B" (.int (0 : Int32)) := (D13 (Or.inr (hw _ (List.mem_of_getElem? (i := 32) rfl))) (ty := .byte) (by decide))
  have Vh17 : Arv Z h13 b1 k1 .char (2 : Int32) [(.int (100 : Int32)), (.int (own_ch p1))] (.int (0 : Int32)) := (Vh12.ext E13)
  have hph18 : ∀ c ∈ ([(100 : Int32), (own_ch p1)] : List Int32), ¬ c < 0 ∧ ¬ (255 : Int32) < c := (own_cS (by decide) (own_cS (own_rng_ch p1) own_c0))
  have hws_words : ∀ d ∈ StrChars.Road.words, d.before a0 Z = true := fun d hd => hw d (own_hws_words d hd)
  have Zh19 : n0 ≤ h13.size := (Nat.le_trans Z0 Kp14.1)
  have gh20 : n0 ≤ b13 := Nat.le_trans (Nat.le_trans Z0 Kp11.1) (Nat.le_of_eq g13.symm)
  have Old21 : Old Z n0 h1 := X00.ext E1
  have Old22 : Old Z n0 h5 := Old21.wr W5 gh7
  have Old23 : Old Z n0 h10 := Old22.wr W10 gh7
  have Old24 : Old Z n0 h13 := Old23.ext E13
  obtain ⟨_, _, ⟨T25, L25, k25, n25⟩, -, X25, ⟨Lc25, hQ25, l25, y25, z25⟩, st25⟩ := X13.specialBack hx (y := (⟨"java/lang/String", "<init>", "([C)V"⟩ : MethodName)) rfl hown (mvT hZ (hw _ (List.mem_of_getElem? (i := 9) rfl))) (mvT hZ (hw _ (List.mem_of_getElem? (i := 10) rfl))) (mvT hZ (hw _ (List.mem_of_getElem? (i := 11) rfl))) (by decide) (StrChars.Road.backV (W := 1) hZ hws_words (kI := 4) (hw _ (List.mem_of_getElem? (i := 7) rfl)) (cs := ([(100 : Int32), (own_ch p1)] : List Int32)) (bs := ([(100 : Int32), (own_ch p1)] : List Int32).map (fun c => c.toInt8.toInt32)) (n := 2) gh20 Zh19 A13 Fh15 Fh16 Vh17 (O_CS.ext Old24.2) P_CS rfl rfl (by decide) (by decide) hph18 rfl (by decide) (by decide)) (g := (mkF m 22 #[.val (.int (100 : Int32)), .val (.int p1), .val (.ref b1)] [(.ref b1), (.ref b13), (.ref b13)])) rfl (by rw [hml]; rfl) (Steps.refl _) (a := b13) (argsL := [(.ref b1)]) (rest := [(.ref b13)]) (lenOf own_pd5 rfl) rfl (by show 2 * 0 + _ ≤ _; exact Nat.le_of_eq rfl) (hb hby own_d_method_2_22) (fun _ _ => ⟨rfl, e13, (by decide : 2 + 1 ≤ _), (by decide : 6 + 2 ≤ _)⟩)
  dsimp only [Pt.U, Pt.locs, Pt.cells, Pt.slots] at X25 l25 y25 z25 st25 hQ25
  subst y25 z25
  obtain ⟨rfl, Nq25, Kq25, Eq25, Cq25, t25, kb25, gt25, szt25, nt25, Vq25, Bq25⟩ := hQ25
  have N25 : Fr n0 L25 := by rw [l25]; exact Fr.app N10 Nq25
  have Kp26 : Keep h0 T25.heap [] := Kp14.trans Kq25 (allS (Or.inr (Nat.le_trans Kp11.1 (Nat.le_of_eq g13.symm))) all0)
  obtain ⟨fs, hr, hrun, hended, hW, hsame⟩ := X25.leave (v := some (.ref b13)) (fun h => by rw [Bd.returns] at h; cases h)
  refine ⟨_, _, pre0 _ ?_, hrun, hended, _, _, rfl, ?_, ⟨_, rfl⟩, hW, hsame.mono (by decide) (by decide)⟩
  · show Steps p.tables e below (s₁.setTop (mkF m 0 #[.val (.int (100 : Int32)), .val (.int p1), .unset] [])) _
    refine XS.iconst X0.here hx rfl (hb hby own_d_method_2_0) ?_
    show Steps p.tables e below (s₁.setTop (mkF m 1 #[.val (.int (100 : Int32)), .val (.int p1), .unset] [(.int (2 : Int32))])) _
    refine st1 _ ?_
    show Steps p.tables e below (T1.setTop (mkF m 3 #[.val (.int (100 : Int32)), .val (.int p1), .unset] [(.ref b1)])) _
    refine XS.dup X1.here hx rfl (hb hby own_d_method_2_3) rfl rfl ?_
    show Steps p.tables e below (T1.setTop (mkF m 4 #[.val (.int (100 : Int32)), .val (.int p1), .unset] [(.ref b1), (.ref b1)])) _
    refine XS.iconst X1.here hx rfl (hb hby own_d_method_2_4) ?_
    show Steps p.tables e below (T1.setTop (mkF m 5 #[.val (.int (100 : Int32)), .val (.int p1), .unset] [(.int (0 : Int32)), (.ref b1), (.ref b1)])) _
    refine XS.iloadN X1.here hx rfl (hb hby own_d_method_2_5) rfl ?_
    show Steps p.tables e below (T1.setTop (mkF m 6 #[.val (.int (100 : Int32)), .val (.int p1), .unset] [(.int (100 : Int32)), (.int (0 : Int32)), (.ref b1), (.ref b1)])) _
    refine st5 _ ?_
    show Steps p.tables e below (T5.setTop (mkF m 7 #[.val (.int (100 : Int32)), .val (.int p1), .unset] [(.ref b1)])) _
    refine XS.dup X5.here hx rfl (hb hby own_d_method_2_7) rfl rfl ?_
    show Steps p.tables e below (T5.setTop (mkF m 8 #[.val (.int (100 : Int32)), .val (.int p1), .unset] [(.ref b1), (.ref b1)])) _
    refine XS.iconst X5.here hx rfl (hb hby own_d_method_2_8) ?_
    show Steps p.tables e below (T5.setTop (mkF m 9 #[.val (.int (100 : Int32)), .val (.int p1), .unset] [(.int (1 : Int32)), (.ref b1), (.ref b1)])) _
    refine XS.iloadN X5.here hx rfl (hb hby own_d_method_2_9) rfl ?_
    show Steps p.tables e below (T5.setTop (mkF m 10 #[.val (.int (100 : Int32)), .val (.int p1), .unset] [(.int p1), (.int (1 : Int32)), (.ref b1), (.ref b1)])) _
    refine XS.sipush X5.here hx rfl (hb hby own_d_method_2_10) ?_
    show Steps p.tables e below (T5.setTop (mkF m 13 #[.val (.int (100 : Int32)), .val (.int p1), .unset] [(.int (255 : Int32)), (.int p1), (.int (1 : Int32)), (.ref b1), (.ref b1)])) _
    refine XS.iand X5.here hx rfl (hb hby own_d_method_2_13) rfl ?_
    show Steps p.tables e below (T5.setTop (mkF m 14 #[.val (.int (100 : Int32)), .val (.int p1), .unset] [(.int (p1 &&& (255 : Int32))), (.int (1 : Int32)), (.ref b1), (.ref b1)])) _
    refine XS.i2c X5.here hx rfl (hb hby own_d_method_2_14) rfl ?_
    show Steps p.tables e below (T5.setTop (mkF m 15 #[.val (.int (100 : Int32)), .val (.int p1), .unset] [(.int ((p1 &&& (255 : Int32)).toUInt32.toUInt16.toUInt32.toInt32)), (.int (1 : Int32)), (.ref b1), (.ref b1)])) _
    refine st10 _ ?_
    show Steps p.tables e below (T10.setTop (mkF m 16 #[.val (.int (100 : Int32)), .val (.int p1), .unset] [(.ref b1)])) _
    refine XS.astoreN X10.here hx rfl (hb hby own_d_method_2_16) rfl rfl (l' := #[.val (.int (100 : Int32)), .val (.int p1), .val (.ref b1)]) rfl ?_
    show Steps p.tables e below (T10.setTop (mkF m 17 #[.val (.int (100 : Int32)), .val (.int p1), .val (.ref b1)] [])) _
    refine st13 _ ?_
    show Steps p.tables e below (T13.setTop (mkF m 20 #[.val (.int (100 : Int32)), .val (.int p1), .val (.ref b1)] [(.ref b13)])) _
    refine XS.dup X13.here hx rfl (hb hby own_d_method_2_20) rfl rfl ?_
    show Steps p.tables e below (T13.setTop (mkF m 21 #[.val (.int (100 : Int32)), .val (.int p1), .val (.ref b1)] [(.ref b13), (.ref b13)])) _
    refine XS.aloadN X13.here hx rfl (hb hby own_d_method_2_21) rfl rfl ?_
    show Steps p.tables e below (T13.setTop (mkF m 22 #[.val (.int (100 : Int32)), .val (.int p1), .val (.ref b1)] [(.ref b1), (.ref b13), (.ref b13)])) _
    refine st25.trans ?_
    show Steps p.tables e below (T25.setTop (mkF m 25 #[.val (.int (100 : Int32)), .val (.int p1), .val (.ref b1)] [(.ref b13)])) _
    jvm_step X25.here [X25.here.top, hx, (hb hby own_d_method_2_25), X25.method', Bd.returns, Value.isRef, FieldType.isReference]
    first | (intro acts; rw [hr _ acts rfl rfl rfl]) | rw [hr _ _ rfl rfl rfl]
    exact Steps.refl _
  · show own_Qrm_str100 Z G1 p1 h0 n0 _ T25.heap _
    exact ⟨b13, t25, kb25, rfl, N25, Kp26, (Nat.le_trans Kp11.1 (Nat.le_of_eq g13.symm)), Eq25, Vq25, Cq25, (Nat.le_trans Kp14.1 szt25), Bq25, hph18⟩
theorem own_pd7 : parseMethodDescriptor "(CI)Ljava/lang/String;" = some ⟨[.char, .int], some (.object "java/lang/String")⟩ := by decide +kernel
theorem own_pd8 : parseMethodDescriptor "(C)Ljava/lang/String;" = some ⟨[.char], some (.object "java/lang/String")⟩ := by decide +kernel
set_option maxRecDepth 65536 in
set_option maxHeartbeats 40000000 in
theorem own_seg {p : Program} {l : Launch} {e : Env} {s : State} {m : MethodId} {below : List Frame} {meth : Method} {c : Code} {s₁ : State} {Z : State} {a0 : Array Value} (hw : ∀ d ∈ tables_1, d.before a0 Z = true) (G1 : Int32) (gl : own_Glob Z G1) (p1 : Int32) (p2 : Int32) (p3 : Int32) (p4 : Int32) (p5 : Int32) (p6 : Int32) {h0 : Heap} {n0 : Nat} (Z0 : n0 ≤ h0.size) (X00 : Old Z n0 h0)
    (X0 : Stand p l e room_1 s m #[(.int p1), (.int p2), (.int p3), (.int p4), (.int p5), (.int p6)] below meth c s₁ [] 0 0) (hx : p.tables.exec = Jvm.exec) (hZ : Z.Warmed39 s.vm) (hby : c.code = code) (hml : c.maxLocals = 16) (hown : s.vm.findClass "com/example/dagsverke/dagsverke/CommandLineValuePinLaw" = some m.cls) (e0 : s₁.heap = h0) :
    ∃ (b13_1 : Addr) (b13_4 : Addr) (b13_7 : Addr) (b13_10 : Addr) (b3_13 : Addr) (t25_1 : Addr) (kb25_1 : ClassId) (t25_4 : Addr) (kb25_4 : ClassId) (t25_7 : Addr) (kb25_7 : ClassId) (t25_10 : Addr) (kb25_10 : ClassId) (b1_5_13 : Addr) (k1_5_13 : ClassId) (T' : State) (h' : Heap) (L' : List Loc), Stand p l e room_1 s m #[(.int p1), (.int p2), (.int p3), (.int p4), (.int p5), (.int p6)] below meth c T' L' 14 37 ∧ T'.heap = h' ∧ Fr n0 L' ∧ Keep h0 h' [] ∧ (h0.size ≤ b13_1) ∧ (Exa Z h' b13_1 "java/lang/String") ∧ (Fld Z h' b13_1 "java/lang/String" "value" "[B" (.ref t25_1)) ∧ (Fld Z h' b13_1 "java/lang/String" "coder" "B" (.int (0 : Int32))) ∧ (h0.size ≤ b13_4) ∧ (Exa Z h' b13_4 "java/lang/String") ∧ (Fld Z h' b13_4 "java/lang/String" "value" "[B" (.ref t25_4)) ∧ (Fld Z h' b13_4 "java/lang/String" "coder" "B" (.int (0 : Int32))) ∧ (h0.size ≤ b13_7) ∧ (Exa Z h' b13_7 "java/lang/String") ∧ (Fld Z h' b13_7 "java/lang/String" "value" "[B" (.ref t25_7)) ∧ (Fld Z h' b13_7 "java/lang/String" "coder" "B" (.int (0 : Int32))) ∧ (h0.size ≤ b13_10) ∧ (Exa Z h' b13_10 "java/lang/String") ∧ (Fld Z h' b13_10 "java/lang/String" "value" "[B" (.ref t25_10)) ∧ (Fld Z h' b13_10 "java/lang/String" "coder" "B" (.int (0 : Int32))) ∧ (h0.size ≤ b3_13) ∧ (Exa Z h' b3_13 "java/lang/String") ∧ (Fld Z h' b3_13 "java/lang/String" "value" "[B" (.ref b1_5_13)) ∧ (Fld Z h' b3_13 "java/lang/String" "coder" "B" (.int (0 : Int32))) ∧ (h0.size ≤ t25_1) ∧ (Arv Z h' t25_1 kb25_1 .byte (2 : Int32) ((([(97 : Int32), (own_ch p3)] : List Int32).map (fun c => c.toInt8.toInt32)).map Value.int) (.int (0 : Int32))) ∧ (∀ c ∈ ([(97 : Int32), (own_ch p3)] : List Int32), ¬ c < 0 ∧ ¬ (255 : Int32) < c) ∧ (h0.size ≤ t25_4) ∧ (Arv Z h' t25_4 kb25_4 .byte (2 : Int32) ((([(98 : Int32), (own_ch p4)] : List Int32).map (fun c => c.toInt8.toInt32)).map Value.int) (.int (0 : Int32))) ∧ (∀ c ∈ ([(98 : Int32), (own_ch p4)] : List Int32), ¬ c < 0 ∧ ¬ (255 : Int32) < c) ∧ (h0.size ≤ t25_7) ∧ (Arv Z h' t25_7 kb25_7 .byte (2 : Int32) ((([(99 : Int32), (own_ch p5)] : List Int32).map (fun c => c.toInt8.toInt32)).map Value.int) (.int (0 : Int32))) ∧ (∀ c ∈ ([(99 : Int32), (own_ch p5)] : List Int32), ¬ c < 0 ∧ ¬ (255 : Int32) < c) ∧ (h0.size ≤ t25_10) ∧ (Arv Z h' t25_10 kb25_10 .byte (2 : Int32) ((([(100 : Int32), (own_ch p6)] : List Int32).map (fun c => c.toInt8.toInt32)).map Value.int) (.int (0 : Int32))) ∧ (∀ c ∈ ([(100 : Int32), (own_ch p6)] : List Int32), ¬ c < 0 ∧ ¬ (255 : Int32) < c) ∧ (h0.size ≤ b1_5_13) ∧ (Arv Z h' b1_5_13 k1_5_13 .byte (1 : Int32) [(.int (nar .byte ((own_cx p3 p6).toInt8.toInt32)))] (.int (0 : Int32))) ∧ ∀ target, Steps p.tables e below (T'.setTop (mkF m 64 #[.val (.int p1), .val (.int p2), .val (.int p3), .val (.int p4), .val (.int p5), .val (.int p6), .val (.int (own_n p1)), .val (.int (own_i p2 (own_n p1))), .val (.ref b13_1), .val (.ref b13_4), .val (.ref b13_7), .val (.ref b13_10), .val (.ref b3_13), .unset, .unset, .unset] [])) target → Steps p.tables e below (s₁.setTop (mkF m 0 #[.val (.int p1), .val (.int p2), .val (.int p3), .val (.int p4), .val (.int p5), .val (.int p6), .unset, .unset, .unset, .unset, .unset, .unset, .unset, .unset, .unset, .unset] [])) target := by
  obtain ⟨O_CS, P_CS⟩ := id gl
  have N0 := Fr.nil n0
  obtain ⟨_, _, ⟨T1, L1, k1, n1⟩, -, X1, ⟨Lc1, hQ1, l1, y1, z1⟩, st1⟩ := Jvm.LawKit.callS X0 hx (y := (⟨"com/example/dagsverke/dagsverke/CommandLineValuePinLaw", "str", "(CI)Ljava/lang/String;"⟩ : MethodName)) hown (mvT hZ (hw _ (List.mem_of_getElem? (i := 1) rfl))) (mvT hZ (hw _ (List.mem_of_getElem? (i := 2) rfl))) (mvT hZ (hw _ (List.mem_of_getElem? (i := 3) rfl))) (mvT hZ (hw _ (List.mem_of_getElem? (i := 4) rfl))) (by decide) (backOf (W := 0) (own_rm_str97 l Z a0 hw [] G1 gl p3 h0 n0 Z0 X00 ) hZ (hw _ (List.mem_of_getElem? (i := 4) rfl)) (hw _ (List.mem_of_getElem? (i := 3) rfl)) (by decide) (by decide)) (g := (mkF m 19 #[.val (.int p1), .val (.int p2), .val (.int p3), .val (.int p4), .val (.int p5), .val (.int p6), .val (.int (own_n p1)), .val (.int (own_i p2 (own_n p1))), .unset, .unset, .unset, .unset, .unset, .unset, .unset, .unset] [(.int p3), (.int (97 : Int32))])) rfl (by rw [hml]; rfl) (argsL := [(.int (97 : Int32)), (.int p3)]) (rest := []) (lenOf own_pd7 rfl) rfl (by show 2 * 0 + _ ≤ _; exact Nat.le_of_eq rfl) (hb hby at_19) (fun _ _ => ⟨rfl, e0, (by decide : 0 + 3 ≤ _), (by decide : 0 + 8 ≤ _)⟩)
  dsimp only [Pt.U, Pt.locs, Pt.cells, Pt.slots] at X1 l1 y1 z1 st1 hQ1
  subst y1 z1
  obtain ⟨b13_1, t25_1, kb25_1, rfl, Nq1, Kq1, f1_0, f1_1, f1_2, f1_3, f1_4, f1_5, f1_6⟩ := hQ1
  have N1 : Fr n0 L1 := by rw [l1]; exact Fr.app N0 Nq1
  have Kp2 : Keep h0 T1.heap [] := (Keep.refl h0 []).trans Kq1 all0
  have Old3 : Old Z n0 T1.heap := X00.keep Kq1 all0
  obtain ⟨_, _, ⟨T4, L4, k4, n4⟩, -, X4, ⟨Lc4, hQ4, l4, y4, z4⟩, st4⟩ := Jvm.LawKit.callS X1 hx (y := (⟨"com/example/dagsverke/dagsverke/CommandLineValuePinLaw", "str", "(CI)Ljava/lang/String;"⟩ : MethodName)) hown (mvT hZ (hw _ (List.mem_of_getElem? (i := 1) rfl))) (mvT hZ (hw _ (List.mem_of_getElem? (i := 2) rfl))) (mvT hZ (hw _ (List.mem_of_getElem? (i := 3) rfl))) (mvT hZ (hw _ (List.mem_of_getElem? (i := 4) rfl))) (by decide) (backOf (W := 0) (own_rm_str98 l Z a0 hw [] G1 gl p4 T1.heap n0 (Nat.le_trans Z0 Kp2.1) Old3 ) hZ (hw _ (List.mem_of_getElem? (i := 4) rfl)) (hw _ (List.mem_of_getElem? (i := 3) rfl)) (by decide) (by decide)) (g := (mkF m 27 #[.val (.int p1), .val (.int p2), .val (.int p3), .val (.int p4), .val (.int p5), .val (.int p6), .val (.int (own_n p1)), .val (.int (own_i p2 (own_n p1))), .val (.ref b13_1), .unset, .unset, .unset, .unset, .unset, .unset, .unset] [(.int p4), (.int (98 : Int32))])) rfl (by rw [hml]; rfl) (argsL := [(.int (98 : Int32)), (.int p4)]) (rest := []) (lenOf own_pd7 rfl) rfl (by show 2 * 0 + _ ≤ _; exact Nat.le_of_eq rfl) (hb hby at_27) (fun _ _ => ⟨rfl, rfl, (by decide : 3 + 3 ≤ _), (by decide : 8 + 8 ≤ _)⟩)
  dsimp only [Pt.U, Pt.locs, Pt.cells, Pt.slots] at X4 l4 y4 z4 st4 hQ4
  subst y4 z4
  obtain ⟨b13_4, t25_4, kb25_4, rfl, Nq4, Kq4, f4_0, f4_1, f4_2, f4_3, f4_4, f4_5, f4_6⟩ := hQ4
  have N4 : Fr n0 L4 := by rw [l4]; exact Fr.app N1 Nq4
  have Kp5 : Keep h0 T4.heap [] := Kp2.trans Kq4 all0
  have Old6 : Old Z n0 T4.heap := Old3.keep Kq4 all0
  obtain ⟨_, _, ⟨T7, L7, k7, n7⟩, -, X7, ⟨Lc7, hQ7, l7, y7, z7⟩, st7⟩ := Jvm.LawKit.callS X4 hx (y := (⟨"com/example/dagsverke/dagsverke/CommandLineValuePinLaw", "str", "(CI)Ljava/lang/String;"⟩ : MethodName)) hown (mvT hZ (hw _ (List.mem_of_getElem? (i := 1) rfl))) (mvT hZ (hw _ (List.mem_of_getElem? (i := 2) rfl))) (mvT hZ (hw _ (List.mem_of_getElem? (i := 3) rfl))) (mvT hZ (hw _ (List.mem_of_getElem? (i := 4) rfl))) (by decide) (backOf (W := 0) (own_rm_str99 l Z a0 hw [] G1 gl p5 T4.heap n0 (Nat.le_trans Z0 Kp5.1) Old6 ) hZ (hw _ (List.mem_of_getElem? (i := 4) rfl)) (hw _ (List.mem_of_getElem? (i := 3) rfl)) (by decide) (by decide)) (g := (mkF m 36 #[.val (.int p1), .val (.int p2), .val (.int p3), .val (.int p4), .val (.int p5), .val (.int p6), .val (.int (own_n p1)), .val (.int (own_i p2 (own_n p1))), .val (.ref b13_1), .val (.ref b13_4), .unset, .unset, .unset, .unset, .unset, .unset] [(.int p5), (.int (99 : Int32))])) rfl (by rw [hml]; rfl) (argsL := [(.int (99 : Int32)), (.int p5)]) (rest := []) (lenOf own_pd7 rfl) rfl (by show 2 * 0 + _ ≤ _; exact Nat.le_of_eq rfl) (hb hby at_36) (fun _ _ => ⟨rfl, rfl, (by decide : 6 + 3 ≤ _), (by decide : 16 + 8 ≤ _)⟩)
  dsimp only [Pt.U, Pt.locs, Pt.cells, Pt.slots] at X7 l7 y7 z7 st7 hQ7
  subst y7 z7
  obtain ⟨b13_7, t25_7, kb25_7, rfl, Nq7, Kq7, f7_0, f7_1, f7_2, f7_3, f7_4, f7_5, f7_6⟩ := hQ7
  have N7 : Fr n0 L7 := by rw [l7]; exact Fr.app N4 Nq7
  have Kp8 : Keep h0 T7.heap [] := Kp5.trans Kq7 all0
  have Old9 : Old Z n0 T7.heap := Old6.keep Kq7 all0
  obtain ⟨_, _, ⟨T10, L10, k10, n10⟩, -, X10, ⟨Lc10, hQ10, l10, y10, z10⟩, st10⟩ := Jvm.LawKit.callS X7 hx (y := (⟨"com/example/dagsverke/dagsverke/CommandLineValuePinLaw", "str", "(CI)Ljava/lang/String;"⟩ : MethodName)) hown (mvT hZ (hw _ (List.mem_of_getElem? (i := 1) rfl))) (mvT hZ (hw _ (List.mem_of_getElem? (i := 2) rfl))) (mvT hZ (hw _ (List.mem_of_getElem? (i := 3) rfl))) (mvT hZ (hw _ (List.mem_of_getElem? (i := 4) rfl))) (by decide) (backOf (W := 0) (own_rm_str100 l Z a0 hw [] G1 gl p6 T7.heap n0 (Nat.le_trans Z0 Kp8.1) Old9 ) hZ (hw _ (List.mem_of_getElem? (i := 4) rfl)) (hw _ (List.mem_of_getElem? (i := 3) rfl)) (by decide) (by decide)) (g := (mkF m 45 #[.val (.int p1), .val (.int p2), .val (.int p3), .val (.int p4), .val (.int p5), .val (.int p6), .val (.int (own_n p1)), .val (.int (own_i p2 (own_n p1))), .val (.ref b13_1), .val (.ref b13_4), .val (.ref b13_7), .unset, .unset, .unset, .unset, .unset] [(.int p6), (.int (100 : Int32))])) rfl (by rw [hml]; rfl) (argsL := [(.int (100 : Int32)), (.int p6)]) (rest := []) (lenOf own_pd7 rfl) rfl (by show 2 * 0 + _ ≤ _; exact Nat.le_of_eq rfl) (hb hby at_45) (fun _ _ => ⟨rfl, rfl, (by decide : 9 + 3 ≤ _), (by decide : 24 + 8 ≤ _)⟩)
  dsimp only [Pt.U, Pt.locs, Pt.cells, Pt.slots] at X10 l10 y10 z10 st10 hQ10
  subst y10 z10
  obtain ⟨b13_10, t25_10, kb25_10, rfl, Nq10, Kq10, f10_0, f10_1, f10_2, f10_3, f10_4, f10_5, f10_6⟩ := hQ10
  have N10 : Fr n0 L10 := by rw [l10]; exact Fr.app N7 Nq10
  have Kp11 : Keep h0 T10.heap [] := Kp8.trans Kq10 all0
  have Old12 : Old Z n0 T10.heap := Old9.keep Kq10 all0
  obtain ⟨_, _, ⟨T13, L13, k13, n13⟩, -, X13, ⟨Lc13, hQ13, l13, y13, z13⟩, st13⟩ := Jvm.LawKit.callS X10 hx (y := (⟨"java/lang/String", "valueOf", "(C)Ljava/lang/String;"⟩ : MethodName)) hown (mvT hZ (hw _ (List.mem_of_getElem? (i := 35) rfl))) (mvT hZ (hw _ (List.mem_of_getElem? (i := 36) rfl))) (mvT hZ (hw _ (List.mem_of_getElem? (i := 8) rfl))) (mvT hZ (hw _ (List.mem_of_getElem? (i := 37) rfl))) (by decide) (backOf (W := 0) (own_rm_val l Z a0 hw [] G1 gl (own_cx p3 p6) T10.heap n0 (Nat.le_trans Z0 Kp11.1) Old12 ((own_rng_cx p3 p6) : ¬ ((255 : Int32) < (own_cx p3 p6)))) hZ (hw _ (List.mem_of_getElem? (i := 37) rfl)) (hw _ (List.mem_of_getElem? (i := 8) rfl)) (by decide) (by decide)) (g := (mkF m 59 #[.val (.int p1), .val (.int p2), .val (.int p3), .val (.int p4), .val (.int p5), .val (.int p6), .val (.int (own_n p1)), .val (.int (own_i p2 (own_n p1))), .val (.ref b13_1), .val (.ref b13_4), .val (.ref b13_7), .val (.ref b13_10), .unset, .unset, .unset, .unset] [(.int (own_cx p3 p6))])) rfl (by rw [hml]; rfl) (argsL := [(.int (own_cx p3 p6))]) (rest := []) (lenOf own_pd8 rfl) rfl (by show 2 * 0 + _ ≤ _; exact Nat.le_of_eq rfl) (hb hby at_59) (fun _ _ => ⟨rfl, rfl, (by decide : 12 + 2 ≤ _), (by decide : 32 + 5 ≤ _)⟩)
  dsimp only [Pt.U, Pt.locs, Pt.cells, Pt.slots] at X13 l13 y13 z13 st13 hQ13
  subst y13 z13
  obtain ⟨b3_13, b1_5_13, k1_5_13, rfl, Nq13, Kq13, f13_0, f13_1, f13_2, f13_3, f13_4, f13_5⟩ := hQ13
  have N13 : Fr n0 L13 := by rw [l13]; exact Fr.app N10 Nq13
  have Kp14 : Keep h0 T13.heap [] := Kp11.trans Kq13 all0
  have Eh15 : Exa Z T13.heap b13_1 "java/lang/String" := ((((f1_1.keep Kq4).keep Kq7).keep Kq10).keep Kq13)
  have Fh16 : Fld Z T13.heap b13_1 "java/lang/String" "value" "[B" (.ref t25_1) := ((((f1_2.keep Kq4 nin0).keep Kq7 nin0).keep Kq10 nin0).keep Kq13 nin0)
  have Fh17 : Fld Z T13.heap b13_1 "java/lang/String" "coder" "B" (.int (0 : Int32)) := ((((f1_3.keep Kq4 nin0).keep Kq7 nin0).keep Kq10 nin0).keep Kq13 nin0)
  have Eh18 : Exa Z T13.heap b13_4 "java/lang/String" := (((f4_1.keep Kq7).keep Kq10).keep Kq13)
  have Fh19 : Fld Z T13.heap b13_4 "java/lang/String" "value" "[B" (.ref t25_4) := (((f4_2.keep Kq7 nin0).keep Kq10 nin0).keep Kq13 nin0)
  have Fh20 : Fld Z T13.heap b13_4 "java/lang/String" "coder" "B" (.int (0 : Int32)) := (((f4_3.keep Kq7 nin0).keep Kq10 nin0).keep Kq13 nin0)
  have Eh21 : Exa Z T13.heap b13_7 "java/lang/String" := ((f7_1.keep Kq10).keep Kq13)
  have Fh22 : Fld Z T13.heap b13_7 "java/lang/String" "value" "[B" (.ref t25_7) := ((f7_2.keep Kq10 nin0).keep Kq13 nin0)
  have Fh23 : Fld Z T13.heap b13_7 "java/lang/String" "coder" "B" (.int (0 : Int32)) := ((f7_3.keep Kq10 nin0).keep Kq13 nin0)
  have Eh24 : Exa Z T13.heap b13_10 "java/lang/String" := (f10_1.keep Kq13)
  have Fh25 : Fld Z T13.heap b13_10 "java/lang/String" "value" "[B" (.ref t25_10) := (f10_2.keep Kq13 nin0)
  have Fh26 : Fld Z T13.heap b13_10 "java/lang/String" "coder" "B" (.int (0 : Int32)) := (f10_3.keep Kq13 nin0)
  have Vh27 : Arv Z T13.heap t25_1 kb25_1 .byte (2 : Int32) ((([(97 : Int32), (own_ch p3)] : List Int32).map (fun c => c.toInt8.toInt32)).map Value.int) (.int (0 : Int32)) := ((((f1_5.keep Kq4 nin0).keep Kq7 nin0).keep Kq10 nin0).keep Kq13 nin0)
  have Vh28 : Arv Z T13.heap t25_4 kb25_4 .byte (2 : Int32) ((([(98 : Int32), (own_ch p4)] : List Int32).map (fun c => c.toInt8.toInt32)).map Value.int) (.int (0 : Int32)) := (((f4_5.keep Kq7 nin0).keep Kq10 nin0).keep Kq13 nin0)
  have Vh29 : Arv Z T13.heap t25_7 kb25_7 .byte (2 : Int32) ((([(99 : Int32), (own_ch p5)] : List Int32).map (fun c => c.toInt8.toInt32)).map Value.int) (.int (0 : Int32)) := ((f7_5.keep Kq10 nin0).keep Kq13 nin0)
  have Vh30 : Arv Z T13.heap t25_10 kb25_10 .byte (2 : Int32) ((([(100 : Int32), (own_ch p6)] : List Int32).map (fun c => c.toInt8.toInt32)).map Value.int) (.int (0 : Int32)) := (f10_5.keep Kq13 nin0)
  refine ⟨b13_1, b13_4, b13_7, b13_10, b3_13, t25_1, kb25_1, t25_4, kb25_4, t25_7, kb25_7, t25_10, kb25_10, b1_5_13, k1_5_13, T13, T13.heap, _, X13, rfl, N13, Kp14, (Nat.le_trans (Keep.refl h0 []).1 f1_0), Eh15, Fh16, Fh17, (Nat.le_trans Kp2.1 f4_0), Eh18, Fh19, Fh20, (Nat.le_trans Kp5.1 f7_0), Eh21, Fh22, Fh23, (Nat.le_trans Kp8.1 f10_0), Eh24, Fh25, Fh26, (Nat.le_trans Kp11.1 f13_0), f13_1, f13_2, f13_3, (Nat.le_trans (Keep.refl h0 []).1 f1_4), Vh27, f1_6, (Nat.le_trans Kp2.1 f4_4), Vh28, f4_6, (Nat.le_trans Kp5.1 f7_4), Vh29, f7_6, (Nat.le_trans Kp8.1 f10_4), Vh30, f10_6, (Nat.le_trans Kp11.1 f13_4), f13_5, fun target kt => ?_⟩
  show Steps p.tables e below (s₁.setTop (mkF m 0 #[.val (.int p1), .val (.int p2), .val (.int p3), .val (.int p4), .val (.int p5), .val (.int p6), .unset, .unset, .unset, .unset, .unset, .unset, .unset, .unset, .unset, .unset] [])) _
  refine XS.iconst X0.here hx rfl (hb hby at_0) ?_
  show Steps p.tables e below (s₁.setTop (mkF m 1 #[.val (.int p1), .val (.int p2), .val (.int p3), .val (.int p4), .val (.int p5), .val (.int p6), .unset, .unset, .unset, .unset, .unset, .unset, .unset, .unset, .unset, .unset] [(.int (1 : Int32))])) _
  refine XS.iloadN X0.here hx rfl (hb hby at_1) rfl ?_
  show Steps p.tables e below (s₁.setTop (mkF m 2 #[.val (.int p1), .val (.int p2), .val (.int p3), .val (.int p4), .val (.int p5), .val (.int p6), .unset, .unset, .unset, .unset, .unset, .unset, .unset, .unset, .unset, .unset] [(.int p1), (.int (1 : Int32))])) _
  refine XS.iconst X0.here hx rfl (hb hby at_2) ?_
  show Steps p.tables e below (s₁.setTop (mkF m 3 #[.val (.int p1), .val (.int p2), .val (.int p3), .val (.int p4), .val (.int p5), .val (.int p6), .unset, .unset, .unset, .unset, .unset, .unset, .unset, .unset, .unset, .unset] [(.int (3 : Int32)), (.int p1), (.int (1 : Int32))])) _
  refine XS.iand X0.here hx rfl (hb hby at_3) rfl ?_
  show Steps p.tables e below (s₁.setTop (mkF m 4 #[.val (.int p1), .val (.int p2), .val (.int p3), .val (.int p4), .val (.int p5), .val (.int p6), .unset, .unset, .unset, .unset, .unset, .unset, .unset, .unset, .unset, .unset] [(.int (p1 &&& (3 : Int32))), (.int (1 : Int32))])) _
  refine XS.iadd X0.here hx rfl (hb hby at_4) rfl ?_
  show Steps p.tables e below (s₁.setTop (mkF m 5 #[.val (.int p1), .val (.int p2), .val (.int p3), .val (.int p4), .val (.int p5), .val (.int p6), .unset, .unset, .unset, .unset, .unset, .unset, .unset, .unset, .unset, .unset] [(.int (own_n p1))])) _
  refine XS.istore X0.here hx rfl (hb hby at_5) rfl (l' := #[.val (.int p1), .val (.int p2), .val (.int p3), .val (.int p4), .val (.int p5), .val (.int p6), .val (.int (own_n p1)), .unset, .unset, .unset, .unset, .unset, .unset, .unset, .unset, .unset]) rfl ?_
  show Steps p.tables e below (s₁.setTop (mkF m 7 #[.val (.int p1), .val (.int p2), .val (.int p3), .val (.int p4), .val (.int p5), .val (.int p6), .val (.int (own_n p1)), .unset, .unset, .unset, .unset, .unset, .unset, .unset, .unset, .unset] [])) _
  refine XS.iloadN X0.here hx rfl (hb hby at_7) rfl ?_
  show Steps p.tables e below (s₁.setTop (mkF m 8 #[.val (.int p1), .val (.int p2), .val (.int p3), .val (.int p4), .val (.int p5), .val (.int p6), .val (.int (own_n p1)), .unset, .unset, .unset, .unset, .unset, .unset, .unset, .unset, .unset] [(.int p2)])) _
  refine X0.ldcInt hx hown (mvT hZ (hw _ (List.mem_of_getElem? (i := 0) rfl))) (g := (mkF m 8 #[.val (.int p1), .val (.int p2), .val (.int p3), .val (.int p4), .val (.int p5), .val (.int p6), .val (.int (own_n p1)), .unset, .unset, .unset, .unset, .unset, .unset, .unset, .unset, .unset] [(.int p2)])) rfl (hb hby at_8) _ ?_
  show Steps p.tables e below (s₁.setTop (mkF m 10 #[.val (.int p1), .val (.int p2), .val (.int p3), .val (.int p4), .val (.int p5), .val (.int p6), .val (.int (own_n p1)), .unset, .unset, .unset, .unset, .unset, .unset, .unset, .unset, .unset] [(.int (2147483647 : Int32)), (.int p2)])) _
  refine XS.iand X0.here hx rfl (hb hby at_10) rfl ?_
  show Steps p.tables e below (s₁.setTop (mkF m 11 #[.val (.int p1), .val (.int p2), .val (.int p3), .val (.int p4), .val (.int p5), .val (.int p6), .val (.int (own_n p1)), .unset, .unset, .unset, .unset, .unset, .unset, .unset, .unset, .unset] [(.int (p2 &&& (2147483647 : Int32)))])) _
  refine XS.iload X0.here hx rfl (hb hby at_11) rfl ?_
  show Steps p.tables e below (s₁.setTop (mkF m 13 #[.val (.int p1), .val (.int p2), .val (.int p3), .val (.int p4), .val (.int p5), .val (.int p6), .val (.int (own_n p1)), .unset, .unset, .unset, .unset, .unset, .unset, .unset, .unset, .unset] [(.int (own_n p1)), (.int (p2 &&& (2147483647 : Int32)))])) _
  refine iremM X0 hx rfl (hb hby at_13) rfl (own_nnz p1) ?_
  show Steps p.tables e below (s₁.setTop (mkF m 14 #[.val (.int p1), .val (.int p2), .val (.int p3), .val (.int p4), .val (.int p5), .val (.int p6), .val (.int (own_n p1)), .unset, .unset, .unset, .unset, .unset, .unset, .unset, .unset, .unset] [(.int (own_i p2 (own_n p1)))])) _
  refine XS.istore X0.here hx rfl (hb hby at_14) rfl (l' := #[.val (.int p1), .val (.int p2), .val (.int p3), .val (.int p4), .val (.int p5), .val (.int p6), .val (.int (own_n p1)), .val (.int (own_i p2 (own_n p1))), .unset, .unset, .unset, .unset, .unset, .unset, .unset, .unset]) rfl ?_
  show Steps p.tables e below (s₁.setTop (mkF m 16 #[.val (.int p1), .val (.int p2), .val (.int p3), .val (.int p4), .val (.int p5), .val (.int p6), .val (.int (own_n p1)), .val (.int (own_i p2 (own_n p1))), .unset, .unset, .unset, .unset, .unset, .unset, .unset, .unset] [])) _
  refine XS.bipush X0.here hx rfl (hb hby at_16) ?_
  show Steps p.tables e below (s₁.setTop (mkF m 18 #[.val (.int p1), .val (.int p2), .val (.int p3), .val (.int p4), .val (.int p5), .val (.int p6), .val (.int (own_n p1)), .val (.int (own_i p2 (own_n p1))), .unset, .unset, .unset, .unset, .unset, .unset, .unset, .unset] [(.int (97 : Int32))])) _
  refine XS.iloadN X0.here hx rfl (hb hby at_18) rfl ?_
  show Steps p.tables e below (s₁.setTop (mkF m 19 #[.val (.int p1), .val (.int p2), .val (.int p3), .val (.int p4), .val (.int p5), .val (.int p6), .val (.int (own_n p1)), .val (.int (own_i p2 (own_n p1))), .unset, .unset, .unset, .unset, .unset, .unset, .unset, .unset] [(.int p3), (.int (97 : Int32))])) _
  refine st1 _ ?_
  show Steps p.tables e below (T1.setTop (mkF m 22 #[.val (.int p1), .val (.int p2), .val (.int p3), .val (.int p4), .val (.int p5), .val (.int p6), .val (.int (own_n p1)), .val (.int (own_i p2 (own_n p1))), .unset, .unset, .unset, .unset, .unset, .unset, .unset, .unset] [(.ref b13_1)])) _
  refine XS.astore X1.here hx rfl (hb hby at_22) rfl rfl (l' := #[.val (.int p1), .val (.int p2), .val (.int p3), .val (.int p4), .val (.int p5), .val (.int p6), .val (.int (own_n p1)), .val (.int (own_i p2 (own_n p1))), .val (.ref b13_1), .unset, .unset, .unset, .unset, .unset, .unset, .unset]) rfl ?_
  show Steps p.tables e below (T1.setTop (mkF m 24 #[.val (.int p1), .val (.int p2), .val (.int p3), .val (.int p4), .val (.int p5), .val (.int p6), .val (.int (own_n p1)), .val (.int (own_i p2 (own_n p1))), .val (.ref b13_1), .unset, .unset, .unset, .unset, .unset, .unset, .unset] [])) _
  refine XS.bipush X1.here hx rfl (hb hby at_24) ?_
  show Steps p.tables e below (T1.setTop (mkF m 26 #[.val (.int p1), .val (.int p2), .val (.int p3), .val (.int p4), .val (.int p5), .val (.int p6), .val (.int (own_n p1)), .val (.int (own_i p2 (own_n p1))), .val (.ref b13_1), .unset, .unset, .unset, .unset, .unset, .unset, .unset] [(.int (98 : Int32))])) _
  refine XS.iloadN X1.here hx rfl (hb hby at_26) rfl ?_
  show Steps p.tables e below (T1.setTop (mkF m 27 #[.val (.int p1), .val (.int p2), .val (.int p3), .val (.int p4), .val (.int p5), .val (.int p6), .val (.int (own_n p1)), .val (.int (own_i p2 (own_n p1))), .val (.ref b13_1), .unset, .unset, .unset, .unset, .unset, .unset, .unset] [(.int p4), (.int (98 : Int32))])) _
  refine st4 _ ?_
  show Steps p.tables e below (T4.setTop (mkF m 30 #[.val (.int p1), .val (.int p2), .val (.int p3), .val (.int p4), .val (.int p5), .val (.int p6), .val (.int (own_n p1)), .val (.int (own_i p2 (own_n p1))), .val (.ref b13_1), .unset, .unset, .unset, .unset, .unset, .unset, .unset] [(.ref b13_4)])) _
  refine XS.astore X4.here hx rfl (hb hby at_30) rfl rfl (l' := #[.val (.int p1), .val (.int p2), .val (.int p3), .val (.int p4), .val (.int p5), .val (.int p6), .val (.int (own_n p1)), .val (.int (own_i p2 (own_n p1))), .val (.ref b13_1), .val (.ref b13_4), .unset, .unset, .unset, .unset, .unset, .unset]) rfl ?_
  show Steps p.tables e below (T4.setTop (mkF m 32 #[.val (.int p1), .val (.int p2), .val (.int p3), .val (.int p4), .val (.int p5), .val (.int p6), .val (.int (own_n p1)), .val (.int (own_i p2 (own_n p1))), .val (.ref b13_1), .val (.ref b13_4), .unset, .unset, .unset, .unset, .unset, .unset] [])) _
  refine XS.bipush X4.here hx rfl (hb hby at_32) ?_
  show Steps p.tables e below (T4.setTop (mkF m 34 #[.val (.int p1), .val (.int p2), .val (.int p3), .val (.int p4), .val (.int p5), .val (.int p6), .val (.int (own_n p1)), .val (.int (own_i p2 (own_n p1))), .val (.ref b13_1), .val (.ref b13_4), .unset, .unset, .unset, .unset, .unset, .unset] [(.int (99 : Int32))])) _
  refine XS.iload X4.here hx rfl (hb hby at_34) rfl ?_
  show Steps p.tables e below (T4.setTop (mkF m 36 #[.val (.int p1), .val (.int p2), .val (.int p3), .val (.int p4), .val (.int p5), .val (.int p6), .val (.int (own_n p1)), .val (.int (own_i p2 (own_n p1))), .val (.ref b13_1), .val (.ref b13_4), .unset, .unset, .unset, .unset, .unset, .unset] [(.int p5), (.int (99 : Int32))])) _
  refine st7 _ ?_
  show Steps p.tables e below (T7.setTop (mkF m 39 #[.val (.int p1), .val (.int p2), .val (.int p3), .val (.int p4), .val (.int p5), .val (.int p6), .val (.int (own_n p1)), .val (.int (own_i p2 (own_n p1))), .val (.ref b13_1), .val (.ref b13_4), .unset, .unset, .unset, .unset, .unset, .unset] [(.ref b13_7)])) _
  refine XS.astore X7.here hx rfl (hb hby at_39) rfl rfl (l' := #[.val (.int p1), .val (.int p2), .val (.int p3), .val (.int p4), .val (.int p5), .val (.int p6), .val (.int (own_n p1)), .val (.int (own_i p2 (own_n p1))), .val (.ref b13_1), .val (.ref b13_4), .val (.ref b13_7), .unset, .unset, .unset, .unset, .unset]) rfl ?_
  show Steps p.tables e below (T7.setTop (mkF m 41 #[.val (.int p1), .val (.int p2), .val (.int p3), .val (.int p4), .val (.int p5), .val (.int p6), .val (.int (own_n p1)), .val (.int (own_i p2 (own_n p1))), .val (.ref b13_1), .val (.ref b13_4), .val (.ref b13_7), .unset, .unset, .unset, .unset, .unset] [])) _
  refine XS.bipush X7.here hx rfl (hb hby at_41) ?_
  show Steps p.tables e below (T7.setTop (mkF m 43 #[.val (.int p1), .val (.int p2), .val (.int p3), .val (.int p4), .val (.int p5), .val (.int p6), .val (.int (own_n p1)), .val (.int (own_i p2 (own_n p1))), .val (.ref b13_1), .val (.ref b13_4), .val (.ref b13_7), .unset, .unset, .unset, .unset, .unset] [(.int (100 : Int32))])) _
  refine XS.iload X7.here hx rfl (hb hby at_43) rfl ?_
  show Steps p.tables e below (T7.setTop (mkF m 45 #[.val (.int p1), .val (.int p2), .val (.int p3), .val (.int p4), .val (.int p5), .val (.int p6), .val (.int (own_n p1)), .val (.int (own_i p2 (own_n p1))), .val (.ref b13_1), .val (.ref b13_4), .val (.ref b13_7), .unset, .unset, .unset, .unset, .unset] [(.int p6), (.int (100 : Int32))])) _
  refine st10 _ ?_
  show Steps p.tables e below (T10.setTop (mkF m 48 #[.val (.int p1), .val (.int p2), .val (.int p3), .val (.int p4), .val (.int p5), .val (.int p6), .val (.int (own_n p1)), .val (.int (own_i p2 (own_n p1))), .val (.ref b13_1), .val (.ref b13_4), .val (.ref b13_7), .unset, .unset, .unset, .unset, .unset] [(.ref b13_10)])) _
  refine XS.astore X10.here hx rfl (hb hby at_48) rfl rfl (l' := #[.val (.int p1), .val (.int p2), .val (.int p3), .val (.int p4), .val (.int p5), .val (.int p6), .val (.int (own_n p1)), .val (.int (own_i p2 (own_n p1))), .val (.ref b13_1), .val (.ref b13_4), .val (.ref b13_7), .val (.ref b13_10), .unset, .unset, .unset, .unset]) rfl ?_
  show Steps p.tables e below (T10.setTop (mkF m 50 #[.val (.int p1), .val (.int p2), .val (.int p3), .val (.int p4), .val (.int p5), .val (.int p6), .val (.int (own_n p1)), .val (.int (own_i p2 (own_n p1))), .val (.ref b13_1), .val (.ref b13_4), .val (.ref b13_7), .val (.ref b13_10), .unset, .unset, .unset, .unset] [])) _
  refine XS.iloadN X10.here hx rfl (hb hby at_50) rfl ?_
  show Steps p.tables e below (T10.setTop (mkF m 51 #[.val (.int p1), .val (.int p2), .val (.int p3), .val (.int p4), .val (.int p5), .val (.int p6), .val (.int (own_n p1)), .val (.int (own_i p2 (own_n p1))), .val (.ref b13_1), .val (.ref b13_4), .val (.ref b13_7), .val (.ref b13_10), .unset, .unset, .unset, .unset] [(.int p3)])) _
  refine XS.iload X10.here hx rfl (hb hby at_51) rfl ?_
  show Steps p.tables e below (T10.setTop (mkF m 53 #[.val (.int p1), .val (.int p2), .val (.int p3), .val (.int p4), .val (.int p5), .val (.int p6), .val (.int (own_n p1)), .val (.int (own_i p2 (own_n p1))), .val (.ref b13_1), .val (.ref b13_4), .val (.ref b13_7), .val (.ref b13_10), .unset, .unset, .unset, .unset] [(.int p6), (.int p3)])) _
  refine XS.ixor X10.here hx rfl (hb hby at_53) rfl ?_
  show Steps p.tables e below (T10.setTop (mkF m 54 #[.val (.int p1), .val (.int p2), .val (.int p3), .val (.int p4), .val (.int p5), .val (.int p6), .val (.int (own_n p1)), .val (.int (own_i p2 (own_n p1))), .val (.ref b13_1), .val (.ref b13_4), .val (.ref b13_7), .val (.ref b13_10), .unset, .unset, .unset, .unset] [(.int (p3 ^^^ p6))])) _
  refine XS.sipush X10.here hx rfl (hb hby at_54) ?_
  show Steps p.tables e below (T10.setTop (mkF m 57 #[.val (.int p1), .val (.int p2), .val (.int p3), .val (.int p4), .val (.int p5), .val (.int p6), .val (.int (own_n p1)), .val (.int (own_i p2 (own_n p1))), .val (.ref b13_1), .val (.ref b13_4), .val (.ref b13_7), .val (.ref b13_10), .unset, .unset, .unset, .unset] [(.int (255 : Int32)), (.int (p3 ^^^ p6))])) _
  refine XS.iand X10.here hx rfl (hb hby at_57) rfl ?_
  show Steps p.tables e below (T10.setTop (mkF m 58 #[.val (.int p1), .val (.int p2), .val (.int p3), .val (.int p4), .val (.int p5), .val (.int p6), .val (.int (own_n p1)), .val (.int (own_i p2 (own_n p1))), .val (.ref b13_1), .val (.ref b13_4), .val (.ref b13_7), .val (.ref b13_10), .unset, .unset, .unset, .unset] [(.int ((p3 ^^^ p6) &&& (255 : Int32)))])) _
  refine XS.i2c X10.here hx rfl (hb hby at_58) rfl ?_
  show Steps p.tables e below (T10.setTop (mkF m 59 #[.val (.int p1), .val (.int p2), .val (.int p3), .val (.int p4), .val (.int p5), .val (.int p6), .val (.int (own_n p1)), .val (.int (own_i p2 (own_n p1))), .val (.ref b13_1), .val (.ref b13_4), .val (.ref b13_7), .val (.ref b13_10), .unset, .unset, .unset, .unset] [(.int (own_cx p3 p6))])) _
  refine st13 _ ?_
  show Steps p.tables e below (T13.setTop (mkF m 62 #[.val (.int p1), .val (.int p2), .val (.int p3), .val (.int p4), .val (.int p5), .val (.int p6), .val (.int (own_n p1)), .val (.int (own_i p2 (own_n p1))), .val (.ref b13_1), .val (.ref b13_4), .val (.ref b13_7), .val (.ref b13_10), .unset, .unset, .unset, .unset] [(.ref b3_13)])) _
  refine XS.astore X13.here hx rfl (hb hby at_62) rfl rfl (l' := #[.val (.int p1), .val (.int p2), .val (.int p3), .val (.int p4), .val (.int p5), .val (.int p6), .val (.int (own_n p1)), .val (.int (own_i p2 (own_n p1))), .val (.ref b13_1), .val (.ref b13_4), .val (.ref b13_7), .val (.ref b13_10), .val (.ref b3_13), .unset, .unset, .unset]) rfl ?_
  exact kt
theorem own_d_prog_1_method_2_0 : decode prog_1_method_2_code 0 = .ok (.iload_n 1, 1) := by decide +kernel
theorem own_d_prog_1_method_2_1 : decode prog_1_method_2_code 1 = .ok (.aload_n 0, 1) := by decide +kernel
theorem own_d_prog_1_method_2_2 : decode prog_1_method_2_code 2 = .ok (.arraylength, 1) := by decide +kernel
theorem own_d_prog_1_method_2_3 : decode prog_1_method_2_code 3 = .ok (.if_icmp .ne 17, 3) := by decide +kernel
theorem own_d_prog_1_method_2_20 : decode prog_1_method_2_code 20 = .ok (.aload_n 0, 1) := by decide +kernel
theorem own_d_prog_1_method_2_21 : decode prog_1_method_2_code 21 = .ok (.iload_n 1, 1) := by decide +kernel
theorem own_d_prog_1_method_2_22 : decode prog_1_method_2_code 22 = .ok (.aaload, 1) := by decide +kernel
theorem own_d_prog_1_method_2_23 : decode prog_1_method_2_code 23 = .ok (.areturn, 1) := by decide +kernel
theorem own_pn9 : plainName "com/example/dagsverke/dagsverke/CommandLine" = true := by first | (simp [plainName, overriddenIn]; done) | decide +kernel
def own_Qrm_v10 (Z : State) (G1 : Int32) (a1 : Addr) (a2 : Addr) (k3 : ClassId) (s4 : Addr) (h0 : Heap) (n0 : Nat) (v : Option Value) (h : Heap) (L : List Loc) : Prop := (v = some (.ref s4)) ∧ (Fr n0 L) ∧ (h = h0)
theorem own_efrm_v10 (m : MethodId) (a1 : Addr) (a2 : Addr) : entryFrame m #[(.ref a1), (.int (0 : Int32)), (.ref a2)] 3 = mkF m 0 #[.val (.ref a1), .val (.int (0 : Int32)), .val (.ref a2)] [] := by first | (simp [entryFrame, mkF, argsToLocals, Value.category]; done) | rfl
set_option maxRecDepth 65536 in
set_option maxHeartbeats 40000000 in
theorem own_rm_v10 (l : Launch) (Z : State) (a0 : Array Value) (hw : ∀ d ∈ tables_1, d.before a0 Z = true) (ws : List Jvm.Cond) (G1 : Int32) (gl : own_Glob Z G1) (a1 : Addr) (a2 : Addr) (k3 : ClassId) (s4 : Addr) (h0 : Heap) (n0 : Nat) (Z0 : n0 ≤ h0.size) (P1 : Arv Z h0 a1 k3 (.object "java/lang/String") (1 : Int32) [(.ref s4)] .null) :
    MetFree l (⟨"com/example/dagsverke/dagsverke/CommandLine", "value", "([Ljava/lang/String;ILjava/lang/String;)Ljava/lang/String;"⟩ : MethodName) (head1 (Jvm.Cond.code (⟨"com/example/dagsverke/dagsverke/CommandLine", "value", "([Ljava/lang/String;ILjava/lang/String;)Ljava/lang/String;"⟩ : MethodName) prog_1_method_2_code 3 (some (.object "java/lang/String")) :: ws) ({ frames := 0, cells := 0, slots := 0, locals := 0 } : Room)) (fun a U => a = #[(.ref a1), (.int (0 : Int32)), (.ref a2)] ∧ Z.Warmed39 U.vm ∧ U.heap = h0) (fun _ _ _ _ _ => True) (fun _ U o U' => ∃ v L, o = .returned v ∧ own_Qrm_v10 Z G1 a1 a2 k3 s4 h0 n0 v U'.heap L ∧ FrameEnd U o U' L ({ frames := 0, cells := 0, slots := 0, locals := 0 } : Room).cells ({ frames := 0, cells := 0, slots := 0, locals := 0 } : Room).slots) := by
  refine MetFree.of_bodySF (plainFor_of_name own_pn9) hisR ?_
  intro p e s m args below meth c s₁ Bd hml0 hP hK
  obtain ⟨rfl, hZ, hh⟩ := hP
  obtain ⟨O_CS, P_CS⟩ := id gl
  have hx := Bd.exec
  have hby := Bd.bytes
  have hml : c.maxLocals = 3 := hml0
  have hown : s.vm.findClass "com/example/dagsverke/dagsverke/CommandLine" = some m.cls := findClass_of_methodNamed Bd.named
  have hnm := (name_of_methodNamed Bd.named Bd.method).1
  have X0 : Stand p l e ({ frames := 0, cells := 0, slots := 0, locals := 0 } : Room) s m #[(.ref a1), (.int (0 : Int32)), (.ref a2)] below meth c s₁ [] 0 0 := Stand.of_body Bd
  have e0 : s₁.heap = h0 := by rw [← hh, Bd.state]; rfl
  have N0 := Fr.nil n0
  have pre0 : ∀ t, Steps p.tables e below (s₁.setTop (mkF m 0 #[.val (.ref a1), .val (.int (0 : Int32)), .val (.ref a2)] [])) t → Steps p.tables e below (s₁.setTop (entryFrame m #[(.ref a1), (.int (0 : Int32)), (.ref a2)] 3)) t := fun t k => castTop (own_efrm_v10 m a1 a2) k
  obtain ⟨cl1, Ar1, -, Sz1, Ng1, -, -⟩ := id P1
  obtain ⟨cl2, Ar2, qc2, Sz2, Ng2, Hs2, Gs2⟩ := id P1
  have hin2 : ¬ ((0 : Int32) < 0 ∨ cl2.slots.size ≤ ((0 : Int32)).toNatClampNeg) := inb_of Sz2 ⟨(by decide), (by decide)⟩
  have hat2 : cl2.slots[((0 : Int32)).toNatClampNeg]? = some (.ref s4) := Has.at Hs2 hin2 rfl
  obtain ⟨fs, hr, hrun, hended, hW, hsame⟩ := X0.leave (v := some (.ref s4)) (fun h => by rw [Bd.returns] at h; cases h)
  refine ⟨_, _, pre0 _ ?_, hrun, hended, _, _, rfl, ?_, ⟨_, rfl⟩, hW, hsame.mono (by decide) (by decide)⟩
  · show Steps p.tables e below (s₁.setTop (mkF m 0 #[.val (.ref a1), .val (.int (0 : Int32)), .val (.ref a2)] [])) _
    refine XS.iloadN X0.here hx rfl (hb hby own_d_prog_1_method_2_0) rfl ?_
    show Steps p.tables e below (s₁.setTop (mkF m 1 #[.val (.ref a1), .val (.int (0 : Int32)), .val (.ref a2)] [(.int (0 : Int32))])) _
    refine XS.aloadN X0.here hx rfl (hb hby own_d_prog_1_method_2_1) rfl rfl ?_
    show Steps p.tables e below (s₁.setTop (mkF m 2 #[.val (.ref a1), .val (.int (0 : Int32)), .val (.ref a2)] [(.ref a1), (.int (0 : Int32))])) _
    refine X0.arraylength hx (by rw [e0]; exact Ar1.1) (State.isArrayOf_alike hZ.alike Ar1.2.1) (g := (mkF m 2 #[.val (.ref a1), .val (.int (0 : Int32)), .val (.ref a2)] [(.ref a1), (.int (0 : Int32))])) rfl rfl (hb hby own_d_prog_1_method_2_2) _ ?_
    rw [len_of Sz1 Ng1]
    show Steps p.tables e below (s₁.setTop (mkF m 3 #[.val (.ref a1), .val (.int (0 : Int32)), .val (.ref a2)] [(.int (1 : Int32)), (.int (0 : Int32))])) _
    refine XS.icmpYes X0.here hx rfl (pc0 := 3) (pc' := 20) rfl (hb hby own_d_prog_1_method_2_3) rfl (feq (by decide : ¬ ((0 : Int32) = (1 : Int32)))).2 (by decide) (by decide) ?_
    show Steps p.tables e below (s₁.setTop (mkF m 20 #[.val (.ref a1), .val (.int (0 : Int32)), .val (.ref a2)] [])) _
    refine XS.aloadN X0.here hx rfl (hb hby own_d_prog_1_method_2_20) rfl rfl ?_
    show Steps p.tables e below (s₁.setTop (mkF m 21 #[.val (.ref a1), .val (.int (0 : Int32)), .val (.ref a2)] [(.ref a1)])) _
    refine XS.iloadN X0.here hx rfl (hb hby own_d_prog_1_method_2_21) rfl ?_
    show Steps p.tables e below (s₁.setTop (mkF m 22 #[.val (.ref a1), .val (.int (0 : Int32)), .val (.ref a2)] [(.int (0 : Int32)), (.ref a1)])) _
    refine X0.aaload hx (j := (0 : Int32)) (v := (.ref s4)) (by rw [e0]; exact Ar2.1) (State.isArrayOf_alike hZ.alike Ar2.2.1) rfl Ar2.2.2 hin2 hat2 (g := (mkF m 22 #[.val (.ref a1), .val (.int (0 : Int32)), .val (.ref a2)] [(.int (0 : Int32)), (.ref a1)])) rfl rfl (hb hby own_d_prog_1_method_2_22) _ ?_
    show Steps p.tables e below (s₁.setTop (mkF m 23 #[.val (.ref a1), .val (.int (0 : Int32)), .val (.ref a2)] [(.ref s4)])) _
    jvm_step X0.here [X0.here.top, hx, (hb hby own_d_prog_1_method_2_23), X0.method', Bd.returns, Value.isRef, FieldType.isReference]
    first | (intro acts; rw [hr _ acts rfl rfl rfl]) | rw [hr _ _ rfl rfl rfl]
    exact Steps.refl _
  · show own_Qrm_v10 Z G1 a1 a2 k3 s4 h0 n0 _ s₁.heap _
    rw [e0]
    exact ⟨rfl, N0, rfl⟩
def own_Qrm_v20 (Z : State) (G1 : Int32) (a1 : Addr) (a2 : Addr) (k3 : ClassId) (s4 : Addr) (s5 : Addr) (h0 : Heap) (n0 : Nat) (v : Option Value) (h : Heap) (L : List Loc) : Prop := (v = some (.ref s4)) ∧ (Fr n0 L) ∧ (h = h0)
theorem own_efrm_v20 (m : MethodId) (a1 : Addr) (a2 : Addr) : entryFrame m #[(.ref a1), (.int (0 : Int32)), (.ref a2)] 3 = mkF m 0 #[.val (.ref a1), .val (.int (0 : Int32)), .val (.ref a2)] [] := by first | (simp [entryFrame, mkF, argsToLocals, Value.category]; done) | rfl
set_option maxRecDepth 65536 in
set_option maxHeartbeats 40000000 in
theorem own_rm_v20 (l : Launch) (Z : State) (a0 : Array Value) (hw : ∀ d ∈ tables_1, d.before a0 Z = true) (ws : List Jvm.Cond) (G1 : Int32) (gl : own_Glob Z G1) (a1 : Addr) (a2 : Addr) (k3 : ClassId) (s4 : Addr) (s5 : Addr) (h0 : Heap) (n0 : Nat) (Z0 : n0 ≤ h0.size) (P1 : Arv Z h0 a1 k3 (.object "java/lang/String") (2 : Int32) [(.ref s4), (.ref s5)] .null) :
    MetFree l (⟨"com/example/dagsverke/dagsverke/CommandLine", "value", "([Ljava/lang/String;ILjava/lang/String;)Ljava/lang/String;"⟩ : MethodName) (head1 (Jvm.Cond.code (⟨"com/example/dagsverke/dagsverke/CommandLine", "value", "([Ljava/lang/String;ILjava/lang/String;)Ljava/lang/String;"⟩ : MethodName) prog_1_method_2_code 3 (some (.object "java/lang/String")) :: ws) ({ frames := 0, cells := 0, slots := 0, locals := 0 } : Room)) (fun a U => a = #[(.ref a1), (.int (0 : Int32)), (.ref a2)] ∧ Z.Warmed39 U.vm ∧ U.heap = h0) (fun _ _ _ _ _ => True) (fun _ U o U' => ∃ v L, o = .returned v ∧ own_Qrm_v20 Z G1 a1 a2 k3 s4 s5 h0 n0 v U'.heap L ∧ FrameEnd U o U' L ({ frames := 0, cells := 0, slots := 0, locals := 0 } : Room).cells ({ frames := 0, cells := 0, slots := 0, locals := 0 } : Room).slots) := by
  refine MetFree.of_bodySF (plainFor_of_name own_pn9) hisR ?_
  intro p e s m args below meth c s₁ Bd hml0 hP hK
  obtain ⟨rfl, hZ, hh⟩ := hP
  obtain ⟨O_CS, P_CS⟩ := id gl
  have hx := Bd.exec
  have hby := Bd.bytes
  have hml : c.maxLocals = 3 := hml0
  have hown : s.vm.findClass "com/example/dagsverke/dagsverke/CommandLine" = some m.cls := findClass_of_methodNamed Bd.named
  have hnm := (name_of_methodNamed Bd.named Bd.method).1
  have X0 : Stand p l e ({ frames := 0, cells := 0, slots := 0, locals := 0 } : Room) s m #[(.ref a1), (.int (0 : Int32)), (.ref a2)] below meth c s₁ [] 0 0 := Stand.of_body Bd
  have e0 : s₁.heap = h0 := by rw [← hh, Bd.state]; rfl
  have N0 := Fr.nil n0
  have pre0 : ∀ t, Steps p.tables e below (s₁.setTop (mkF m 0 #[.val (.ref a1), .val (.int (0 : Int32)), .val (.ref a2)] [])) t → Steps p.tables e below (s₁.setTop (entryFrame m #[(.ref a1), (.int (0 : Int32)), (.ref a2)] 3)) t := fun t k => castTop (own_efrm_v20 m a1 a2) k
  obtain ⟨cl1, Ar1, -, Sz1, Ng1, -, -⟩ := id P1
  obtain ⟨cl2, Ar2, qc2, Sz2, Ng2, Hs2, Gs2⟩ := id P1
  have hin2 : ¬ ((0 : Int32) < 0 ∨ cl2.slots.size ≤ ((0 : Int32)).toNatClampNeg) := inb_of Sz2 ⟨(by decide), (by decide)⟩
  have hat2 : cl2.slots[((0 : Int32)).toNatClampNeg]? = some (.ref s4) := Has.at Hs2 hin2 rfl
  obtain ⟨fs, hr, hrun, hended, hW, hsame⟩ := X0.leave (v := some (.ref s4)) (fun h => by rw [Bd.returns] at h; cases h)
  refine ⟨_, _, pre0 _ ?_, hrun, hended, _, _, rfl, ?_, ⟨_, rfl⟩, hW, hsame.mono (by decide) (by decide)⟩
  · show Steps p.tables e below (s₁.setTop (mkF m 0 #[.val (.ref a1), .val (.int (0 : Int32)), .val (.ref a2)] [])) _
    refine XS.iloadN X0.here hx rfl (hb hby own_d_prog_1_method_2_0) rfl ?_
    show Steps p.tables e below (s₁.setTop (mkF m 1 #[.val (.ref a1), .val (.int (0 : Int32)), .val (.ref a2)] [(.int (0 : Int32))])) _
    refine XS.aloadN X0.here hx rfl (hb hby own_d_prog_1_method_2_1) rfl rfl ?_
    show Steps p.tables e below (s₁.setTop (mkF m 2 #[.val (.ref a1), .val (.int (0 : Int32)), .val (.ref a2)] [(.ref a1), (.int (0 : Int32))])) _
    refine X0.arraylength hx (by rw [e0]; exact Ar1.1) (State.isArrayOf_alike hZ.alike Ar1.2.1) (g := (mkF m 2 #[.val (.ref a1), .val (.int (0 : Int32)), .val (.ref a2)] [(.ref a1), (.int (0 : Int32))])) rfl rfl (hb hby own_d_prog_1_method_2_2) _ ?_
    rw [len_of Sz1 Ng1]
    show Steps p.tables e below (s₁.setTop (mkF m 3 #[.val (.ref a1), .val (.int (0 : Int32)), .val (.ref a2)] [(.int (2 : Int32)), (.int (0 : Int32))])) _
    refine XS.icmpYes X0.here hx rfl (pc0 := 3) (pc' := 20) rfl (hb hby own_d_prog_1_method_2_3) rfl (feq (by decide : ¬ ((0 : Int32) = (2 : Int32)))).2 (by decide) (by decide) ?_
    show Steps p.tables e below (s₁.setTop (mkF m 20 #[.val (.ref a1), .val (.int (0 : Int32)), .val (.ref a2)] [])) _
    refine XS.aloadN X0.here hx rfl (hb hby own_d_prog_1_method_2_20) rfl rfl ?_
    show Steps p.tables e below (s₁.setTop (mkF m 21 #[.val (.ref a1), .val (.int (0 : Int32)), .val (.ref a2)] [(.ref a1)])) _
    refine XS.iloadN X0.here hx rfl (hb hby own_d_prog_1_method_2_21) rfl ?_
    show Steps p.tables e below (s₁.setTop (mkF m 22 #[.val (.ref a1), .val (.int (0 : Int32)), .val (.ref a2)] [(.int (0 : Int32)), (.ref a1)])) _
    refine X0.aaload hx (j := (0 : Int32)) (v := (.ref s4)) (by rw [e0]; exact Ar2.1) (State.isArrayOf_alike hZ.alike Ar2.2.1) rfl Ar2.2.2 hin2 hat2 (g := (mkF m 22 #[.val (.ref a1), .val (.int (0 : Int32)), .val (.ref a2)] [(.int (0 : Int32)), (.ref a1)])) rfl rfl (hb hby own_d_prog_1_method_2_22) _ ?_
    show Steps p.tables e below (s₁.setTop (mkF m 23 #[.val (.ref a1), .val (.int (0 : Int32)), .val (.ref a2)] [(.ref s4)])) _
    jvm_step X0.here [X0.here.top, hx, (hb hby own_d_prog_1_method_2_23), X0.method', Bd.returns, Value.isRef, FieldType.isReference]
    first | (intro acts; rw [hr _ acts rfl rfl rfl]) | rw [hr _ _ rfl rfl rfl]
    exact Steps.refl _
  · show own_Qrm_v20 Z G1 a1 a2 k3 s4 s5 h0 n0 _ s₁.heap _
    rw [e0]
    exact ⟨rfl, N0, rfl⟩
def own_Qrm_v21 (Z : State) (G1 : Int32) (a1 : Addr) (a2 : Addr) (k3 : ClassId) (s4 : Addr) (s5 : Addr) (h0 : Heap) (n0 : Nat) (v : Option Value) (h : Heap) (L : List Loc) : Prop := (v = some (.ref s5)) ∧ (Fr n0 L) ∧ (h = h0)
theorem own_efrm_v21 (m : MethodId) (a1 : Addr) (a2 : Addr) : entryFrame m #[(.ref a1), (.int (1 : Int32)), (.ref a2)] 3 = mkF m 0 #[.val (.ref a1), .val (.int (1 : Int32)), .val (.ref a2)] [] := by first | (simp [entryFrame, mkF, argsToLocals, Value.category]; done) | rfl
set_option maxRecDepth 65536 in
set_option maxHeartbeats 40000000 in
theorem own_rm_v21 (l : Launch) (Z : State) (a0 : Array Value) (hw : ∀ d ∈ tables_1, d.before a0 Z = true) (ws : List Jvm.Cond) (G1 : Int32) (gl : own_Glob Z G1) (a1 : Addr) (a2 : Addr) (k3 : ClassId) (s4 : Addr) (s5 : Addr) (h0 : Heap) (n0 : Nat) (Z0 : n0 ≤ h0.size) (P1 : Arv Z h0 a1 k3 (.object "java/lang/String") (2 : Int32) [(.ref s4), (.ref s5)] .null) :
    MetFree l (⟨"com/example/dagsverke/dagsverke/CommandLine", "value", "([Ljava/lang/String;ILjava/lang/String;)Ljava/lang/String;"⟩ : MethodName) (head1 (Jvm.Cond.code (⟨"com/example/dagsverke/dagsverke/CommandLine", "value", "([Ljava/lang/String;ILjava/lang/String;)Ljava/lang/String;"⟩ : MethodName) prog_1_method_2_code 3 (some (.object "java/lang/String")) :: ws) ({ frames := 0, cells := 0, slots := 0, locals := 0 } : Room)) (fun a U => a = #[(.ref a1), (.int (1 : Int32)), (.ref a2)] ∧ Z.Warmed39 U.vm ∧ U.heap = h0) (fun _ _ _ _ _ => True) (fun _ U o U' => ∃ v L, o = .returned v ∧ own_Qrm_v21 Z G1 a1 a2 k3 s4 s5 h0 n0 v U'.heap L ∧ FrameEnd U o U' L ({ frames := 0, cells := 0, slots := 0, locals := 0 } : Room).cells ({ frames := 0, cells := 0, slots := 0, locals := 0 } : Room).slots) := by
  refine MetFree.of_bodySF (plainFor_of_name own_pn9) hisR ?_
  intro p e s m args below meth c s₁ Bd hml0 hP hK
  obtain ⟨rfl, hZ, hh⟩ := hP
  obtain ⟨O_CS, P_CS⟩ := id gl
  have hx := Bd.exec
  have hby := Bd.bytes
  have hml : c.maxLocals = 3 := hml0
  have hown : s.vm.findClass "com/example/dagsverke/dagsverke/CommandLine" = some m.cls := findClass_of_methodNamed Bd.named
  have hnm := (name_of_methodNamed Bd.named Bd.method).1
  have X0 : Stand p l e ({ frames := 0, cells := 0, slots := 0, locals := 0 } : Room) s m #[(.ref a1), (.int (1 : Int32)), (.ref a2)] below meth c s₁ [] 0 0 := Stand.of_body Bd
  have e0 : s₁.heap = h0 := by rw [← hh, Bd.state]; rfl
  have N0 := Fr.nil n0
  have pre0 : ∀ t, Steps p.tables e below (s₁.setTop (mkF m 0 #[.val (.ref a1), .val (.int (1 : Int32)), .val (.ref a2)] [])) t → Steps p.tables e below (s₁.setTop (entryFrame m #[(.ref a1), (.int (1 : Int32)), (.ref a2)] 3)) t := fun t k => castTop (own_efrm_v21 m a1 a2) k
  obtain ⟨cl1, Ar1, -, Sz1, Ng1, -, -⟩ := id P1
  obtain ⟨cl2, Ar2, qc2, Sz2, Ng2, Hs2, Gs2⟩ := id P1
  have hin2 : ¬ ((1 : Int32) < 0 ∨ cl2.slots.size ≤ ((1 : Int32)).toNatClampNeg) := inb_of Sz2 ⟨(by decide), (by decide)⟩
  have hat2 : cl2.slots[((1 : Int32)).toNatClampNeg]? = some (.ref s5) := Has.at Hs2 hin2 rfl
  obtain ⟨fs, hr, hrun, hended, hW, hsame⟩ := X0.leave (v := some (.ref s5)) (fun h => by rw [Bd.returns] at h; cases h)
  refine ⟨_, _, pre0 _ ?_, hrun, hended, _, _, rfl, ?_, ⟨_, rfl⟩, hW, hsame.mono (by decide) (by decide)⟩
  · show Steps p.tables e below (s₁.setTop (mkF m 0 #[.val (.ref a1), .val (.int (1 : Int32)), .val (.ref a2)] [])) _
    refine XS.iloadN X0.here hx rfl (hb hby own_d_prog_1_method_2_0) rfl ?_
    show Steps p.tables e below (s₁.setTop (mkF m 1 #[.val (.ref a1), .val (.int (1 : Int32)), .val (.ref a2)] [(.int (1 : Int32))])) _
    refine XS.aloadN X0.here hx rfl (hb hby own_d_prog_1_method_2_1) rfl rfl ?_
    show Steps p.tables e below (s₁.setTop (mkF m 2 #[.val (.ref a1), .val (.int (1 : Int32)), .val (.ref a2)] [(.ref a1), (.int (1 : Int32))])) _
    refine X0.arraylength hx (by rw [e0]; exact Ar1.1) (State.isArrayOf_alike hZ.alike Ar1.2.1) (g := (mkF m 2 #[.val (.ref a1), .val (.int (1 : Int32)), .val (.ref a2)] [(.ref a1), (.int (1 : Int32))])) rfl rfl (hb hby own_d_prog_1_method_2_2) _ ?_
    rw [len_of Sz1 Ng1]
    show Steps p.tables e below (s₁.setTop (mkF m 3 #[.val (.ref a1), .val (.int (1 : Int32)), .val (.ref a2)] [(.int (2 : Int32)), (.int (1 : Int32))])) _
    refine XS.icmpYes X0.here hx rfl (pc0 := 3) (pc' := 20) rfl (hb hby own_d_prog_1_method_2_3) rfl (feq (by decide : ¬ ((1 : Int32) = (2 : Int32)))).2 (by decide) (by decide) ?_
    show Steps p.tables e below (s₁.setTop (mkF m 20 #[.val (.ref a1), .val (.int (1 : Int32)), .val (.ref a2)] [])) _
    refine XS.aloadN X0.here hx rfl (hb hby own_d_prog_1_method_2_20) rfl rfl ?_
    show Steps p.tables e below (s₁.setTop (mkF m 21 #[.val (.ref a1), .val (.int (1 : Int32)), .val (.ref a2)] [(.ref a1)])) _
    refine XS.iloadN X0.here hx rfl (hb hby own_d_prog_1_method_2_21) rfl ?_
    show Steps p.tables e below (s₁.setTop (mkF m 22 #[.val (.ref a1), .val (.int (1 : Int32)), .val (.ref a2)] [(.int (1 : Int32)), (.ref a1)])) _
    refine X0.aaload hx (j := (1 : Int32)) (v := (.ref s5)) (by rw [e0]; exact Ar2.1) (State.isArrayOf_alike hZ.alike Ar2.2.1) rfl Ar2.2.2 hin2 hat2 (g := (mkF m 22 #[.val (.ref a1), .val (.int (1 : Int32)), .val (.ref a2)] [(.int (1 : Int32)), (.ref a1)])) rfl rfl (hb hby own_d_prog_1_method_2_22) _ ?_
    show Steps p.tables e below (s₁.setTop (mkF m 23 #[.val (.ref a1), .val (.int (1 : Int32)), .val (.ref a2)] [(.ref s5)])) _
    jvm_step X0.here [X0.here.top, hx, (hb hby own_d_prog_1_method_2_23), X0.method', Bd.returns, Value.isRef, FieldType.isReference]
    first | (intro acts; rw [hr _ acts rfl rfl rfl]) | rw [hr _ _ rfl rfl rfl]
    exact Steps.refl _
  · show own_Qrm_v21 Z G1 a1 a2 k3 s4 s5 h0 n0 _ s₁.heap _
    rw [e0]
    exact ⟨rfl, N0, rfl⟩
def own_Qrm_v30 (Z : State) (G1 : Int32) (a1 : Addr) (a2 : Addr) (k3 : ClassId) (s4 : Addr) (s5 : Addr) (s6 : Addr) (h0 : Heap) (n0 : Nat) (v : Option Value) (h : Heap) (L : List Loc) : Prop := (v = some (.ref s4)) ∧ (Fr n0 L) ∧ (h = h0)
theorem own_efrm_v30 (m : MethodId) (a1 : Addr) (a2 : Addr) : entryFrame m #[(.ref a1), (.int (0 : Int32)), (.ref a2)] 3 = mkF m 0 #[.val (.ref a1), .val (.int (0 : Int32)), .val (.ref a2)] [] := by first | (simp [entryFrame, mkF, argsToLocals, Value.category]; done) | rfl
set_option maxRecDepth 65536 in
set_option maxHeartbeats 40000000 in
theorem own_rm_v30 (l : Launch) (Z : State) (a0 : Array Value) (hw : ∀ d ∈ tables_1, d.before a0 Z = true) (ws : List Jvm.Cond) (G1 : Int32) (gl : own_Glob Z G1) (a1 : Addr) (a2 : Addr) (k3 : ClassId) (s4 : Addr) (s5 : Addr) (s6 : Addr) (h0 : Heap) (n0 : Nat) (Z0 : n0 ≤ h0.size) (P1 : Arv Z h0 a1 k3 (.object "java/lang/String") (3 : Int32) [(.ref s4), (.ref s5), (.ref s6)] .null) :
    MetFree l (⟨"com/example/dagsverke/dagsverke/CommandLine", "value", "([Ljava/lang/String;ILjava/lang/String;)Ljava/lang/String;"⟩ : MethodName) (head1 (Jvm.Cond.code (⟨"com/example/dagsverke/dagsverke/CommandLine", "value", "([Ljava/lang/String;ILjava/lang/String;)Ljava/lang/String;"⟩ : MethodName) prog_1_method_2_code 3 (some (.object "java/lang/String")) :: ws) ({ frames := 0, cells := 0, slots := 0, locals := 0 } : Room)) (fun a U => a = #[(.ref a1), (.int (0 : Int32)), (.ref a2)] ∧ Z.Warmed39 U.vm ∧ U.heap = h0) (fun _ _ _ _ _ => True) (fun _ U o U' => ∃ v L, o = .returned v ∧ own_Qrm_v30 Z G1 a1 a2 k3 s4 s5 s6 h0 n0 v U'.heap L ∧ FrameEnd U o U' L ({ frames := 0, cells := 0, slots := 0, locals := 0 } : Room).cells ({ frames := 0, cells := 0, slots := 0, locals := 0 } : Room).slots) := by
  refine MetFree.of_bodySF (plainFor_of_name own_pn9) hisR ?_
  intro p e s m args below meth c s₁ Bd hml0 hP hK
  obtain ⟨rfl, hZ, hh⟩ := hP
  obtain ⟨O_CS, P_CS⟩ := id gl
  have hx := Bd.exec
  have hby := Bd.bytes
  have hml : c.maxLocals = 3 := hml0
  have hown : s.vm.findClass "com/example/dagsverke/dagsverke/CommandLine" = some m.cls := findClass_of_methodNamed Bd.named
  have hnm := (name_of_methodNamed Bd.named Bd.method).1
  have X0 : Stand p l e ({ frames := 0, cells := 0, slots := 0, locals := 0 } : Room) s m #[(.ref a1), (.int (0 : Int32)), (.ref a2)] below meth c s₁ [] 0 0 := Stand.of_body Bd
  have e0 : s₁.heap = h0 := by rw [← hh, Bd.state]; rfl
  have N0 := Fr.nil n0
  have pre0 : ∀ t, Steps p.tables e below (s₁.setTop (mkF m 0 #[.val (.ref a1), .val (.int (0 : Int32)), .val (.ref a2)] [])) t → Steps p.tables e below (s₁.setTop (entryFrame m #[(.ref a1), (.int (0 : Int32)), (.ref a2)] 3)) t := fun t k => castTop (own_efrm_v30 m a1 a2) k
  obtain ⟨cl1, Ar1, -, Sz1, Ng1, -, -⟩ := id P1
  obtain ⟨cl2, Ar2, qc2, Sz2, Ng2, Hs2, Gs2⟩ := id P1
  have hin2 : ¬ ((0 : Int32) < 0 ∨ cl2.slots.size ≤ ((0 : Int32)).toNatClampNeg) := inb_of Sz2 ⟨(by decide), (by decide)⟩
  have hat2 : cl2.slots[((0 : Int32)).toNatClampNeg]? = some (.ref s4) := Has.at Hs2 hin2 rfl
  obtain ⟨fs, hr, hrun, hended, hW, hsame⟩ := X0.leave (v := some (.ref s4)) (fun h => by rw [Bd.returns] at h; cases h)
  refine ⟨_, _, pre0 _ ?_, hrun, hended, _, _, rfl, ?_, ⟨_, rfl⟩, hW, hsame.mono (by decide) (by decide)⟩
  · show Steps p.tables e below (s₁.setTop (mkF m 0 #[.val (.ref a1), .val (.int (0 : Int32)), .val (.ref a2)] [])) _
    refine XS.iloadN X0.here hx rfl (hb hby own_d_prog_1_method_2_0) rfl ?_
    show Steps p.tables e below (s₁.setTop (mkF m 1 #[.val (.ref a1), .val (.int (0 : Int32)), .val (.ref a2)] [(.int (0 : Int32))])) _
    refine XS.aloadN X0.here hx rfl (hb hby own_d_prog_1_method_2_1) rfl rfl ?_
    show Steps p.tables e below (s₁.setTop (mkF m 2 #[.val (.ref a1), .val (.int (0 : Int32)), .val (.ref a2)] [(.ref a1), (.int (0 : Int32))])) _
    refine X0.arraylength hx (by rw [e0]; exact Ar1.1) (State.isArrayOf_alike hZ.alike Ar1.2.1) (g := (mkF m 2 #[.val (.ref a1), .val (.int (0 : Int32)), .val (.ref a2)] [(.ref a1), (.int (0 : Int32))])) rfl rfl (hb hby own_d_prog_1_method_2_2) _ ?_
    rw [len_of Sz1 Ng1]
    show Steps p.tables e below (s₁.setTop (mkF m 3 #[.val (.ref a1), .val (.int (0 : Int32)), .val (.ref a2)] [(.int (3 : Int32)), (.int (0 : Int32))])) _
    refine XS.icmpYes X0.here hx rfl (pc0 := 3) (pc' := 20) rfl (hb hby own_d_prog_1_method_2_3) rfl (feq (by decide : ¬ ((0 : Int32) = (3 : Int32)))).2 (by decide) (by decide) ?_
    show Steps p.tables e below (s₁.setTop (mkF m 20 #[.val (.ref a1), .val (.int (0 : Int32)), .val (.ref a2)] [])) _
    refine XS.aloadN X0.here hx rfl (hb hby own_d_prog_1_method_2_20) rfl rfl ?_
    show Steps p.tables e below (s₁.setTop (mkF m 21 #[.val (.ref a1), .val (.int (0 : Int32)), .val (.ref a2)] [(.ref a1)])) _
    refine XS.iloadN X0.here hx rfl (hb hby own_d_prog_1_method_2_21) rfl ?_
    show Steps p.tables e below (s₁.setTop (mkF m 22 #[.val (.ref a1), .val (.int (0 : Int32)), .val (.ref a2)] [(.int (0 : Int32)), (.ref a1)])) _
    refine X0.aaload hx (j := (0 : Int32)) (v := (.ref s4)) (by rw [e0]; exact Ar2.1) (State.isArrayOf_alike hZ.alike Ar2.2.1) rfl Ar2.2.2 hin2 hat2 (g := (mkF m 22 #[.val (.ref a1), .val (.int (0 : Int32)), .val (.ref a2)] [(.int (0 : Int32)), (.ref a1)])) rfl rfl (hb hby own_d_prog_1_method_2_22) _ ?_
    show Steps p.tables e below (s₁.setTop (mkF m 23 #[.val (.ref a1), .val (.int (0 : Int32)), .val (.ref a2)] [(.ref s4)])) _
    jvm_step X0.here [X0.here.top, hx, (hb hby own_d_prog_1_method_2_23), X0.method', Bd.returns, Value.isRef, FieldType.isReference]
    first | (intro acts; rw [hr _ acts rfl rfl rfl]) | rw [hr _ _ rfl rfl rfl]
    exact Steps.refl _
  · show own_Qrm_v30 Z G1 a1 a2 k3 s4 s5 s6 h0 n0 _ s₁.heap _
    rw [e0]
    exact ⟨rfl, N0, rfl⟩
def own_Qrm_v31 (Z : State) (G1 : Int32) (a1 : Addr) (a2 : Addr) (k3 : ClassId) (s4 : Addr) (s5 : Addr) (s6 : Addr) (h0 : Heap) (n0 : Nat) (v : Option Value) (h : Heap) (L : List Loc) : Prop := (v = some (.ref s5)) ∧ (Fr n0 L) ∧ (h = h0)
theorem own_efrm_v31 (m : MethodId) (a1 : Addr) (a2 : Addr) : entryFrame m #[(.ref a1), (.int (1 : Int32)), (.ref a2)] 3 = mkF m 0 #[.val (.ref a1), .val (.int (1 : Int32)), .val (.ref a2)] [] := by first | (simp [entryFrame, mkF, argsToLocals, Value.category]; done) | rfl
set_option maxRecDepth 65536 in
set_option maxHeartbeats 40000000 in
theorem own_rm_v31 (l : Launch) (Z : State) (a0 : Array Value) (hw : ∀ d ∈ tables_1, d.before a0 Z = true) (ws : List Jvm.Cond) (G1 : Int32) (gl : own_Glob Z G1) (a1 : Addr) (a2 : Addr) (k3 : ClassId) (s4 : Addr) (s5 : Addr) (s6 : Addr) (h0 : Heap) (n0 : Nat) (Z0 : n0 ≤ h0.size) (P1 : Arv Z h0 a1 k3 (.object "java/lang/String") (3 : Int32) [(.ref s4), (.ref s5), (.ref s6)] .null) :
    MetFree l (⟨"com/example/dagsverke/dagsverke/CommandLine", "value", "([Ljava/lang/String;ILjava/lang/String;)Ljava/lang/String;"⟩ : MethodName) (head1 (Jvm.Cond.code (⟨"com/example/dagsverke/dagsverke/CommandLine", "value", "([Ljava/lang/String;ILjava/lang/String;)Ljava/lang/String;"⟩ : MethodName) prog_1_method_2_code 3 (some (.object "java/lang/String")) :: ws) ({ frames := 0, cells := 0, slots := 0, locals := 0 } : Room)) (fun a U => a = #[(.ref a1), (.int (1 : Int32)), (.ref a2)] ∧ Z.Warmed39 U.vm ∧ U.heap = h0) (fun _ _ _ _ _ => True) (fun _ U o U' => ∃ v L, o = .returned v ∧ own_Qrm_v31 Z G1 a1 a2 k3 s4 s5 s6 h0 n0 v U'.heap L ∧ FrameEnd U o U' L ({ frames := 0, cells := 0, slots := 0, locals := 0 } : Room).cells ({ frames := 0, cells := 0, slots := 0, locals := 0 } : Room).slots) := by
  refine MetFree.of_bodySF (plainFor_of_name own_pn9) hisR ?_
  intro p e s m args below meth c s₁ Bd hml0 hP hK
  obtain ⟨rfl, hZ, hh⟩ := hP
  obtain ⟨O_CS, P_CS⟩ := id gl
  have hx := Bd.exec
  have hby := Bd.bytes
  have hml : c.maxLocals = 3 := hml0
  have hown : s.vm.findClass "com/example/dagsverke/dagsverke/CommandLine" = some m.cls := findClass_of_methodNamed Bd.named
  have hnm := (name_of_methodNamed Bd.named Bd.method).1
  have X0 : Stand p l e ({ frames := 0, cells := 0, slots := 0, locals := 0 } : Room) s m #[(.ref a1), (.int (1 : Int32)), (.ref a2)] below meth c s₁ [] 0 0 := Stand.of_body Bd
  have e0 : s₁.heap = h0 := by rw [← hh, Bd.state]; rfl
  have N0 := Fr.nil n0
  have pre0 : ∀ t, Steps p.tables e below (s₁.setTop (mkF m 0 #[.val (.ref a1), .val (.int (1 : Int32)), .val (.ref a2)] [])) t → Steps p.tables e below (s₁.setTop (entryFrame m #[(.ref a1), (.int (1 : Int32)), (.ref a2)] 3)) t := fun t k => castTop (own_efrm_v31 m a1 a2) k
  obtain ⟨cl1, Ar1, -, Sz1, Ng1, -, -⟩ := id P1
  obtain ⟨cl2, Ar2, qc2, Sz2, Ng2, Hs2, Gs2⟩ := id P1
  have hin2 : ¬ ((1 : Int32) < 0 ∨ cl2.slots.size ≤ ((1 : Int32)).toNatClampNeg) := inb_of Sz2 ⟨(by decide), (by decide)⟩
  have hat2 : cl2.slots[((1 : Int32)).toNatClampNeg]? = some (.ref s5) := Has.at Hs2 hin2 rfl
  obtain ⟨fs, hr, hrun, hended, hW, hsame⟩ := X0.leave (v := some (.ref s5)) (fun h => by rw [Bd.returns] at h; cases h)
  refine ⟨_, _, pre0 _ ?_, hrun, hended, _, _, rfl, ?_, ⟨_, rfl⟩, hW, hsame.mono (by decide) (by decide)⟩
  · show Steps p.tables e below (s₁.setTop (mkF m 0 #[.val (.ref a1), .val (.int (1 : Int32)), .val (.ref a2)] [])) _
    refine XS.iloadN X0.here hx rfl (hb hby own_d_prog_1_method_2_0) rfl ?_
    show Steps p.tables e below (s₁.setTop (mkF m 1 #[.val (.ref a1), .val (.int (1 : Int32)), .val (.ref a2)] [(.int (1 : Int32))])) _
    refine XS.aloadN X0.here hx rfl (hb hby own_d_prog_1_method_2_1) rfl rfl ?_
    show Steps p.tables e below (s₁.setTop (mkF m 2 #[.val (.ref a1), .val (.int (1 : Int32)), .val (.ref a2)] [(.ref a1), (.int (1 : Int32))])) _
    refine X0.arraylength hx (by rw [e0]; exact Ar1.1) (State.isArrayOf_alike hZ.alike Ar1.2.1) (g := (mkF m 2 #[.val (.ref a1), .val (.int (1 : Int32)), .val (.ref a2)] [(.ref a1), (.int (1 : Int32))])) rfl rfl (hb hby own_d_prog_1_method_2_2) _ ?_
    rw [len_of Sz1 Ng1]
    show Steps p.tables e below (s₁.setTop (mkF m 3 #[.val (.ref a1), .val (.int (1 : Int32)), .val (.ref a2)] [(.int (3 : Int32)), (.int (1 : Int32))])) _
    refine XS.icmpYes X0.here hx rfl (pc0 := 3) (pc' := 20) rfl (hb hby own_d_prog_1_method_2_3) rfl (feq (by decide : ¬ ((1 : Int32) = (3 : Int32)))).2 (by decide) (by decide) ?_
    show Steps p.tables e below (s₁.setTop (mkF m 20 #[.val (.ref a1), .val (.int (1 : Int32)), .val (.ref a2)] [])) _
    refine XS.aloadN X0.here hx rfl (hb hby own_d_prog_1_method_2_20) rfl rfl ?_
    show Steps p.tables e below (s₁.setTop (mkF m 21 #[.val (.ref a1), .val (.int (1 : Int32)), .val (.ref a2)] [(.ref a1)])) _
    refine XS.iloadN X0.here hx rfl (hb hby own_d_prog_1_method_2_21) rfl ?_
    show Steps p.tables e below (s₁.setTop (mkF m 22 #[.val (.ref a1), .val (.int (1 : Int32)), .val (.ref a2)] [(.int (1 : Int32)), (.ref a1)])) _
    refine X0.aaload hx (j := (1 : Int32)) (v := (.ref s5)) (by rw [e0]; exact Ar2.1) (State.isArrayOf_alike hZ.alike Ar2.2.1) rfl Ar2.2.2 hin2 hat2 (g := (mkF m 22 #[.val (.ref a1), .val (.int (1 : Int32)), .val (.ref a2)] [(.int (1 : Int32)), (.ref a1)])) rfl rfl (hb hby own_d_prog_1_method_2_22) _ ?_
    show Steps p.tables e below (s₁.setTop (mkF m 23 #[.val (.ref a1), .val (.int (1 : Int32)), .val (.ref a2)] [(.ref s5)])) _
    jvm_step X0.here [X0.here.top, hx, (hb hby own_d_prog_1_method_2_23), X0.method', Bd.returns, Value.isRef, FieldType.isReference]
    first | (intro acts; rw [hr _ acts rfl rfl rfl]) | rw [hr _ _ rfl rfl rfl]
    exact Steps.refl _
  · show own_Qrm_v31 Z G1 a1 a2 k3 s4 s5 s6 h0 n0 _ s₁.heap _
    rw [e0]
    exact ⟨rfl, N0, rfl⟩
def own_Qrm_v32 (Z : State) (G1 : Int32) (a1 : Addr) (a2 : Addr) (k3 : ClassId) (s4 : Addr) (s5 : Addr) (s6 : Addr) (h0 : Heap) (n0 : Nat) (v : Option Value) (h : Heap) (L : List Loc) : Prop := (v = some (.ref s6)) ∧ (Fr n0 L) ∧ (h = h0)
theorem own_efrm_v32 (m : MethodId) (a1 : Addr) (a2 : Addr) : entryFrame m #[(.ref a1), (.int (2 : Int32)), (.ref a2)] 3 = mkF m 0 #[.val (.ref a1), .val (.int (2 : Int32)), .val (.ref a2)] [] := by first | (simp [entryFrame, mkF, argsToLocals, Value.category]; done) | rfl
set_option maxRecDepth 65536 in
set_option maxHeartbeats 40000000 in
theorem own_rm_v32 (l : Launch) (Z : State) (a0 : Array Value) (hw : ∀ d ∈ tables_1, d.before a0 Z = true) (ws : List Jvm.Cond) (G1 : Int32) (gl : own_Glob Z G1) (a1 : Addr) (a2 : Addr) (k3 : ClassId) (s4 : Addr) (s5 : Addr) (s6 : Addr) (h0 : Heap) (n0 : Nat) (Z0 : n0 ≤ h0.size) (P1 : Arv Z h0 a1 k3 (.object "java/lang/String") (3 : Int32) [(.ref s4), (.ref s5), (.ref s6)] .null) :
    MetFree l (⟨"com/example/dagsverke/dagsverke/CommandLine", "value", "([Ljava/lang/String;ILjava/lang/String;)Ljava/lang/String;"⟩ : MethodName) (head1 (Jvm.Cond.code (⟨"com/example/dagsverke/dagsverke/CommandLine", "value", "([Ljava/lang/String;ILjava/lang/String;)Ljava/lang/String;"⟩ : MethodName) prog_1_method_2_code 3 (some (.object "java/lang/String")) :: ws) ({ frames := 0, cells := 0, slots := 0, locals := 0 } : Room)) (fun a U => a = #[(.ref a1), (.int (2 : Int32)), (.ref a2)] ∧ Z.Warmed39 U.vm ∧ U.heap = h0) (fun _ _ _ _ _ => True) (fun _ U o U' => ∃ v L, o = .returned v ∧ own_Qrm_v32 Z G1 a1 a2 k3 s4 s5 s6 h0 n0 v U'.heap L ∧ FrameEnd U o U' L ({ frames := 0, cells := 0, slots := 0, locals := 0 } : Room).cells ({ frames := 0, cells := 0, slots := 0, locals := 0 } : Room).slots) := by
  refine MetFree.of_bodySF (plainFor_of_name own_pn9) hisR ?_
  intro p e s m args below meth c s₁ Bd hml0 hP hK
  obtain ⟨rfl, hZ, hh⟩ := hP
  obtain ⟨O_CS, P_CS⟩ := id gl
  have hx := Bd.exec
  have hby := Bd.bytes
  have hml : c.maxLocals = 3 := hml0
  have hown : s.vm.findClass "com/example/dagsverke/dagsverke/CommandLine" = some m.cls := findClass_of_methodNamed Bd.named
  have hnm := (name_of_methodNamed Bd.named Bd.method).1
  have X0 : Stand p l e ({ frames := 0, cells := 0, slots := 0, locals := 0 } : Room) s m #[(.ref a1), (.int (2 : Int32)), (.ref a2)] below meth c s₁ [] 0 0 := Stand.of_body Bd
  have e0 : s₁.heap = h0 := by rw [← hh, Bd.state]; rfl
  have N0 := Fr.nil n0
  have pre0 : ∀ t, Steps p.tables e below (s₁.setTop (mkF m 0 #[.val (.ref a1), .val (.int (2 : Int32)), .val (.ref a2)] [])) t → Steps p.tables e below (s₁.setTop (entryFrame m #[(.ref a1), (.int (2 : Int32)), (.ref a2)] 3)) t := fun t k => castTop (own_efrm_v32 m a1 a2) k
  obtain ⟨cl1, Ar1, -, Sz1, Ng1, -, -⟩ := id P1
  obtain ⟨cl2, Ar2, qc2, Sz2, Ng2, Hs2, Gs2⟩ := id P1
  have hin2 : ¬ ((2 : Int32) < 0 ∨ cl2.slots.size ≤ ((2 : Int32)).toNatClampNeg) := inb_of Sz2 ⟨(by decide), (by decide)⟩
  have hat2 : cl2.slots[((2 : Int32)).toNatClampNeg]? = some (.ref s6) := Has.at Hs2 hin2 rfl
  obtain ⟨fs, hr, hrun, hended, hW, hsame⟩ := X0.leave (v := some (.ref s6)) (fun h => by rw [Bd.returns] at h; cases h)
  refine ⟨_, _, pre0 _ ?_, hrun, hended, _, _, rfl, ?_, ⟨_, rfl⟩, hW, hsame.mono (by decide) (by decide)⟩
  · show Steps p.tables e below (s₁.setTop (mkF m 0 #[.val (.ref a1), .val (.int (2 : Int32)), .val (.ref a2)] [])) _
    refine XS.iloadN X0.here hx rfl (hb hby own_d_prog_1_method_2_0) rfl ?_
    show Steps p.tables e below (s₁.setTop (mkF m 1 #[.val (.ref a1), .val (.int (2 : Int32)), .val (.ref a2)] [(.int (2 : Int32))])) _
    refine XS.aloadN X0.here hx rfl (hb hby own_d_prog_1_method_2_1) rfl rfl ?_
    show Steps p.tables e below (s₁.setTop (mkF m 2 #[.val (.ref a1), .val (.int (2 : Int32)), .val (.ref a2)] [(.ref a1), (.int (2 : Int32))])) _
    refine X0.arraylength hx (by rw [e0]; exact Ar1.1) (State.isArrayOf_alike hZ.alike Ar1.2.1) (g := (mkF m 2 #[.val (.ref a1), .val (.int (2 : Int32)), .val (.ref a2)] [(.ref a1), (.int (2 : Int32))])) rfl rfl (hb hby own_d_prog_1_method_2_2) _ ?_
    rw [len_of Sz1 Ng1]
    show Steps p.tables e below (s₁.setTop (mkF m 3 #[.val (.ref a1), .val (.int (2 : Int32)), .val (.ref a2)] [(.int (3 : Int32)), (.int (2 : Int32))])) _
    refine XS.icmpYes X0.here hx rfl (pc0 := 3) (pc' := 20) rfl (hb hby own_d_prog_1_method_2_3) rfl (feq (by decide : ¬ ((2 : Int32) = (3 : Int32)))).2 (by decide) (by decide) ?_
    show Steps p.tables e below (s₁.setTop (mkF m 20 #[.val (.ref a1), .val (.int (2 : Int32)), .val (.ref a2)] [])) _
    refine XS.aloadN X0.here hx rfl (hb hby own_d_prog_1_method_2_20) rfl rfl ?_
    show Steps p.tables e below (s₁.setTop (mkF m 21 #[.val (.ref a1), .val (.int (2 : Int32)), .val (.ref a2)] [(.ref a1)])) _
    refine XS.iloadN X0.here hx rfl (hb hby own_d_prog_1_method_2_21) rfl ?_
    show Steps p.tables e below (s₁.setTop (mkF m 22 #[.val (.ref a1), .val (.int (2 : Int32)), .val (.ref a2)] [(.int (2 : Int32)), (.ref a1)])) _
    refine X0.aaload hx (j := (2 : Int32)) (v := (.ref s6)) (by rw [e0]; exact Ar2.1) (State.isArrayOf_alike hZ.alike Ar2.2.1) rfl Ar2.2.2 hin2 hat2 (g := (mkF m 22 #[.val (.ref a1), .val (.int (2 : Int32)), .val (.ref a2)] [(.int (2 : Int32)), (.ref a1)])) rfl rfl (hb hby own_d_prog_1_method_2_22) _ ?_
    show Steps p.tables e below (s₁.setTop (mkF m 23 #[.val (.ref a1), .val (.int (2 : Int32)), .val (.ref a2)] [(.ref s6)])) _
    jvm_step X0.here [X0.here.top, hx, (hb hby own_d_prog_1_method_2_23), X0.method', Bd.returns, Value.isRef, FieldType.isReference]
    first | (intro acts; rw [hr _ acts rfl rfl rfl]) | rw [hr _ _ rfl rfl rfl]
    exact Steps.refl _
  · show own_Qrm_v32 Z G1 a1 a2 k3 s4 s5 s6 h0 n0 _ s₁.heap _
    rw [e0]
    exact ⟨rfl, N0, rfl⟩
def own_Qrm_v40 (Z : State) (G1 : Int32) (a1 : Addr) (a2 : Addr) (k3 : ClassId) (s4 : Addr) (s5 : Addr) (s6 : Addr) (s7 : Addr) (h0 : Heap) (n0 : Nat) (v : Option Value) (h : Heap) (L : List Loc) : Prop := (v = some (.ref s4)) ∧ (Fr n0 L) ∧ (h = h0)
theorem own_efrm_v40 (m : MethodId) (a1 : Addr) (a2 : Addr) : entryFrame m #[(.ref a1), (.int (0 : Int32)), (.ref a2)] 3 = mkF m 0 #[.val (.ref a1), .val (.int (0 : Int32)), .val (.ref a2)] [] := by first | (simp [entryFrame, mkF, argsToLocals, Value.category]; done) | rfl
set_option maxRecDepth 65536 in
set_option maxHeartbeats 40000000 in
theorem own_rm_v40 (l : Launch) (Z : State) (a0 : Array Value) (hw : ∀ d ∈ tables_1, d.before a0 Z = true) (ws : List Jvm.Cond) (G1 : Int32) (gl : own_Glob Z G1) (a1 : Addr) (a2 : Addr) (k3 : ClassId) (s4 : Addr) (s5 : Addr) (s6 : Addr) (s7 : Addr) (h0 : Heap) (n0 : Nat) (Z0 : n0 ≤ h0.size) (P1 : Arv Z h0 a1 k3 (.object "java/lang/String") (4 : Int32) [(.ref s4), (.ref s5), (.ref s6), (.ref s7)] .null) :
    MetFree l (⟨"com/example/dagsverke/dagsverke/CommandLine", "value", "([Ljava/lang/String;ILjava/lang/String;)Ljava/lang/String;"⟩ : MethodName) (head1 (Jvm.Cond.code (⟨"com/example/dagsverke/dagsverke/CommandLine", "value", "([Ljava/lang/String;ILjava/lang/String;)Ljava/lang/String;"⟩ : MethodName) prog_1_method_2_code 3 (some (.object "java/lang/String")) :: ws) ({ frames := 0, cells := 0, slots := 0, locals := 0 } : Room)) (fun a U => a = #[(.ref a1), (.int (0 : Int32)), (.ref a2)] ∧ Z.Warmed39 U.vm ∧ U.heap = h0) (fun _ _ _ _ _ => True) (fun _ U o U' => ∃ v L, o = .returned v ∧ own_Qrm_v40 Z G1 a1 a2 k3 s4 s5 s6 s7 h0 n0 v U'.heap L ∧ FrameEnd U o U' L ({ frames := 0, cells := 0, slots := 0, locals := 0 } : Room).cells ({ frames := 0, cells := 0, slots := 0, locals := 0 } : Room).slots) := by
  refine MetFree.of_bodySF (plainFor_of_name own_pn9) hisR ?_
  intro p e s m args below meth c s₁ Bd hml0 hP hK
  obtain ⟨rfl, hZ, hh⟩ := hP
  obtain ⟨O_CS, P_CS⟩ := id gl
  have hx := Bd.exec
  have hby := Bd.bytes
  have hml : c.maxLocals = 3 := hml0
  have hown : s.vm.findClass "com/example/dagsverke/dagsverke/CommandLine" = some m.cls := findClass_of_methodNamed Bd.named
  have hnm := (name_of_methodNamed Bd.named Bd.method).1
  have X0 : Stand p l e ({ frames := 0, cells := 0, slots := 0, locals := 0 } : Room) s m #[(.ref a1), (.int (0 : Int32)), (.ref a2)] below meth c s₁ [] 0 0 := Stand.of_body Bd
  have e0 : s₁.heap = h0 := by rw [← hh, Bd.state]; rfl
  have N0 := Fr.nil n0
  have pre0 : ∀ t, Steps p.tables e below (s₁.setTop (mkF m 0 #[.val (.ref a1), .val (.int (0 : Int32)), .val (.ref a2)] [])) t → Steps p.tables e below (s₁.setTop (entryFrame m #[(.ref a1), (.int (0 : Int32)), (.ref a2)] 3)) t := fun t k => castTop (own_efrm_v40 m a1 a2) k
  obtain ⟨cl1, Ar1, -, Sz1, Ng1, -, -⟩ := id P1
  obtain ⟨cl2, Ar2, qc2, Sz2, Ng2, Hs2, Gs2⟩ := id P1
  have hin2 : ¬ ((0 : Int32) < 0 ∨ cl2.slots.size ≤ ((0 : Int32)).toNatClampNeg) := inb_of Sz2 ⟨(by decide), (by decide)⟩
  have hat2 : cl2.slots[((0 : Int32)).toNatClampNeg]? = some (.ref s4) := Has.at Hs2 hin2 rfl
  obtain ⟨fs, hr, hrun, hended, hW, hsame⟩ := X0.leave (v := some (.ref s4)) (fun h => by rw [Bd.returns] at h; cases h)
  refine ⟨_, _, pre0 _ ?_, hrun, hended, _, _, rfl, ?_, ⟨_, rfl⟩, hW, hsame.mono (by decide) (by decide)⟩
  · show Steps p.tables e below (s₁.setTop (mkF m 0 #[.val (.ref a1), .val (.int (0 : Int32)), .val (.ref a2)] [])) _
    refine XS.iloadN X0.here hx rfl (hb hby own_d_prog_1_method_2_0) rfl ?_
    show Steps p.tables e below (s₁.setTop (mkF m 1 #[.val (.ref a1), .val (.int (0 : Int32)), .val (.ref a2)] [(.int (0 : Int32))])) _
    refine XS.aloadN X0.here hx rfl (hb hby own_d_prog_1_method_2_1) rfl rfl ?_
    show Steps p.tables e below (s₁.setTop (mkF m 2 #[.val (.ref a1), .val (.int (0 : Int32)), .val (.ref a2)] [(.ref a1), (.int (0 : Int32))])) _
    refine X0.arraylength hx (by rw [e0]; exact Ar1.1) (State.isArrayOf_alike hZ.alike Ar1.2.1) (g := (mkF m 2 #[.val (.ref a1), .val (.int (0 : Int32)), .val (.ref a2)] [(.ref a1), (.int (0 : Int32))])) rfl rfl (hb hby own_d_prog_1_method_2_2) _ ?_
    rw [len_of Sz1 Ng1]
    show Steps p.tables e below (s₁.setTop (mkF m 3 #[.val (.ref a1), .val (.int (0 : Int32)), .val (.ref a2)] [(.int (4 : Int32)), (.int (0 : Int32))])) _
    refine XS.icmpYes X0.here hx rfl (pc0 := 3) (pc' := 20) rfl (hb hby own_d_prog_1_method_2_3) rfl (feq (by decide : ¬ ((0 : Int32) = (4 : Int32)))).2 (by decide) (by decide) ?_
    show Steps p.tables e below (s₁.setTop (mkF m 20 #[.val (.ref a1), .val (.int (0 : Int32)), .val (.ref a2)] [])) _
    refine XS.aloadN X0.here hx rfl (hb hby own_d_prog_1_method_2_20) rfl rfl ?_
    show Steps p.tables e below (s₁.setTop (mkF m 21 #[.val (.ref a1), .val (.int (0 : Int32)), .val (.ref a2)] [(.ref a1)])) _
    refine XS.iloadN X0.here hx rfl (hb hby own_d_prog_1_method_2_21) rfl ?_
    show Steps p.tables e below (s₁.setTop (mkF m 22 #[.val (.ref a1), .val (.int (0 : Int32)), .val (.ref a2)] [(.int (0 : Int32)), (.ref a1)])) _
    refine X0.aaload hx (j := (0 : Int32)) (v := (.ref s4)) (by rw [e0]; exact Ar2.1) (State.isArrayOf_alike hZ.alike Ar2.2.1) rfl Ar2.2.2 hin2 hat2 (g := (mkF m 22 #[.val (.ref a1), .val (.int (0 : Int32)), .val (.ref a2)] [(.int (0 : Int32)), (.ref a1)])) rfl rfl (hb hby own_d_prog_1_method_2_22) _ ?_
    show Steps p.tables e below (s₁.setTop (mkF m 23 #[.val (.ref a1), .val (.int (0 : Int32)), .val (.ref a2)] [(.ref s4)])) _
    jvm_step X0.here [X0.here.top, hx, (hb hby own_d_prog_1_method_2_23), X0.method', Bd.returns, Value.isRef, FieldType.isReference]
    first | (intro acts; rw [hr _ acts rfl rfl rfl]) | rw [hr _ _ rfl rfl rfl]
    exact Steps.refl _
  · show own_Qrm_v40 Z G1 a1 a2 k3 s4 s5 s6 s7 h0 n0 _ s₁.heap _
    rw [e0]
    exact ⟨rfl, N0, rfl⟩
def own_Qrm_v41 (Z : State) (G1 : Int32) (a1 : Addr) (a2 : Addr) (k3 : ClassId) (s4 : Addr) (s5 : Addr) (s6 : Addr) (s7 : Addr) (h0 : Heap) (n0 : Nat) (v : Option Value) (h : Heap) (L : List Loc) : Prop := (v = some (.ref s5)) ∧ (Fr n0 L) ∧ (h = h0)
theorem own_efrm_v41 (m : MethodId) (a1 : Addr) (a2 : Addr) : entryFrame m #[(.ref a1), (.int (1 : Int32)), (.ref a2)] 3 = mkF m 0 #[.val (.ref a1), .val (.int (1 : Int32)), .val (.ref a2)] [] := by first | (simp [entryFrame, mkF, argsToLocals, Value.category]; done) | rfl
set_option maxRecDepth 65536 in
set_option maxHeartbeats 40000000 in
theorem own_rm_v41 (l : Launch) (Z : State) (a0 : Array Value) (hw : ∀ d ∈ tables_1, d.before a0 Z = true) (ws : List Jvm.Cond) (G1 : Int32) (gl : own_Glob Z G1) (a1 : Addr) (a2 : Addr) (k3 : ClassId) (s4 : Addr) (s5 : Addr) (s6 : Addr) (s7 : Addr) (h0 : Heap) (n0 : Nat) (Z0 : n0 ≤ h0.size) (P1 : Arv Z h0 a1 k3 (.object "java/lang/String") (4 : Int32) [(.ref s4), (.ref s5), (.ref s6), (.ref s7)] .null) :
    MetFree l (⟨"com/example/dagsverke/dagsverke/CommandLine", "value", "([Ljava/lang/String;ILjava/lang/String;)Ljava/lang/String;"⟩ : MethodName) (head1 (Jvm.Cond.code (⟨"com/example/dagsverke/dagsverke/CommandLine", "value", "([Ljava/lang/String;ILjava/lang/String;)Ljava/lang/String;"⟩ : MethodName) prog_1_method_2_code 3 (some (.object "java/lang/String")) :: ws) ({ frames := 0, cells := 0, slots := 0, locals := 0 } : Room)) (fun a U => a = #[(.ref a1), (.int (1 : Int32)), (.ref a2)] ∧ Z.Warmed39 U.vm ∧ U.heap = h0) (fun _ _ _ _ _ => True) (fun _ U o U' => ∃ v L, o = .returned v ∧ own_Qrm_v41 Z G1 a1 a2 k3 s4 s5 s6 s7 h0 n0 v U'.heap L ∧ FrameEnd U o U' L ({ frames := 0, cells := 0, slots := 0, locals := 0 } : Room).cells ({ frames := 0, cells := 0, slots := 0, locals := 0 } : Room).slots) := by
  refine MetFree.of_bodySF (plainFor_of_name own_pn9) hisR ?_
  intro p e s m args below meth c s₁ Bd hml0 hP hK
  obtain ⟨rfl, hZ, hh⟩ := hP
  obtain ⟨O_CS, P_CS⟩ := id gl
  have hx := Bd.exec
  have hby := Bd.bytes
  have hml : c.maxLocals = 3 := hml0
  have hown : s.vm.findClass "com/example/dagsverke/dagsverke/CommandLine" = some m.cls := findClass_of_methodNamed Bd.named
  have hnm := (name_of_methodNamed Bd.named Bd.method).1
  have X0 : Stand p l e ({ frames := 0, cells := 0, slots := 0, locals := 0 } : Room) s m #[(.ref a1), (.int (1 : Int32)), (.ref a2)] below meth c s₁ [] 0 0 := Stand.of_body Bd
  have e0 : s₁.heap = h0 := by rw [← hh, Bd.state]; rfl
  have N0 := Fr.nil n0
  have pre0 : ∀ t, Steps p.tables e below (s₁.setTop (mkF m 0 #[.val (.ref a1), .val (.int (1 : Int32)), .val (.ref a2)] [])) t → Steps p.tables e below (s₁.setTop (entryFrame m #[(.ref a1), (.int (1 : Int32)), (.ref a2)] 3)) t := fun t k => castTop (own_efrm_v41 m a1 a2) k
  obtain ⟨cl1, Ar1, -, Sz1, Ng1, -, -⟩ := id P1
  obtain ⟨cl2, Ar2, qc2, Sz2, Ng2, Hs2, Gs2⟩ := id P1
  have hin2 : ¬ ((1 : Int32) < 0 ∨ cl2.slots.size ≤ ((1 : Int32)).toNatClampNeg) := inb_of Sz2 ⟨(by decide), (by decide)⟩
  have hat2 : cl2.slots[((1 : Int32)).toNatClampNeg]? = some (.ref s5) := Has.at Hs2 hin2 rfl
  obtain ⟨fs, hr, hrun, hended, hW, hsame⟩ := X0.leave (v := some (.ref s5)) (fun h => by rw [Bd.returns] at h; cases h)
  refine ⟨_, _, pre0 _ ?_, hrun, hended, _, _, rfl, ?_, ⟨_, rfl⟩, hW, hsame.mono (by decide) (by decide)⟩
  · show Steps p.tables e below (s₁.setTop (mkF m 0 #[.val (.ref a1), .val (.int (1 : Int32)), .val (.ref a2)] [])) _
    refine XS.iloadN X0.here hx rfl (hb hby own_d_prog_1_method_2_0) rfl ?_
    show Steps p.tables e below (s₁.setTop (mkF m 1 #[.val (.ref a1), .val (.int (1 : Int32)), .val (.ref a2)] [(.int (1 : Int32))])) _
    refine XS.aloadN X0.here hx rfl (hb hby own_d_prog_1_method_2_1) rfl rfl ?_
    show Steps p.tables e below (s₁.setTop (mkF m 2 #[.val (.ref a1), .val (.int (1 : Int32)), .val (.ref a2)] [(.ref a1), (.int (1 : Int32))])) _
    refine X0.arraylength hx (by rw [e0]; exact Ar1.1) (State.isArrayOf_alike hZ.alike Ar1.2.1) (g := (mkF m 2 #[.val (.ref a1), .val (.int (1 : Int32)), .val (.ref a2)] [(.ref a1), (.int (1 : Int32))])) rfl rfl (hb hby own_d_prog_1_method_2_2) _ ?_
    rw [len_of Sz1 Ng1]
    show Steps p.tables e below (s₁.setTop (mkF m 3 #[.val (.ref a1), .val (.int (1 : Int32)), .val (.ref a2)] [(.int (4 : Int32)), (.int (1 : Int32))])) _
    refine XS.icmpYes X0.here hx rfl (pc0 := 3) (pc' := 20) rfl (hb hby own_d_prog_1_method_2_3) rfl (feq (by decide : ¬ ((1 : Int32) = (4 : Int32)))).2 (by decide) (by decide) ?_
    show Steps p.tables e below (s₁.setTop (mkF m 20 #[.val (.ref a1), .val (.int (1 : Int32)), .val (.ref a2)] [])) _
    refine XS.aloadN X0.here hx rfl (hb hby own_d_prog_1_method_2_20) rfl rfl ?_
    show Steps p.tables e below (s₁.setTop (mkF m 21 #[.val (.ref a1), .val (.int (1 : Int32)), .val (.ref a2)] [(.ref a1)])) _
    refine XS.iloadN X0.here hx rfl (hb hby own_d_prog_1_method_2_21) rfl ?_
    show Steps p.tables e below (s₁.setTop (mkF m 22 #[.val (.ref a1), .val (.int (1 : Int32)), .val (.ref a2)] [(.int (1 : Int32)), (.ref a1)])) _
    refine X0.aaload hx (j := (1 : Int32)) (v := (.ref s5)) (by rw [e0]; exact Ar2.1) (State.isArrayOf_alike hZ.alike Ar2.2.1) rfl Ar2.2.2 hin2 hat2 (g := (mkF m 22 #[.val (.ref a1), .val (.int (1 : Int32)), .val (.ref a2)] [(.int (1 : Int32)), (.ref a1)])) rfl rfl (hb hby own_d_prog_1_method_2_22) _ ?_
    show Steps p.tables e below (s₁.setTop (mkF m 23 #[.val (.ref a1), .val (.int (1 : Int32)), .val (.ref a2)] [(.ref s5)])) _
    jvm_step X0.here [X0.here.top, hx, (hb hby own_d_prog_1_method_2_23), X0.method', Bd.returns, Value.isRef, FieldType.isReference]
    first | (intro acts; rw [hr _ acts rfl rfl rfl]) | rw [hr _ _ rfl rfl rfl]
    exact Steps.refl _
  · show own_Qrm_v41 Z G1 a1 a2 k3 s4 s5 s6 s7 h0 n0 _ s₁.heap _
    rw [e0]
    exact ⟨rfl, N0, rfl⟩
def own_Qrm_v42 (Z : State) (G1 : Int32) (a1 : Addr) (a2 : Addr) (k3 : ClassId) (s4 : Addr) (s5 : Addr) (s6 : Addr) (s7 : Addr) (h0 : Heap) (n0 : Nat) (v : Option Value) (h : Heap) (L : List Loc) : Prop := (v = some (.ref s6)) ∧ (Fr n0 L) ∧ (h = h0)
theorem own_efrm_v42 (m : MethodId) (a1 : Addr) (a2 : Addr) : entryFrame m #[(.ref a1), (.int (2 : Int32)), (.ref a2)] 3 = mkF m 0 #[.val (.ref a1), .val (.int (2 : Int32)), .val (.ref a2)] [] := by first | (simp [entryFrame, mkF, argsToLocals, Value.category]; done) | rfl
set_option maxRecDepth 65536 in
set_option maxHeartbeats 40000000 in
theorem own_rm_v42 (l : Launch) (Z : State) (a0 : Array Value) (hw : ∀ d ∈ tables_1, d.before a0 Z = true) (ws : List Jvm.Cond) (G1 : Int32) (gl : own_Glob Z G1) (a1 : Addr) (a2 : Addr) (k3 : ClassId) (s4 : Addr) (s5 : Addr) (s6 : Addr) (s7 : Addr) (h0 : Heap) (n0 : Nat) (Z0 : n0 ≤ h0.size) (P1 : Arv Z h0 a1 k3 (.object "java/lang/String") (4 : Int32) [(.ref s4), (.ref s5), (.ref s6), (.ref s7)] .null) :
    MetFree l (⟨"com/example/dagsverke/dagsverke/CommandLine", "value", "([Ljava/lang/String;ILjava/lang/String;)Ljava/lang/String;"⟩ : MethodName) (head1 (Jvm.Cond.code (⟨"com/example/dagsverke/dagsverke/CommandLine", "value", "([Ljava/lang/String;ILjava/lang/String;)Ljava/lang/String;"⟩ : MethodName) prog_1_method_2_code 3 (some (.object "java/lang/String")) :: ws) ({ frames := 0, cells := 0, slots := 0, locals := 0 } : Room)) (fun a U => a = #[(.ref a1), (.int (2 : Int32)), (.ref a2)] ∧ Z.Warmed39 U.vm ∧ U.heap = h0) (fun _ _ _ _ _ => True) (fun _ U o U' => ∃ v L, o = .returned v ∧ own_Qrm_v42 Z G1 a1 a2 k3 s4 s5 s6 s7 h0 n0 v U'.heap L ∧ FrameEnd U o U' L ({ frames := 0, cells := 0, slots := 0, locals := 0 } : Room).cells ({ frames := 0, cells := 0, slots := 0, locals := 0 } : Room).slots) := by
  refine MetFree.of_bodySF (plainFor_of_name own_pn9) hisR ?_
  intro p e s m args below meth c s₁ Bd hml0 hP hK
  obtain ⟨rfl, hZ, hh⟩ := hP
  obtain ⟨O_CS, P_CS⟩ := id gl
  have hx := Bd.exec
  have hby := Bd.bytes
  have hml : c.maxLocals = 3 := hml0
  have hown : s.vm.findClass "com/example/dagsverke/dagsverke/CommandLine" = some m.cls := findClass_of_methodNamed Bd.named
  have hnm := (name_of_methodNamed Bd.named Bd.method).1
  have X0 : Stand p l e ({ frames := 0, cells := 0, slots := 0, locals := 0 } : Room) s m #[(.ref a1), (.int (2 : Int32)), (.ref a2)] below meth c s₁ [] 0 0 := Stand.of_body Bd
  have e0 : s₁.heap = h0 := by rw [← hh, Bd.state]; rfl
  have N0 := Fr.nil n0
  have pre0 : ∀ t, Steps p.tables e below (s₁.setTop (mkF m 0 #[.val (.ref a1), .val (.int (2 : Int32)), .val (.ref a2)] [])) t → Steps p.tables e below (s₁.setTop (entryFrame m #[(.ref a1), (.int (2 : Int32)), (.ref a2)] 3)) t := fun t k => castTop (own_efrm_v42 m a1 a2) k
  obtain ⟨cl1, Ar1, -, Sz1, Ng1, -, -⟩ := id P1
  obtain ⟨cl2, Ar2, qc2, Sz2, Ng2, Hs2, Gs2⟩ := id P1
  have hin2 : ¬ ((2 : Int32) < 0 ∨ cl2.slots.size ≤ ((2 : Int32)).toNatClampNeg) := inb_of Sz2 ⟨(by decide), (by decide)⟩
  have hat2 : cl2.slots[((2 : Int32)).toNatClampNeg]? = some (.ref s6) := Has.at Hs2 hin2 rfl
  obtain ⟨fs, hr, hrun, hended, hW, hsame⟩ := X0.leave (v := some (.ref s6)) (fun h => by rw [Bd.returns] at h; cases h)
  refine ⟨_, _, pre0 _ ?_, hrun, hended, _, _, rfl, ?_, ⟨_, rfl⟩, hW, hsame.mono (by decide) (by decide)⟩
  · show Steps p.tables e below (s₁.setTop (mkF m 0 #[.val (.ref a1), .val (.int (2 : Int32)), .val (.ref a2)] [])) _
    refine XS.iloadN X0.here hx rfl (hb hby own_d_prog_1_method_2_0) rfl ?_
    show Steps p.tables e below (s₁.setTop (mkF m 1 #[.val (.ref a1), .val (.int (2 : Int32)), .val (.ref a2)] [(.int (2 : Int32))])) _
    refine XS.aloadN X0.here hx rfl (hb hby own_d_prog_1_method_2_1) rfl rfl ?_
    show Steps p.tables e below (s₁.setTop (mkF m 2 #[.val (.ref a1), .val (.int (2 : Int32)), .val (.ref a2)] [(.ref a1), (.int (2 : Int32))])) _
    refine X0.arraylength hx (by rw [e0]; exact Ar1.1) (State.isArrayOf_alike hZ.alike Ar1.2.1) (g := (mkF m 2 #[.val (.ref a1), .val (.int (2 : Int32)), .val (.ref a2)] [(.ref a1), (.int (2 : Int32))])) rfl rfl (hb hby own_d_prog_1_method_2_2) _ ?_
    rw [len_of Sz1 Ng1]
    show Steps p.tables e below (s₁.setTop (mkF m 3 #[.val (.ref a1), .val (.int (2 : Int32)), .val (.ref a2)] [(.int (4 : Int32)), (.int (2 : Int32))])) _
    refine XS.icmpYes X0.here hx rfl (pc0 := 3) (pc' := 20) rfl (hb hby own_d_prog_1_method_2_3) rfl (feq (by decide : ¬ ((2 : Int32) = (4 : Int32)))).2 (by decide) (by decide) ?_
    show Steps p.tables e below (s₁.setTop (mkF m 20 #[.val (.ref a1), .val (.int (2 : Int32)), .val (.ref a2)] [])) _
    refine XS.aloadN X0.here hx rfl (hb hby own_d_prog_1_method_2_20) rfl rfl ?_
    show Steps p.tables e below (s₁.setTop (mkF m 21 #[.val (.ref a1), .val (.int (2 : Int32)), .val (.ref a2)] [(.ref a1)])) _
    refine XS.iloadN X0.here hx rfl (hb hby own_d_prog_1_method_2_21) rfl ?_
    show Steps p.tables e below (s₁.setTop (mkF m 22 #[.val (.ref a1), .val (.int (2 : Int32)), .val (.ref a2)] [(.int (2 : Int32)), (.ref a1)])) _
    refine X0.aaload hx (j := (2 : Int32)) (v := (.ref s6)) (by rw [e0]; exact Ar2.1) (State.isArrayOf_alike hZ.alike Ar2.2.1) rfl Ar2.2.2 hin2 hat2 (g := (mkF m 22 #[.val (.ref a1), .val (.int (2 : Int32)), .val (.ref a2)] [(.int (2 : Int32)), (.ref a1)])) rfl rfl (hb hby own_d_prog_1_method_2_22) _ ?_
    show Steps p.tables e below (s₁.setTop (mkF m 23 #[.val (.ref a1), .val (.int (2 : Int32)), .val (.ref a2)] [(.ref s6)])) _
    jvm_step X0.here [X0.here.top, hx, (hb hby own_d_prog_1_method_2_23), X0.method', Bd.returns, Value.isRef, FieldType.isReference]
    first | (intro acts; rw [hr _ acts rfl rfl rfl]) | rw [hr _ _ rfl rfl rfl]
    exact Steps.refl _
  · show own_Qrm_v42 Z G1 a1 a2 k3 s4 s5 s6 s7 h0 n0 _ s₁.heap _
    rw [e0]
    exact ⟨rfl, N0, rfl⟩
def own_Qrm_v43 (Z : State) (G1 : Int32) (a1 : Addr) (a2 : Addr) (k3 : ClassId) (s4 : Addr) (s5 : Addr) (s6 : Addr) (s7 : Addr) (h0 : Heap) (n0 : Nat) (v : Option Value) (h : Heap) (L : List Loc) : Prop := (v = some (.ref s7)) ∧ (Fr n0 L) ∧ (h = h0)
theorem own_efrm_v43 (m : MethodId) (a1 : Addr) (a2 : Addr) : entryFrame m #[(.ref a1), (.int (3 : Int32)), (.ref a2)] 3 = mkF m 0 #[.val (.ref a1), .val (.int (3 : Int32)), .val (.ref a2)] [] := by first | (simp [entryFrame, mkF, argsToLocals, Value.category]; done) | rfl
set_option maxRecDepth 65536 in
set_option maxHeartbeats 40000000 in
theorem own_rm_v43 (l : Launch) (Z : State) (a0 : Array Value) (hw : ∀ d ∈ tables_1, d.before a0 Z = true) (ws : List Jvm.Cond) (G1 : Int32) (gl : own_Glob Z G1) (a1 : Addr) (a2 : Addr) (k3 : ClassId) (s4 : Addr) (s5 : Addr) (s6 : Addr) (s7 : Addr) (h0 : Heap) (n0 : Nat) (Z0 : n0 ≤ h0.size) (P1 : Arv Z h0 a1 k3 (.object "java/lang/String") (4 : Int32) [(.ref s4), (.ref s5), (.ref s6), (.ref s7)] .null) :
    MetFree l (⟨"com/example/dagsverke/dagsverke/CommandLine", "value", "([Ljava/lang/String;ILjava/lang/String;)Ljava/lang/String;"⟩ : MethodName) (head1 (Jvm.Cond.code (⟨"com/example/dagsverke/dagsverke/CommandLine", "value", "([Ljava/lang/String;ILjava/lang/String;)Ljava/lang/String;"⟩ : MethodName) prog_1_method_2_code 3 (some (.object "java/lang/String")) :: ws) ({ frames := 0, cells := 0, slots := 0, locals := 0 } : Room)) (fun a U => a = #[(.ref a1), (.int (3 : Int32)), (.ref a2)] ∧ Z.Warmed39 U.vm ∧ U.heap = h0) (fun _ _ _ _ _ => True) (fun _ U o U' => ∃ v L, o = .returned v ∧ own_Qrm_v43 Z G1 a1 a2 k3 s4 s5 s6 s7 h0 n0 v U'.heap L ∧ FrameEnd U o U' L ({ frames := 0, cells := 0, slots := 0, locals := 0 } : Room).cells ({ frames := 0, cells := 0, slots := 0, locals := 0 } : Room).slots) := by
  refine MetFree.of_bodySF (plainFor_of_name own_pn9) hisR ?_
  intro p e s m args below meth c s₁ Bd hml0 hP hK
  obtain ⟨rfl, hZ, hh⟩ := hP
  obtain ⟨O_CS, P_CS⟩ := id gl
  have hx := Bd.exec
  have hby := Bd.bytes
  have hml : c.maxLocals = 3 := hml0
  have hown : s.vm.findClass "com/example/dagsverke/dagsverke/CommandLine" = some m.cls := findClass_of_methodNamed Bd.named
  have hnm := (name_of_methodNamed Bd.named Bd.method).1
  have X0 : Stand p l e ({ frames := 0, cells := 0, slots := 0, locals := 0 } : Room) s m #[(.ref a1), (.int (3 : Int32)), (.ref a2)] below meth c s₁ [] 0 0 := Stand.of_body Bd
  have e0 : s₁.heap = h0 := by rw [← hh, Bd.state]; rfl
  have N0 := Fr.nil n0
  have pre0 : ∀ t, Steps p.tables e below (s₁.setTop (mkF m 0 #[.val (.ref a1), .val (.int (3 : Int32)), .val (.ref a2)] [])) t → Steps p.tables e below (s₁.setTop (entryFrame m #[(.ref a1), (.int (3 : Int32)), (.ref a2)] 3)) t := fun t k => castTop (own_efrm_v43 m a1 a2) k
  obtain ⟨cl1, Ar1, -, Sz1, Ng1, -, -⟩ := id P1
  obtain ⟨cl2, Ar2, qc2, Sz2, Ng2, Hs2, Gs2⟩ := id P1
  have hin2 : ¬ ((3 : Int32) < 0 ∨ cl2.slots.size ≤ ((3 : Int32)).toNatClampNeg) := inb_of Sz2 ⟨(by decide), (by decide)⟩
  have hat2 : cl2.slots[((3 : Int32)).toNatClampNeg]? = some (.ref s7) := Has.at Hs2 hin2 rfl
  obtain ⟨fs, hr, hrun, hended, hW, hsame⟩ := X0.leave (v := some (.ref s7)) (fun h => by rw [Bd.returns] at h; cases h)
  refine ⟨_, _, pre0 _ ?_, hrun, hended, _, _, rfl, ?_, ⟨_, rfl⟩, hW, hsame.mono (by decide) (by decide)⟩
  · show Steps p.tables e below (s₁.setTop (mkF m 0 #[.val (.ref a1), .val (.int (3 : Int32)), .val (.ref a2)] [])) _
    refine XS.iloadN X0.here hx rfl (hb hby own_d_prog_1_method_2_0) rfl ?_
    show Steps p.tables e below (s₁.setTop (mkF m 1 #[.val (.ref a1), .val (.int (3 : Int32)), .val (.ref a2)] [(.int (3 : Int32))])) _
    refine XS.aloadN X0.here hx rfl (hb hby own_d_prog_1_method_2_1) rfl rfl ?_
    show Steps p.tables e below (s₁.setTop (mkF m 2 #[.val (.ref a1), .val (.int (3 : Int32)), .val (.ref a2)] [(.ref a1), (.int (3 : Int32))])) _
    refine X0.arraylength hx (by rw [e0]; exact Ar1.1) (State.isArrayOf_alike hZ.alike Ar1.2.1) (g := (mkF m 2 #[.val (.ref a1), .val (.int (3 : Int32)), .val (.ref a2)] [(.ref a1), (.int (3 : Int32))])) rfl rfl (hb hby own_d_prog_1_method_2_2) _ ?_
    rw [len_of Sz1 Ng1]
    show Steps p.tables e below (s₁.setTop (mkF m 3 #[.val (.ref a1), .val (.int (3 : Int32)), .val (.ref a2)] [(.int (4 : Int32)), (.int (3 : Int32))])) _
    refine XS.icmpYes X0.here hx rfl (pc0 := 3) (pc' := 20) rfl (hb hby own_d_prog_1_method_2_3) rfl (feq (by decide : ¬ ((3 : Int32) = (4 : Int32)))).2 (by decide) (by decide) ?_
    show Steps p.tables e below (s₁.setTop (mkF m 20 #[.val (.ref a1), .val (.int (3 : Int32)), .val (.ref a2)] [])) _
    refine XS.aloadN X0.here hx rfl (hb hby own_d_prog_1_method_2_20) rfl rfl ?_
    show Steps p.tables e below (s₁.setTop (mkF m 21 #[.val (.ref a1), .val (.int (3 : Int32)), .val (.ref a2)] [(.ref a1)])) _
    refine XS.iloadN X0.here hx rfl (hb hby own_d_prog_1_method_2_21) rfl ?_
    show Steps p.tables e below (s₁.setTop (mkF m 22 #[.val (.ref a1), .val (.int (3 : Int32)), .val (.ref a2)] [(.int (3 : Int32)), (.ref a1)])) _
    refine X0.aaload hx (j := (3 : Int32)) (v := (.ref s7)) (by rw [e0]; exact Ar2.1) (State.isArrayOf_alike hZ.alike Ar2.2.1) rfl Ar2.2.2 hin2 hat2 (g := (mkF m 22 #[.val (.ref a1), .val (.int (3 : Int32)), .val (.ref a2)] [(.int (3 : Int32)), (.ref a1)])) rfl rfl (hb hby own_d_prog_1_method_2_22) _ ?_
    show Steps p.tables e below (s₁.setTop (mkF m 23 #[.val (.ref a1), .val (.int (3 : Int32)), .val (.ref a2)] [(.ref s7)])) _
    jvm_step X0.here [X0.here.top, hx, (hb hby own_d_prog_1_method_2_23), X0.method', Bd.returns, Value.isRef, FieldType.isReference]
    first | (intro acts; rw [hr _ acts rfl rfl rfl]) | rw [hr _ _ rfl rfl rfl]
    exact Steps.refl _
  · show own_Qrm_v43 Z G1 a1 a2 k3 s4 s5 s6 s7 h0 n0 _ s₁.heap _
    rw [e0]
    exact ⟨rfl, N0, rfl⟩
theorem own_pd10 : parseMethodDescriptor "([Ljava/lang/String;ILjava/lang/String;)Ljava/lang/String;" = some ⟨[(.array (.object "java/lang/String")), .int, (.object "java/lang/String")], some (.object "java/lang/String")⟩ := by decide +kernel
theorem own_eflaw10 (m : MethodId) (p1 : Int32) (p2 : Int32) (p3 : Int32) (p4 : Int32) (p5 : Int32) (p6 : Int32) : entryFrame m #[(.int p1), (.int p2), (.int p3), (.int p4), (.int p5), (.int p6)] maxLocals = mkF m 0 #[.val (.int p1), .val (.int p2), .val (.int p3), .val (.int p4), .val (.int p5), .val (.int p6), .unset, .unset, .unset, .unset, .unset, .unset, .unset, .unset, .unset, .unset] [] := by first | (simp [entryFrame, mkF, argsToLocals, Value.category, maxLocals]; done) | rfl
set_option maxRecDepth 65536 in
set_option maxHeartbeats 40000000 in
theorem own_law10 (l : Launch) (Z : State) (a0 : Array Value) (hw : ∀ d ∈ tables_1, d.before a0 Z = true) (ws : List Jvm.Cond) (G1 : Int32) (gl : own_Glob Z G1) (p1 : Int32) (p2 : Int32) (p3 : Int32) (p4 : Int32) (p5 : Int32) (p6 : Int32) (h0 : Heap) (n0 : Nat) (Z0 : n0 ≤ h0.size) (X00 : Old Z n0 h0) (hn : own_n p1 = 1) (hi : own_i p2 1 = 0) :
    MetFree l x (head1 (Jvm.Cond.code x code maxLocals ret :: ws) room_1) (fun a U => a = #[(.int p1), (.int p2), (.int p3), (.int p4), (.int p5), (.int p6)] ∧ Z.Warmed39 U.vm ∧ U.heap = h0) (fun _ _ _ _ _ => True) (fun _ U o U' => ∃ v L, o = .returned v ∧ own_Qlaw h0 n0 v U'.heap L ∧ FrameEnd U o U' L room_1.cells room_1.slots) := by
  refine MetFree.of_bodySF (plainFor_of_name own_pn6) hisR ?_
  intro p e s m args below meth c s₁ Bd hml0 hP hK
  obtain ⟨rfl, hZ, hh⟩ := hP
  obtain ⟨O_CS, P_CS⟩ := id gl
  have hx := Bd.exec
  have hby := Bd.bytes
  have hml : c.maxLocals = 16 := hml0
  have hown : s.vm.findClass "com/example/dagsverke/dagsverke/CommandLineValuePinLaw" = some m.cls := findClass_of_methodNamed Bd.named
  have hnm := (name_of_methodNamed Bd.named Bd.method).1
  have X0 : Stand p l e room_1 s m #[(.int p1), (.int p2), (.int p3), (.int p4), (.int p5), (.int p6)] below meth c s₁ [] 0 0 := Stand.of_body Bd
  have e0 : s₁.heap = h0 := by rw [← hh, Bd.state]; rfl
  have N0 := Fr.nil n0
  have pre0 : ∀ t, Steps p.tables e below (s₁.setTop (mkF m 0 #[.val (.int p1), .val (.int p2), .val (.int p3), .val (.int p4), .val (.int p5), .val (.int p6), .unset, .unset, .unset, .unset, .unset, .unset, .unset, .unset, .unset, .unset] [])) t → Steps p.tables e below (s₁.setTop (entryFrame m #[(.int p1), (.int p2), (.int p3), (.int p4), (.int p5), (.int p6)] maxLocals)) t := fun t k => castTop (own_eflaw10 m p1 p2 p3 p4 p5 p6) k
  obtain ⟨b13_1_1, b13_4_1, b13_7_1, b13_10_1, b3_13_1, t25_1_1, kb25_1_1, t25_4_1, kb25_4_1, t25_7_1, kb25_7_1, t25_10_1, kb25_10_1, b1_5_13_1, k1_5_13_1, T1, h1, L1, X1, e1, N1, Kq1, f1_0, f1_1, f1_2, f1_3, f1_4, f1_5, f1_6, f1_7, f1_8, f1_9, f1_10, f1_11, f1_12, f1_13, f1_14, f1_15, f1_16, f1_17, f1_18, f1_19, f1_20, f1_21, f1_22, f1_23, f1_24, f1_25, f1_26, f1_27, f1_28, f1_29, f1_30, f1_31, f1_32, f1_33, st1⟩ := own_seg hw G1 gl p1 p2 p3 p4 p5 p6 Z0 X00  X0 hx hZ hby hml hown e0
  have Kp2 : Keep h0 h1 [] := (Keep.refl h0 []).trans Kq1 all0
  obtain ⟨T3, h3, k3, X3, e3, E3, A3, O3, st3⟩ := newR X1 hx hZ hown (hw _ (List.mem_of_getElem? (i := 6) rfl)) (hw _ (List.mem_of_getElem? (i := 49) rfl)) e1 (g := (mkF m 71 #[.val (.int p1), .val (.int p2), .val (.int p3), .val (.int p4), .val (.int p5), .val (.int p6), .val (.int (1 : Int32)), .val (.int (own_i p2 (1 : Int32))), .val (.ref b13_1_1), .val (.ref b13_4_1), .val (.ref b13_7_1), .val (.ref b13_10_1), .val (.ref b3_13_1), .unset, .unset, .unset] [(.int (1 : Int32))])) rfl (hb hby at_71) rfl (by decide) (cap := 1) (by decide) (by decide) (by decide) (by decide)
  obtain ⟨b3, g3⟩ : ∃ z, z = h1.size := ⟨_, rfl⟩
  rw [← g3] at A3 st3
  have Kp4 : Keep h0 h3 [] := Kp2.ext E3
  have Vh5 : Arv Z h3 b3 k3 (.object "java/lang/String") (1 : Int32) [.null] .null := (Arv.new A3 (by decide)).pad (pad_rep [] .null 1)
  obtain ⟨cl6, Ar6, qc6, Sz6, Ng6, Hs6, Gs6⟩ := id Vh5
  have hin6 : ¬ ((0 : Int32) < 0 ∨ cl6.slots.size ≤ ((0 : Int32)).toNatClampNeg) := inb_of Sz6 ⟨(by decide), (by decide)⟩
  have Eh7 : Exa Z h3 b13_1_1 "java/lang/String" := (f1_1.ext E3)
  obtain ⟨T8, h8, X8, e8, W8, st8⟩ := stR X3 hx hZ e3 Ar6 (j := (0 : Int32)) hin6 rfl (Sto.ofV Ar6 qc6 O3 (Ins.self Eh7)) (g := (mkF m 78 #[.val (.int p1), .val (.int p2), .val (.int p3), .val (.int p4), .val (.int p5), .val (.int p6), .val (.int (1 : Int32)), .val (.int (own_i p2 (1 : Int32))), .val (.ref b13_1_1), .val (.ref b13_4_1), .val (.ref b13_7_1), .val (.ref b13_10_1), .val (.ref b3_13_1), .unset, .unset, .unset] [(.ref b13_1_1), (.int (0 : Int32)), (.ref b3), (.ref b3)])) rfl rfl (hb hby at_78)
  have Kp9 : Keep h0 h8 [] := Kp4.wr W8 (Or.inr (Nat.le_trans Kp2.1 (Nat.le_of_eq g3.symm)))
  have gh10 : n0 ≤ b3 := Nat.le_trans (Nat.le_trans Z0 Kp2.1) (Nat.le_of_eq g3.symm)
  obtain ⟨Lp8, X8, N8⟩ := own_pack X8 (Fr.snoc X8 N1 gh10)
  have Vh11 : Arv Z h8 b3 k3 (.object "java/lang/String") (1 : Int32) [(.ref b13_1_1)] .null := (Arv.set Ar6 qc6 Sz6 Ng6 Hs6 Gs6 rfl W8 0 rfl (Nat.le_of_ble_eq_true rfl))
  obtain ⟨_, _, ⟨T12, L12, k12, n12⟩, -, X12, ⟨Lc12, hQ12, l12, y12, z12⟩, st12⟩ := Jvm.LawKit.callS X8 hx (y := (⟨"com/example/dagsverke/dagsverke/CommandLine", "value", "([Ljava/lang/String;ILjava/lang/String;)Ljava/lang/String;"⟩ : MethodName)) hown (mvT hZ (hw _ (List.mem_of_getElem? (i := 50) rfl))) (mvT hZ (hw _ (List.mem_of_getElem? (i := 51) rfl))) (mvT hZ (hw _ (List.mem_of_getElem? (i := 52) rfl))) (mvT hZ (hw _ (List.mem_of_getElem? (i := 53) rfl))) (by decide) (backOf (W := 0) (own_rm_v10 l Z a0 hw [] G1 gl b3 b3_13_1 (k3) b13_1_1 h8 n0 (Nat.le_trans Z0 Kp9.1) Vh11) hZ (hw _ (List.mem_of_getElem? (i := 53) rfl)) (hw _ (List.mem_of_getElem? (i := 52) rfl)) (by decide) (by decide)) (g := (mkF m 213 #[.val (.int p1), .val (.int p2), .val (.int p3), .val (.int p4), .val (.int p5), .val (.int p6), .val (.int (1 : Int32)), .val (.int (0 : Int32)), .val (.ref b13_1_1), .val (.ref b13_4_1), .val (.ref b13_7_1), .val (.ref b13_10_1), .val (.ref b3_13_1), .val (.ref b3), .val (.ref b13_1_1), .unset] [(.ref b3_13_1), (.int (0 : Int32)), (.ref b3)])) rfl (by rw [hml]; rfl) (argsL := [(.ref b3), (.int (0 : Int32)), (.ref b3_13_1)]) (rest := []) (lenOf own_pd10 rfl) rfl (by show 2 * 0 + _ ≤ _; exact Nat.le_of_eq rfl) (hb hby at_213) (fun _ _ => ⟨rfl, e8, (by decide : 15 + 0 ≤ _), (by decide : 38 + 0 ≤ _)⟩)
  dsimp only [Pt.U, Pt.locs, Pt.cells, Pt.slots] at X12 l12 y12 z12 st12 hQ12
  subst y12 z12
  obtain ⟨rfl, Nq12, e12⟩ := hQ12
  have N12 : Fr n0 L12 := by rw [l12]; exact Fr.app N8 Nq12
  obtain ⟨cl13, Ar13, -, Sz13, Ng13, -, -⟩ := id Vh11
  obtain ⟨fs, hr, hrun, hended, hW, hsame⟩ := X12.leave (v := some (.int (1 : Int32))) (fun h => by rw [Bd.returns] at h; cases h)
  refine ⟨_, _, pre0 _ ?_, hrun, hended, _, _, rfl, ?_, ⟨_, rfl⟩, hW, hsame.mono (by decide) (by decide)⟩
  · show Steps p.tables e below (s₁.setTop (mkF m 0 #[.val (.int p1), .val (.int p2), .val (.int p3), .val (.int p4), .val (.int p5), .val (.int p6), .unset, .unset, .unset, .unset, .unset, .unset, .unset, .unset, .unset, .unset] [])) _
    refine st1 _ ?_
    show Steps p.tables e below (T1.setTop (mkF m 64 #[.val (.int p1), .val (.int p2), .val (.int p3), .val (.int p4), .val (.int p5), .val (.int p6), .val (.int (own_n p1)), .val (.int (own_i p2 (own_n p1))), .val (.ref b13_1_1), .val (.ref b13_4_1), .val (.ref b13_7_1), .val (.ref b13_10_1), .val (.ref b3_13_1), .unset, .unset, .unset] [])) _
    refine XS.iload X1.here hx rfl (hb hby at_64) rfl ?_
    show Steps p.tables e below (T1.setTop (mkF m 66 #[.val (.int p1), .val (.int p2), .val (.int p3), .val (.int p4), .val (.int p5), .val (.int p6), .val (.int (own_n p1)), .val (.int (own_i p2 (own_n p1))), .val (.ref b13_1_1), .val (.ref b13_4_1), .val (.ref b13_7_1), .val (.ref b13_10_1), .val (.ref b3_13_1), .unset, .unset, .unset] [(.int (own_n p1))])) _
    rw [hn]
    show Steps p.tables e below (T1.setTop (mkF m 66 #[.val (.int p1), .val (.int p2), .val (.int p3), .val (.int p4), .val (.int p5), .val (.int p6), .val (.int (1 : Int32)), .val (.int (own_i p2 (1 : Int32))), .val (.ref b13_1_1), .val (.ref b13_4_1), .val (.ref b13_7_1), .val (.ref b13_10_1), .val (.ref b3_13_1), .unset, .unset, .unset] [(.int (1 : Int32))])) _
    refine XS.iconst X1.here hx rfl (hb hby at_66) ?_
    show Steps p.tables e below (T1.setTop (mkF m 67 #[.val (.int p1), .val (.int p2), .val (.int p3), .val (.int p4), .val (.int p5), .val (.int p6), .val (.int (1 : Int32)), .val (.int (own_i p2 (1 : Int32))), .val (.ref b13_1_1), .val (.ref b13_4_1), .val (.ref b13_7_1), .val (.ref b13_10_1), .val (.ref b3_13_1), .unset, .unset, .unset] [(.int (1 : Int32)), (.int (1 : Int32))])) _
    refine XS.icmpNo X1.here hx rfl (hb hby at_67) rfl (teq (rfl : (1 : Int32) = (1 : Int32))).2 ?_
    show Steps p.tables e below (T1.setTop (mkF m 70 #[.val (.int p1), .val (.int p2), .val (.int p3), .val (.int p4), .val (.int p5), .val (.int p6), .val (.int (1 : Int32)), .val (.int (own_i p2 (1 : Int32))), .val (.ref b13_1_1), .val (.ref b13_4_1), .val (.ref b13_7_1), .val (.ref b13_10_1), .val (.ref b3_13_1), .unset, .unset, .unset] [])) _
    refine XS.iconst X1.here hx rfl (hb hby at_70) ?_
    show Steps p.tables e below (T1.setTop (mkF m 71 #[.val (.int p1), .val (.int p2), .val (.int p3), .val (.int p4), .val (.int p5), .val (.int p6), .val (.int (1 : Int32)), .val (.int (own_i p2 (1 : Int32))), .val (.ref b13_1_1), .val (.ref b13_4_1), .val (.ref b13_7_1), .val (.ref b13_10_1), .val (.ref b3_13_1), .unset, .unset, .unset] [(.int (1 : Int32))])) _
    refine st3 _ ?_
    show Steps p.tables e below (T3.setTop (mkF m 74 #[.val (.int p1), .val (.int p2), .val (.int p3), .val (.int p4), .val (.int p5), .val (.int p6), .val (.int (1 : Int32)), .val (.int (own_i p2 (1 : Int32))), .val (.ref b13_1_1), .val (.ref b13_4_1), .val (.ref b13_7_1), .val (.ref b13_10_1), .val (.ref b3_13_1), .unset, .unset, .unset] [(.ref b3)])) _
    refine XS.dup X3.here hx rfl (hb hby at_74) rfl rfl ?_
    show Steps p.tables e below (T3.setTop (mkF m 75 #[.val (.int p1), .val (.int p2), .val (.int p3), .val (.int p4), .val (.int p5), .val (.int p6), .val (.int (1 : Int32)), .val (.int (own_i p2 (1 : Int32))), .val (.ref b13_1_1), .val (.ref b13_4_1), .val (.ref b13_7_1), .val (.ref b13_10_1), .val (.ref b3_13_1), .unset, .unset, .unset] [(.ref b3), (.ref b3)])) _
    refine XS.iconst X3.here hx rfl (hb hby at_75) ?_
    show Steps p.tables e below (T3.setTop (mkF m 76 #[.val (.int p1), .val (.int p2), .val (.int p3), .val (.int p4), .val (.int p5), .val (.int p6), .val (.int (1 : Int32)), .val (.int (own_i p2 (1 : Int32))), .val (.ref b13_1_1), .val (.ref b13_4_1), .val (.ref b13_7_1), .val (.ref b13_10_1), .val (.ref b3_13_1), .unset, .unset, .unset] [(.int (0 : Int32)), (.ref b3), (.ref b3)])) _
    refine XS.aload X3.here hx rfl (hb hby at_76) rfl rfl ?_
    show Steps p.tables e below (T3.setTop (mkF m 78 #[.val (.int p1), .val (.int p2), .val (.int p3), .val (.int p4), .val (.int p5), .val (.int p6), .val (.int (1 : Int32)), .val (.int (own_i p2 (1 : Int32))), .val (.ref b13_1_1), .val (.ref b13_4_1), .val (.ref b13_7_1), .val (.ref b13_10_1), .val (.ref b3_13_1), .unset, .unset, .unset] [(.ref b13_1_1), (.int (0 : Int32)), (.ref b3), (.ref b3)])) _
    refine st8 _ ?_
    show Steps p.tables e below (T8.setTop (mkF m 79 #[.val (.int p1), .val (.int p2), .val (.int p3), .val (.int p4), .val (.int p5), .val (.int p6), .val (.int (1 : Int32)), .val (.int (own_i p2 (1 : Int32))), .val (.ref b13_1_1), .val (.ref b13_4_1), .val (.ref b13_7_1), .val (.ref b13_10_1), .val (.ref b3_13_1), .unset, .unset, .unset] [(.ref b3)])) _
    refine XS.astore X8.here hx rfl (hb hby at_79) rfl rfl (l' := #[.val (.int p1), .val (.int p2), .val (.int p3), .val (.int p4), .val (.int p5), .val (.int p6), .val (.int (1 : Int32)), .val (.int (own_i p2 (1 : Int32))), .val (.ref b13_1_1), .val (.ref b13_4_1), .val (.ref b13_7_1), .val (.ref b13_10_1), .val (.ref b3_13_1), .val (.ref b3), .unset, .unset]) rfl ?_
    show Steps p.tables e below (T8.setTop (mkF m 81 #[.val (.int p1), .val (.int p2), .val (.int p3), .val (.int p4), .val (.int p5), .val (.int p6), .val (.int (1 : Int32)), .val (.int (own_i p2 (1 : Int32))), .val (.ref b13_1_1), .val (.ref b13_4_1), .val (.ref b13_7_1), .val (.ref b13_10_1), .val (.ref b3_13_1), .val (.ref b3), .unset, .unset] [])) _
    refine XS.goto X8.here hx rfl (pc0 := 81) (pc' := 165) rfl (hb hby at_81) (by decide) (by decide) ?_
    show Steps p.tables e below (T8.setTop (mkF m 165 #[.val (.int p1), .val (.int p2), .val (.int p3), .val (.int p4), .val (.int p5), .val (.int p6), .val (.int (1 : Int32)), .val (.int (own_i p2 (1 : Int32))), .val (.ref b13_1_1), .val (.ref b13_4_1), .val (.ref b13_7_1), .val (.ref b13_10_1), .val (.ref b3_13_1), .val (.ref b3), .unset, .unset] [])) _
    refine XS.iload X8.here hx rfl (hb hby at_165) rfl ?_
    show Steps p.tables e below (T8.setTop (mkF m 167 #[.val (.int p1), .val (.int p2), .val (.int p3), .val (.int p4), .val (.int p5), .val (.int p6), .val (.int (1 : Int32)), .val (.int (own_i p2 (1 : Int32))), .val (.ref b13_1_1), .val (.ref b13_4_1), .val (.ref b13_7_1), .val (.ref b13_10_1), .val (.ref b3_13_1), .val (.ref b3), .unset, .unset] [(.int (own_i p2 (1 : Int32)))])) _
    rw [hi]
    show Steps p.tables e below (T8.setTop (mkF m 167 #[.val (.int p1), .val (.int p2), .val (.int p3), .val (.int p4), .val (.int p5), .val (.int p6), .val (.int (1 : Int32)), .val (.int (0 : Int32)), .val (.ref b13_1_1), .val (.ref b13_4_1), .val (.ref b13_7_1), .val (.ref b13_10_1), .val (.ref b3_13_1), .val (.ref b3), .unset, .unset] [(.int (0 : Int32))])) _
    refine XS.ifNo X8.here hx rfl (hb hby at_167) rfl ((if0 _ _).trans (teq (rfl : (0 : Int32) = (0 : Int32))).2) ?_
    show Steps p.tables e below (T8.setTop (mkF m 170 #[.val (.int p1), .val (.int p2), .val (.int p3), .val (.int p4), .val (.int p5), .val (.int p6), .val (.int (1 : Int32)), .val (.int (0 : Int32)), .val (.ref b13_1_1), .val (.ref b13_4_1), .val (.ref b13_7_1), .val (.ref b13_10_1), .val (.ref b3_13_1), .val (.ref b3), .unset, .unset] [])) _
    refine XS.aload X8.here hx rfl (hb hby at_170) rfl rfl ?_
    show Steps p.tables e below (T8.setTop (mkF m 172 #[.val (.int p1), .val (.int p2), .val (.int p3), .val (.int p4), .val (.int p5), .val (.int p6), .val (.int (1 : Int32)), .val (.int (0 : Int32)), .val (.ref b13_1_1), .val (.ref b13_4_1), .val (.ref b13_7_1), .val (.ref b13_10_1), .val (.ref b3_13_1), .val (.ref b3), .unset, .unset] [(.ref b13_1_1)])) _
    refine XS.astore X8.here hx rfl (hb hby at_172) rfl rfl (l' := #[.val (.int p1), .val (.int p2), .val (.int p3), .val (.int p4), .val (.int p5), .val (.int p6), .val (.int (1 : Int32)), .val (.int (0 : Int32)), .val (.ref b13_1_1), .val (.ref b13_4_1), .val (.ref b13_7_1), .val (.ref b13_10_1), .val (.ref b3_13_1), .val (.ref b3), .val (.ref b13_1_1), .unset]) rfl ?_
    show Steps p.tables e below (T8.setTop (mkF m 174 #[.val (.int p1), .val (.int p2), .val (.int p3), .val (.int p4), .val (.int p5), .val (.int p6), .val (.int (1 : Int32)), .val (.int (0 : Int32)), .val (.ref b13_1_1), .val (.ref b13_4_1), .val (.ref b13_7_1), .val (.ref b13_10_1), .val (.ref b3_13_1), .val (.ref b3), .val (.ref b13_1_1), .unset] [])) _
    refine XS.goto X8.here hx rfl (pc0 := 174) (pc' := 207) rfl (hb hby at_174) (by decide) (by decide) ?_
    show Steps p.tables e below (T8.setTop (mkF m 207 #[.val (.int p1), .val (.int p2), .val (.int p3), .val (.int p4), .val (.int p5), .val (.int p6), .val (.int (1 : Int32)), .val (.int (0 : Int32)), .val (.ref b13_1_1), .val (.ref b13_4_1), .val (.ref b13_7_1), .val (.ref b13_10_1), .val (.ref b3_13_1), .val (.ref b3), .val (.ref b13_1_1), .unset] [])) _
    refine XS.aload X8.here hx rfl (hb hby at_207) rfl rfl ?_
    show Steps p.tables e below (T8.setTop (mkF m 209 #[.val (.int p1), .val (.int p2), .val (.int p3), .val (.int p4), .val (.int p5), .val (.int p6), .val (.int (1 : Int32)), .val (.int (0 : Int32)), .val (.ref b13_1_1), .val (.ref b13_4_1), .val (.ref b13_7_1), .val (.ref b13_10_1), .val (.ref b3_13_1), .val (.ref b3), .val (.ref b13_1_1), .unset] [(.ref b3)])) _
    refine XS.iload X8.here hx rfl (hb hby at_209) rfl ?_
    show Steps p.tables e below (T8.setTop (mkF m 211 #[.val (.int p1), .val (.int p2), .val (.int p3), .val (.int p4), .val (.int p5), .val (.int p6), .val (.int (1 : Int32)), .val (.int (0 : Int32)), .val (.ref b13_1_1), .val (.ref b13_4_1), .val (.ref b13_7_1), .val (.ref b13_10_1), .val (.ref b3_13_1), .val (.ref b3), .val (.ref b13_1_1), .unset] [(.int (0 : Int32)), (.ref b3)])) _
    refine XS.aload X8.here hx rfl (hb hby at_211) rfl rfl ?_
    show Steps p.tables e below (T8.setTop (mkF m 213 #[.val (.int p1), .val (.int p2), .val (.int p3), .val (.int p4), .val (.int p5), .val (.int p6), .val (.int (1 : Int32)), .val (.int (0 : Int32)), .val (.ref b13_1_1), .val (.ref b13_4_1), .val (.ref b13_7_1), .val (.ref b13_10_1), .val (.ref b3_13_1), .val (.ref b3), .val (.ref b13_1_1), .unset] [(.ref b3_13_1), (.int (0 : Int32)), (.ref b3)])) _
    refine st12 _ ?_
    show Steps p.tables e below (T12.setTop (mkF m 216 #[.val (.int p1), .val (.int p2), .val (.int p3), .val (.int p4), .val (.int p5), .val (.int p6), .val (.int (1 : Int32)), .val (.int (0 : Int32)), .val (.ref b13_1_1), .val (.ref b13_4_1), .val (.ref b13_7_1), .val (.ref b13_10_1), .val (.ref b3_13_1), .val (.ref b3), .val (.ref b13_1_1), .unset] [(.ref b13_1_1)])) _
    refine XS.astore X12.here hx rfl (hb hby at_216) rfl rfl (l' := #[.val (.int p1), .val (.int p2), .val (.int p3), .val (.int p4), .val (.int p5), .val (.int p6), .val (.int (1 : Int32)), .val (.int (0 : Int32)), .val (.ref b13_1_1), .val (.ref b13_4_1), .val (.ref b13_7_1), .val (.ref b13_10_1), .val (.ref b3_13_1), .val (.ref b3), .val (.ref b13_1_1), .val (.ref b13_1_1)]) rfl ?_
    show Steps p.tables e below (T12.setTop (mkF m 218 #[.val (.int p1), .val (.int p2), .val (.int p3), .val (.int p4), .val (.int p5), .val (.int p6), .val (.int (1 : Int32)), .val (.int (0 : Int32)), .val (.ref b13_1_1), .val (.ref b13_4_1), .val (.ref b13_7_1), .val (.ref b13_10_1), .val (.ref b3_13_1), .val (.ref b3), .val (.ref b13_1_1), .val (.ref b13_1_1)] [])) _
    refine XS.aload X12.here hx rfl (hb hby at_218) rfl rfl ?_
    show Steps p.tables e below (T12.setTop (mkF m 220 #[.val (.int p1), .val (.int p2), .val (.int p3), .val (.int p4), .val (.int p5), .val (.int p6), .val (.int (1 : Int32)), .val (.int (0 : Int32)), .val (.ref b13_1_1), .val (.ref b13_4_1), .val (.ref b13_7_1), .val (.ref b13_10_1), .val (.ref b3_13_1), .val (.ref b3), .val (.ref b13_1_1), .val (.ref b13_1_1)] [(.ref b13_1_1)])) _
    refine XS.aload X12.here hx rfl (hb hby at_220) rfl rfl ?_
    show Steps p.tables e below (T12.setTop (mkF m 222 #[.val (.int p1), .val (.int p2), .val (.int p3), .val (.int p4), .val (.int p5), .val (.int p6), .val (.int (1 : Int32)), .val (.int (0 : Int32)), .val (.ref b13_1_1), .val (.ref b13_4_1), .val (.ref b13_7_1), .val (.ref b13_10_1), .val (.ref b3_13_1), .val (.ref b3), .val (.ref b13_1_1), .val (.ref b13_1_1)] [(.ref b13_1_1), (.ref b13_1_1)])) _
    refine Jvm.RoadKit.acmp (g := (mkF m 222 #[.val (.int p1), .val (.int p2), .val (.int p3), .val (.int p4), .val (.int p5), .val (.int p6), .val (.int (1 : Int32)), .val (.int (0 : Int32)), .val (.ref b13_1_1), .val (.ref b13_4_1), .val (.ref b13_7_1), .val (.ref b13_10_1), .val (.ref b3_13_1), .val (.ref b3), .val (.ref b13_1_1), .val (.ref b13_1_1)] [(.ref b13_1_1), (.ref b13_1_1)])) X12 hx rfl rfl rfl (pc0 := 222) (pc' := 225) (same := true) rfl (hb hby at_222) rfl (decide_eq_true rfl) (by decide) (by decide) ?_
    show Steps p.tables e below (T12.setTop (mkF m 225 #[.val (.int p1), .val (.int p2), .val (.int p3), .val (.int p4), .val (.int p5), .val (.int p6), .val (.int (1 : Int32)), .val (.int (0 : Int32)), .val (.ref b13_1_1), .val (.ref b13_4_1), .val (.ref b13_7_1), .val (.ref b13_10_1), .val (.ref b3_13_1), .val (.ref b3), .val (.ref b13_1_1), .val (.ref b13_1_1)] [])) _
    refine XS.aload X12.here hx rfl (hb hby at_225) rfl rfl ?_
    show Steps p.tables e below (T12.setTop (mkF m 227 #[.val (.int p1), .val (.int p2), .val (.int p3), .val (.int p4), .val (.int p5), .val (.int p6), .val (.int (1 : Int32)), .val (.int (0 : Int32)), .val (.ref b13_1_1), .val (.ref b13_4_1), .val (.ref b13_7_1), .val (.ref b13_10_1), .val (.ref b3_13_1), .val (.ref b3), .val (.ref b13_1_1), .val (.ref b13_1_1)] [(.ref b3)])) _
    refine X12.arraylength hx (by rw [e12]; exact Ar13.1) (State.isArrayOf_alike hZ.alike Ar13.2.1) (g := (mkF m 227 #[.val (.int p1), .val (.int p2), .val (.int p3), .val (.int p4), .val (.int p5), .val (.int p6), .val (.int (1 : Int32)), .val (.int (0 : Int32)), .val (.ref b13_1_1), .val (.ref b13_4_1), .val (.ref b13_7_1), .val (.ref b13_10_1), .val (.ref b3_13_1), .val (.ref b3), .val (.ref b13_1_1), .val (.ref b13_1_1)] [(.ref b3)])) rfl rfl (hb hby at_227) _ ?_
    rw [len_of Sz13 Ng13]
    show Steps p.tables e below (T12.setTop (mkF m 228 #[.val (.int p1), .val (.int p2), .val (.int p3), .val (.int p4), .val (.int p5), .val (.int p6), .val (.int (1 : Int32)), .val (.int (0 : Int32)), .val (.ref b13_1_1), .val (.ref b13_4_1), .val (.ref b13_7_1), .val (.ref b13_10_1), .val (.ref b3_13_1), .val (.ref b3), .val (.ref b13_1_1), .val (.ref b13_1_1)] [(.int (1 : Int32))])) _
    refine XS.iload X12.here hx rfl (hb hby at_228) rfl ?_
    show Steps p.tables e below (T12.setTop (mkF m 230 #[.val (.int p1), .val (.int p2), .val (.int p3), .val (.int p4), .val (.int p5), .val (.int p6), .val (.int (1 : Int32)), .val (.int (0 : Int32)), .val (.ref b13_1_1), .val (.ref b13_4_1), .val (.ref b13_7_1), .val (.ref b13_10_1), .val (.ref b3_13_1), .val (.ref b3), .val (.ref b13_1_1), .val (.ref b13_1_1)] [(.int (1 : Int32)), (.int (1 : Int32))])) _
    refine XS.icmpNo X12.here hx rfl (hb hby at_230) rfl (teq (rfl : (1 : Int32) = (1 : Int32))).2 ?_
    show Steps p.tables e below (T12.setTop (mkF m 233 #[.val (.int p1), .val (.int p2), .val (.int p3), .val (.int p4), .val (.int p5), .val (.int p6), .val (.int (1 : Int32)), .val (.int (0 : Int32)), .val (.ref b13_1_1), .val (.ref b13_4_1), .val (.ref b13_7_1), .val (.ref b13_10_1), .val (.ref b3_13_1), .val (.ref b3), .val (.ref b13_1_1), .val (.ref b13_1_1)] [])) _
    refine XS.iconst X12.here hx rfl (hb hby at_233) ?_
    show Steps p.tables e below (T12.setTop (mkF m 234 #[.val (.int p1), .val (.int p2), .val (.int p3), .val (.int p4), .val (.int p5), .val (.int p6), .val (.int (1 : Int32)), .val (.int (0 : Int32)), .val (.ref b13_1_1), .val (.ref b13_4_1), .val (.ref b13_7_1), .val (.ref b13_10_1), .val (.ref b3_13_1), .val (.ref b3), .val (.ref b13_1_1), .val (.ref b13_1_1)] [(.int (1 : Int32))])) _
    refine XS.goto X12.here hx rfl (pc0 := 234) (pc' := 238) rfl (hb hby at_234) (by decide) (by decide) ?_
    show Steps p.tables e below (T12.setTop (mkF m 238 #[.val (.int p1), .val (.int p2), .val (.int p3), .val (.int p4), .val (.int p5), .val (.int p6), .val (.int (1 : Int32)), .val (.int (0 : Int32)), .val (.ref b13_1_1), .val (.ref b13_4_1), .val (.ref b13_7_1), .val (.ref b13_10_1), .val (.ref b3_13_1), .val (.ref b3), .val (.ref b13_1_1), .val (.ref b13_1_1)] [(.int (1 : Int32))])) _
    exact retN X12 hx (t := .boolean) Bd.returns (by simp) (hb hby at_238) hr
  · show own_Qlaw h0 n0 _ T12.heap _
    exact ⟨rfl, N12⟩
theorem own_eflaw20 (m : MethodId) (p1 : Int32) (p2 : Int32) (p3 : Int32) (p4 : Int32) (p5 : Int32) (p6 : Int32) : entryFrame m #[(.int p1), (.int p2), (.int p3), (.int p4), (.int p5), (.int p6)] maxLocals = mkF m 0 #[.val (.int p1), .val (.int p2), .val (.int p3), .val (.int p4), .val (.int p5), .val (.int p6), .unset, .unset, .unset, .unset, .unset, .unset, .unset, .unset, .unset, .unset] [] := by first | (simp [entryFrame, mkF, argsToLocals, Value.category, maxLocals]; done) | rfl
set_option maxRecDepth 65536 in
set_option maxHeartbeats 40000000 in
theorem own_law20 (l : Launch) (Z : State) (a0 : Array Value) (hw : ∀ d ∈ tables_1, d.before a0 Z = true) (ws : List Jvm.Cond) (G1 : Int32) (gl : own_Glob Z G1) (p1 : Int32) (p2 : Int32) (p3 : Int32) (p4 : Int32) (p5 : Int32) (p6 : Int32) (h0 : Heap) (n0 : Nat) (Z0 : n0 ≤ h0.size) (X00 : Old Z n0 h0) (hn : own_n p1 = 2) (hi : own_i p2 2 = 0) :
    MetFree l x (head1 (Jvm.Cond.code x code maxLocals ret :: ws) room_1) (fun a U => a = #[(.int p1), (.int p2), (.int p3), (.int p4), (.int p5), (.int p6)] ∧ Z.Warmed39 U.vm ∧ U.heap = h0) (fun _ _ _ _ _ => True) (fun _ U o U' => ∃ v L, o = .returned v ∧ own_Qlaw h0 n0 v U'.heap L ∧ FrameEnd U o U' L room_1.cells room_1.slots) := by
  refine MetFree.of_bodySF (plainFor_of_name own_pn6) hisR ?_
  intro p e s m args below meth c s₁ Bd hml0 hP hK
  obtain ⟨rfl, hZ, hh⟩ := hP
  obtain ⟨O_CS, P_CS⟩ := id gl
  have hx := Bd.exec
  have hby := Bd.bytes
  have hml : c.maxLocals = 16 := hml0
  have hown : s.vm.findClass "com/example/dagsverke/dagsverke/CommandLineValuePinLaw" = some m.cls := findClass_of_methodNamed Bd.named
  have hnm := (name_of_methodNamed Bd.named Bd.method).1
  have X0 : Stand p l e room_1 s m #[(.int p1), (.int p2), (.int p3), (.int p4), (.int p5), (.int p6)] below meth c s₁ [] 0 0 := Stand.of_body Bd
  have e0 : s₁.heap = h0 := by rw [← hh, Bd.state]; rfl
  have N0 := Fr.nil n0
  have pre0 : ∀ t, Steps p.tables e below (s₁.setTop (mkF m 0 #[.val (.int p1), .val (.int p2), .val (.int p3), .val (.int p4), .val (.int p5), .val (.int p6), .unset, .unset, .unset, .unset, .unset, .unset, .unset, .unset, .unset, .unset] [])) t → Steps p.tables e below (s₁.setTop (entryFrame m #[(.int p1), (.int p2), (.int p3), (.int p4), (.int p5), (.int p6)] maxLocals)) t := fun t k => castTop (own_eflaw20 m p1 p2 p3 p4 p5 p6) k
  obtain ⟨b13_1_1, b13_4_1, b13_7_1, b13_10_1, b3_13_1, t25_1_1, kb25_1_1, t25_4_1, kb25_4_1, t25_7_1, kb25_7_1, t25_10_1, kb25_10_1, b1_5_13_1, k1_5_13_1, T1, h1, L1, X1, e1, N1, Kq1, f1_0, f1_1, f1_2, f1_3, f1_4, f1_5, f1_6, f1_7, f1_8, f1_9, f1_10, f1_11, f1_12, f1_13, f1_14, f1_15, f1_16, f1_17, f1_18, f1_19, f1_20, f1_21, f1_22, f1_23, f1_24, f1_25, f1_26, f1_27, f1_28, f1_29, f1_30, f1_31, f1_32, f1_33, st1⟩ := own_seg hw G1 gl p1 p2 p3 p4 p5 p6 Z0 X00  X0 hx hZ hby hml hown e0
  have Kp2 : Keep h0 h1 [] := (Keep.refl h0 []).trans Kq1 all0
  obtain ⟨T3, h3, k3, X3, e3, E3, A3, O3, st3⟩ := newR X1 hx hZ hown (hw _ (List.mem_of_getElem? (i := 6) rfl)) (hw _ (List.mem_of_getElem? (i := 49) rfl)) e1 (g := (mkF m 91 #[.val (.int p1), .val (.int p2), .val (.int p3), .val (.int p4), .val (.int p5), .val (.int p6), .val (.int (2 : Int32)), .val (.int (own_i p2 (2 : Int32))), .val (.ref b13_1_1), .val (.ref b13_4_1), .val (.ref b13_7_1), .val (.ref b13_10_1), .val (.ref b3_13_1), .unset, .unset, .unset] [(.int (2 : Int32))])) rfl (hb hby at_91) rfl (by decide) (cap := 2) (by decide) (by decide) (by decide) (by decide)
  obtain ⟨b3, g3⟩ : ∃ z, z = h1.size := ⟨_, rfl⟩
  rw [← g3] at A3 st3
  have Kp4 : Keep h0 h3 [] := Kp2.ext E3
  have Vh5 : Arv Z h3 b3 k3 (.object "java/lang/String") (2 : Int32) [.null, .null] .null := (Arv.new A3 (by decide)).pad (pad_rep [] .null 2)
  obtain ⟨cl6, Ar6, qc6, Sz6, Ng6, Hs6, Gs6⟩ := id Vh5
  have hin6 : ¬ ((0 : Int32) < 0 ∨ cl6.slots.size ≤ ((0 : Int32)).toNatClampNeg) := inb_of Sz6 ⟨(by decide), (by decide)⟩
  have Eh7 : Exa Z h3 b13_1_1 "java/lang/String" := (f1_1.ext E3)
  obtain ⟨T8, h8, X8, e8, W8, st8⟩ := stR X3 hx hZ e3 Ar6 (j := (0 : Int32)) hin6 rfl (Sto.ofV Ar6 qc6 O3 (Ins.self Eh7)) (g := (mkF m 98 #[.val (.int p1), .val (.int p2), .val (.int p3), .val (.int p4), .val (.int p5), .val (.int p6), .val (.int (2 : Int32)), .val (.int (own_i p2 (2 : Int32))), .val (.ref b13_1_1), .val (.ref b13_4_1), .val (.ref b13_7_1), .val (.ref b13_10_1), .val (.ref b3_13_1), .unset, .unset, .unset] [(.ref b13_1_1), (.int (0 : Int32)), (.ref b3), (.ref b3)])) rfl rfl (hb hby at_98)
  have Kp9 : Keep h0 h8 [] := Kp4.wr W8 (Or.inr (Nat.le_trans Kp2.1 (Nat.le_of_eq g3.symm)))
  have gh10 : n0 ≤ b3 := Nat.le_trans (Nat.le_trans Z0 Kp2.1) (Nat.le_of_eq g3.symm)
  obtain ⟨Lp8, X8, N8⟩ := own_pack X8 (Fr.snoc X8 N1 gh10)
  have Vh11 : Arv Z h8 b3 k3 (.object "java/lang/String") (2 : Int32) [(.ref b13_1_1), .null] .null := (Arv.set Ar6 qc6 Sz6 Ng6 Hs6 Gs6 rfl W8 0 rfl (Nat.le_of_ble_eq_true rfl))
  obtain ⟨cl12, Ar12, qc12, Sz12, Ng12, Hs12, Gs12⟩ := id Vh11
  have hin12 : ¬ ((1 : Int32) < 0 ∨ cl12.slots.size ≤ ((1 : Int32)).toNatClampNeg) := inb_of Sz12 ⟨(by decide), (by decide)⟩
  have Eh13 : Exa Z h8 b13_4_1 "java/lang/String" := ((f1_5.ext E3).wr W8)
  obtain ⟨T14, h14, X14, e14, W14, st14⟩ := stR X8 hx hZ e8 Ar12 (j := (1 : Int32)) hin12 rfl (Sto.ofV Ar12 qc12 O3 (Ins.self Eh13)) (g := (mkF m 103 #[.val (.int p1), .val (.int p2), .val (.int p3), .val (.int p4), .val (.int p5), .val (.int p6), .val (.int (2 : Int32)), .val (.int (own_i p2 (2 : Int32))), .val (.ref b13_1_1), .val (.ref b13_4_1), .val (.ref b13_7_1), .val (.ref b13_10_1), .val (.ref b3_13_1), .unset, .unset, .unset] [(.ref b13_4_1), (.int (1 : Int32)), (.ref b3), (.ref b3)])) rfl rfl (hb hby at_103)
  have Kp15 : Keep h0 h14 [] := Kp9.wr W14 (Or.inr (Nat.le_trans Kp2.1 (Nat.le_of_eq g3.symm)))
  obtain ⟨Lp14, X14, N14⟩ := own_pack X14 (Fr.snoc X14 N8 gh10)
  have Vh16 : Arv Z h14 b3 k3 (.object "java/lang/String") (2 : Int32) [(.ref b13_1_1), (.ref b13_4_1)] .null := (Arv.set Ar12 qc12 Sz12 Ng12 Hs12 Gs12 rfl W14 1 rfl (Nat.le_of_ble_eq_true rfl))
  obtain ⟨_, _, ⟨T17, L17, k17, n17⟩, -, X17, ⟨Lc17, hQ17, l17, y17, z17⟩, st17⟩ := Jvm.LawKit.callS X14 hx (y := (⟨"com/example/dagsverke/dagsverke/CommandLine", "value", "([Ljava/lang/String;ILjava/lang/String;)Ljava/lang/String;"⟩ : MethodName)) hown (mvT hZ (hw _ (List.mem_of_getElem? (i := 50) rfl))) (mvT hZ (hw _ (List.mem_of_getElem? (i := 51) rfl))) (mvT hZ (hw _ (List.mem_of_getElem? (i := 52) rfl))) (mvT hZ (hw _ (List.mem_of_getElem? (i := 53) rfl))) (by decide) (backOf (W := 0) (own_rm_v20 l Z a0 hw [] G1 gl b3 b3_13_1 (k3) b13_1_1 b13_4_1 h14 n0 (Nat.le_trans Z0 Kp15.1) Vh16) hZ (hw _ (List.mem_of_getElem? (i := 53) rfl)) (hw _ (List.mem_of_getElem? (i := 52) rfl)) (by decide) (by decide)) (g := (mkF m 213 #[.val (.int p1), .val (.int p2), .val (.int p3), .val (.int p4), .val (.int p5), .val (.int p6), .val (.int (2 : Int32)), .val (.int (0 : Int32)), .val (.ref b13_1_1), .val (.ref b13_4_1), .val (.ref b13_7_1), .val (.ref b13_10_1), .val (.ref b3_13_1), .val (.ref b3), .val (.ref b13_1_1), .unset] [(.ref b3_13_1), (.int (0 : Int32)), (.ref b3)])) rfl (by rw [hml]; rfl) (argsL := [(.ref b3), (.int (0 : Int32)), (.ref b3_13_1)]) (rest := []) (lenOf own_pd10 rfl) rfl (by show 2 * 0 + _ ≤ _; exact Nat.le_of_eq rfl) (hb hby at_213) (fun _ _ => ⟨rfl, e14, (by decide : 15 + 0 ≤ _), (by decide : 39 + 0 ≤ _)⟩)
  dsimp only [Pt.U, Pt.locs, Pt.cells, Pt.slots] at X17 l17 y17 z17 st17 hQ17
  subst y17 z17
  obtain ⟨rfl, Nq17, e17⟩ := hQ17
  have N17 : Fr n0 L17 := by rw [l17]; exact Fr.app N14 Nq17
  obtain ⟨cl18, Ar18, -, Sz18, Ng18, -, -⟩ := id Vh16
  obtain ⟨fs, hr, hrun, hended, hW, hsame⟩ := X17.leave (v := some (.int (1 : Int32))) (fun h => by rw [Bd.returns] at h; cases h)
  refine ⟨_, _, pre0 _ ?_, hrun, hended, _, _, rfl, ?_, ⟨_, rfl⟩, hW, hsame.mono (by decide) (by decide)⟩
  · show Steps p.tables e below (s₁.setTop (mkF m 0 #[.val (.int p1), .val (.int p2), .val (.int p3), .val (.int p4), .val (.int p5), .val (.int p6), .unset, .unset, .unset, .unset, .unset, .unset, .unset, .unset, .unset, .unset] [])) _
    refine st1 _ ?_
    show Steps p.tables e below (T1.setTop (mkF m 64 #[.val (.int p1), .val (.int p2), .val (.int p3), .val (.int p4), .val (.int p5), .val (.int p6), .val (.int (own_n p1)), .val (.int (own_i p2 (own_n p1))), .val (.ref b13_1_1), .val (.ref b13_4_1), .val (.ref b13_7_1), .val (.ref b13_10_1), .val (.ref b3_13_1), .unset, .unset, .unset] [])) _
    refine XS.iload X1.here hx rfl (hb hby at_64) rfl ?_
    show Steps p.tables e below (T1.setTop (mkF m 66 #[.val (.int p1), .val (.int p2), .val (.int p3), .val (.int p4), .val (.int p5), .val (.int p6), .val (.int (own_n p1)), .val (.int (own_i p2 (own_n p1))), .val (.ref b13_1_1), .val (.ref b13_4_1), .val (.ref b13_7_1), .val (.ref b13_10_1), .val (.ref b3_13_1), .unset, .unset, .unset] [(.int (own_n p1))])) _
    rw [hn]
    show Steps p.tables e below (T1.setTop (mkF m 66 #[.val (.int p1), .val (.int p2), .val (.int p3), .val (.int p4), .val (.int p5), .val (.int p6), .val (.int (2 : Int32)), .val (.int (own_i p2 (2 : Int32))), .val (.ref b13_1_1), .val (.ref b13_4_1), .val (.ref b13_7_1), .val (.ref b13_10_1), .val (.ref b3_13_1), .unset, .unset, .unset] [(.int (2 : Int32))])) _
    refine XS.iconst X1.here hx rfl (hb hby at_66) ?_
    show Steps p.tables e below (T1.setTop (mkF m 67 #[.val (.int p1), .val (.int p2), .val (.int p3), .val (.int p4), .val (.int p5), .val (.int p6), .val (.int (2 : Int32)), .val (.int (own_i p2 (2 : Int32))), .val (.ref b13_1_1), .val (.ref b13_4_1), .val (.ref b13_7_1), .val (.ref b13_10_1), .val (.ref b3_13_1), .unset, .unset, .unset] [(.int (1 : Int32)), (.int (2 : Int32))])) _
    refine XS.icmpYes X1.here hx rfl (pc0 := 67) (pc' := 84) rfl (hb hby at_67) rfl (feq (by decide : ¬ ((2 : Int32) = (1 : Int32)))).2 (by decide) (by decide) ?_
    show Steps p.tables e below (T1.setTop (mkF m 84 #[.val (.int p1), .val (.int p2), .val (.int p3), .val (.int p4), .val (.int p5), .val (.int p6), .val (.int (2 : Int32)), .val (.int (own_i p2 (2 : Int32))), .val (.ref b13_1_1), .val (.ref b13_4_1), .val (.ref b13_7_1), .val (.ref b13_10_1), .val (.ref b3_13_1), .unset, .unset, .unset] [])) _
    refine XS.iload X1.here hx rfl (hb hby at_84) rfl ?_
    show Steps p.tables e below (T1.setTop (mkF m 86 #[.val (.int p1), .val (.int p2), .val (.int p3), .val (.int p4), .val (.int p5), .val (.int p6), .val (.int (2 : Int32)), .val (.int (own_i p2 (2 : Int32))), .val (.ref b13_1_1), .val (.ref b13_4_1), .val (.ref b13_7_1), .val (.ref b13_10_1), .val (.ref b3_13_1), .unset, .unset, .unset] [(.int (2 : Int32))])) _
    refine XS.iconst X1.here hx rfl (hb hby at_86) ?_
    show Steps p.tables e below (T1.setTop (mkF m 87 #[.val (.int p1), .val (.int p2), .val (.int p3), .val (.int p4), .val (.int p5), .val (.int p6), .val (.int (2 : Int32)), .val (.int (own_i p2 (2 : Int32))), .val (.ref b13_1_1), .val (.ref b13_4_1), .val (.ref b13_7_1), .val (.ref b13_10_1), .val (.ref b3_13_1), .unset, .unset, .unset] [(.int (2 : Int32)), (.int (2 : Int32))])) _
    refine XS.icmpNo X1.here hx rfl (hb hby at_87) rfl (teq (rfl : (2 : Int32) = (2 : Int32))).2 ?_
    show Steps p.tables e below (T1.setTop (mkF m 90 #[.val (.int p1), .val (.int p2), .val (.int p3), .val (.int p4), .val (.int p5), .val (.int p6), .val (.int (2 : Int32)), .val (.int (own_i p2 (2 : Int32))), .val (.ref b13_1_1), .val (.ref b13_4_1), .val (.ref b13_7_1), .val (.ref b13_10_1), .val (.ref b3_13_1), .unset, .unset, .unset] [])) _
    refine XS.iconst X1.here hx rfl (hb hby at_90) ?_
    show Steps p.tables e below (T1.setTop (mkF m 91 #[.val (.int p1), .val (.int p2), .val (.int p3), .val (.int p4), .val (.int p5), .val (.int p6), .val (.int (2 : Int32)), .val (.int (own_i p2 (2 : Int32))), .val (.ref b13_1_1), .val (.ref b13_4_1), .val (.ref b13_7_1), .val (.ref b13_10_1), .val (.ref b3_13_1), .unset, .unset, .unset] [(.int (2 : Int32))])) _
    refine st3 _ ?_
    show Steps p.tables e below (T3.setTop (mkF m 94 #[.val (.int p1), .val (.int p2), .val (.int p3), .val (.int p4), .val (.int p5), .val (.int p6), .val (.int (2 : Int32)), .val (.int (own_i p2 (2 : Int32))), .val (.ref b13_1_1), .val (.ref b13_4_1), .val (.ref b13_7_1), .val (.ref b13_10_1), .val (.ref b3_13_1), .unset, .unset, .unset] [(.ref b3)])) _
    refine XS.dup X3.here hx rfl (hb hby at_94) rfl rfl ?_
    show Steps p.tables e below (T3.setTop (mkF m 95 #[.val (.int p1), .val (.int p2), .val (.int p3), .val (.int p4), .val (.int p5), .val (.int p6), .val (.int (2 : Int32)), .val (.int (own_i p2 (2 : Int32))), .val (.ref b13_1_1), .val (.ref b13_4_1), .val (.ref b13_7_1), .val (.ref b13_10_1), .val (.ref b3_13_1), .unset, .unset, .unset] [(.ref b3), (.ref b3)])) _
    refine XS.iconst X3.here hx rfl (hb hby at_95) ?_
    show Steps p.tables e below (T3.setTop (mkF m 96 #[.val (.int p1), .val (.int p2), .val (.int p3), .val (.int p4), .val (.int p5), .val (.int p6), .val (.int (2 : Int32)), .val (.int (own_i p2 (2 : Int32))), .val (.ref b13_1_1), .val (.ref b13_4_1), .val (.ref b13_7_1), .val (.ref b13_10_1), .val (.ref b3_13_1), .unset, .unset, .unset] [(.int (0 : Int32)), (.ref b3), (.ref b3)])) _
    refine XS.aload X3.here hx rfl (hb hby at_96) rfl rfl ?_
    show Steps p.tables e below (T3.setTop (mkF m 98 #[.val (.int p1), .val (.int p2), .val (.int p3), .val (.int p4), .val (.int p5), .val (.int p6), .val (.int (2 : Int32)), .val (.int (own_i p2 (2 : Int32))), .val (.ref b13_1_1), .val (.ref b13_4_1), .val (.ref b13_7_1), .val (.ref b13_10_1), .val (.ref b3_13_1), .unset, .unset, .unset] [(.ref b13_1_1), (.int (0 : Int32)), (.ref b3), (.ref b3)])) _
    refine st8 _ ?_
    show Steps p.tables e below (T8.setTop (mkF m 99 #[.val (.int p1), .val (.int p2), .val (.int p3), .val (.int p4), .val (.int p5), .val (.int p6), .val (.int (2 : Int32)), .val (.int (own_i p2 (2 : Int32))), .val (.ref b13_1_1), .val (.ref b13_4_1), .val (.ref b13_7_1), .val (.ref b13_10_1), .val (.ref b3_13_1), .unset, .unset, .unset] [(.ref b3)])) _
    refine XS.dup X8.here hx rfl (hb hby at_99) rfl rfl ?_
    show Steps p.tables e below (T8.setTop (mkF m 100 #[.val (.int p1), .val (.int p2), .val (.int p3), .val (.int p4), .val (.int p5), .val (.int p6), .val (.int (2 : Int32)), .val (.int (own_i p2 (2 : Int32))), .val (.ref b13_1_1), .val (.ref b13_4_1), .val (.ref b13_7_1), .val (.ref b13_10_1), .val (.ref b3_13_1), .unset, .unset, .unset] [(.ref b3), (.ref b3)])) _
    refine XS.iconst X8.here hx rfl (hb hby at_100) ?_
    show Steps p.tables e below (T8.setTop (mkF m 101 #[.val (.int p1), .val (.int p2), .val (.int p3), .val (.int p4), .val (.int p5), .val (.int p6), .val (.int (2 : Int32)), .val (.int (own_i p2 (2 : Int32))), .val (.ref b13_1_1), .val (.ref b13_4_1), .val (.ref b13_7_1), .val (.ref b13_10_1), .val (.ref b3_13_1), .unset, .unset, .unset] [(.int (1 : Int32)), (.ref b3), (.ref b3)])) _
    refine XS.aload X8.here hx rfl (hb hby at_101) rfl rfl ?_
    show Steps p.tables e below (T8.setTop (mkF m 103 #[.val (.int p1), .val (.int p2), .val (.int p3), .val (.int p4), .val (.int p5), .val (.int p6), .val (.int (2 : Int32)), .val (.int (own_i p2 (2 : Int32))), .val (.ref b13_1_1), .val (.ref b13_4_1), .val (.ref b13_7_1), .val (.ref b13_10_1), .val (.ref b3_13_1), .unset, .unset, .unset] [(.ref b13_4_1), (.int (1 : Int32)), (.ref b3), (.ref b3)])) _
    refine st14 _ ?_
    show Steps p.tables e below (T14.setTop (mkF m 104 #[.val (.int p1), .val (.int p2), .val (.int p3), .val (.int p4), .val (.int p5), .val (.int p6), .val (.int (2 : Int32)), .val (.int (own_i p2 (2 : Int32))), .val (.ref b13_1_1), .val (.ref b13_4_1), .val (.ref b13_7_1), .val (.ref b13_10_1), .val (.ref b3_13_1), .unset, .unset, .unset] [(.ref b3)])) _
    refine XS.astore X14.here hx rfl (hb hby at_104) rfl rfl (l' := #[.val (.int p1), .val (.int p2), .val (.int p3), .val (.int p4), .val (.int p5), .val (.int p6), .val (.int (2 : Int32)), .val (.int (own_i p2 (2 : Int32))), .val (.ref b13_1_1), .val (.ref b13_4_1), .val (.ref b13_7_1), .val (.ref b13_10_1), .val (.ref b3_13_1), .val (.ref b3), .unset, .unset]) rfl ?_
    show Steps p.tables e below (T14.setTop (mkF m 106 #[.val (.int p1), .val (.int p2), .val (.int p3), .val (.int p4), .val (.int p5), .val (.int p6), .val (.int (2 : Int32)), .val (.int (own_i p2 (2 : Int32))), .val (.ref b13_1_1), .val (.ref b13_4_1), .val (.ref b13_7_1), .val (.ref b13_10_1), .val (.ref b3_13_1), .val (.ref b3), .unset, .unset] [])) _
    refine XS.goto X14.here hx rfl (pc0 := 106) (pc' := 165) rfl (hb hby at_106) (by decide) (by decide) ?_
    show Steps p.tables e below (T14.setTop (mkF m 165 #[.val (.int p1), .val (.int p2), .val (.int p3), .val (.int p4), .val (.int p5), .val (.int p6), .val (.int (2 : Int32)), .val (.int (own_i p2 (2 : Int32))), .val (.ref b13_1_1), .val (.ref b13_4_1), .val (.ref b13_7_1), .val (.ref b13_10_1), .val (.ref b3_13_1), .val (.ref b3), .unset, .unset] [])) _
    refine XS.iload X14.here hx rfl (hb hby at_165) rfl ?_
    show Steps p.tables e below (T14.setTop (mkF m 167 #[.val (.int p1), .val (.int p2), .val (.int p3), .val (.int p4), .val (.int p5), .val (.int p6), .val (.int (2 : Int32)), .val (.int (own_i p2 (2 : Int32))), .val (.ref b13_1_1), .val (.ref b13_4_1), .val (.ref b13_7_1), .val (.ref b13_10_1), .val (.ref b3_13_1), .val (.ref b3), .unset, .unset] [(.int (own_i p2 (2 : Int32)))])) _
    rw [hi]
    show Steps p.tables e below (T14.setTop (mkF m 167 #[.val (.int p1), .val (.int p2), .val (.int p3), .val (.int p4), .val (.int p5), .val (.int p6), .val (.int (2 : Int32)), .val (.int (0 : Int32)), .val (.ref b13_1_1), .val (.ref b13_4_1), .val (.ref b13_7_1), .val (.ref b13_10_1), .val (.ref b3_13_1), .val (.ref b3), .unset, .unset] [(.int (0 : Int32))])) _
    refine XS.ifNo X14.here hx rfl (hb hby at_167) rfl ((if0 _ _).trans (teq (rfl : (0 : Int32) = (0 : Int32))).2) ?_
    show Steps p.tables e below (T14.setTop (mkF m 170 #[.val (.int p1), .val (.int p2), .val (.int p3), .val (.int p4), .val (.int p5), .val (.int p6), .val (.int (2 : Int32)), .val (.int (0 : Int32)), .val (.ref b13_1_1), .val (.ref b13_4_1), .val (.ref b13_7_1), .val (.ref b13_10_1), .val (.ref b3_13_1), .val (.ref b3), .unset, .unset] [])) _
    refine XS.aload X14.here hx rfl (hb hby at_170) rfl rfl ?_
    show Steps p.tables e below (T14.setTop (mkF m 172 #[.val (.int p1), .val (.int p2), .val (.int p3), .val (.int p4), .val (.int p5), .val (.int p6), .val (.int (2 : Int32)), .val (.int (0 : Int32)), .val (.ref b13_1_1), .val (.ref b13_4_1), .val (.ref b13_7_1), .val (.ref b13_10_1), .val (.ref b3_13_1), .val (.ref b3), .unset, .unset] [(.ref b13_1_1)])) _
    refine XS.astore X14.here hx rfl (hb hby at_172) rfl rfl (l' := #[.val (.int p1), .val (.int p2), .val (.int p3), .val (.int p4), .val (.int p5), .val (.int p6), .val (.int (2 : Int32)), .val (.int (0 : Int32)), .val (.ref b13_1_1), .val (.ref b13_4_1), .val (.ref b13_7_1), .val (.ref b13_10_1), .val (.ref b3_13_1), .val (.ref b3), .val (.ref b13_1_1), .unset]) rfl ?_
    show Steps p.tables e below (T14.setTop (mkF m 174 #[.val (.int p1), .val (.int p2), .val (.int p3), .val (.int p4), .val (.int p5), .val (.int p6), .val (.int (2 : Int32)), .val (.int (0 : Int32)), .val (.ref b13_1_1), .val (.ref b13_4_1), .val (.ref b13_7_1), .val (.ref b13_10_1), .val (.ref b3_13_1), .val (.ref b3), .val (.ref b13_1_1), .unset] [])) _
    refine XS.goto X14.here hx rfl (pc0 := 174) (pc' := 207) rfl (hb hby at_174) (by decide) (by decide) ?_
    show Steps p.tables e below (T14.setTop (mkF m 207 #[.val (.int p1), .val (.int p2), .val (.int p3), .val (.int p4), .val (.int p5), .val (.int p6), .val (.int (2 : Int32)), .val (.int (0 : Int32)), .val (.ref b13_1_1), .val (.ref b13_4_1), .val (.ref b13_7_1), .val (.ref b13_10_1), .val (.ref b3_13_1), .val (.ref b3), .val (.ref b13_1_1), .unset] [])) _
    refine XS.aload X14.here hx rfl (hb hby at_207) rfl rfl ?_
    show Steps p.tables e below (T14.setTop (mkF m 209 #[.val (.int p1), .val (.int p2), .val (.int p3), .val (.int p4), .val (.int p5), .val (.int p6), .val (.int (2 : Int32)), .val (.int (0 : Int32)), .val (.ref b13_1_1), .val (.ref b13_4_1), .val (.ref b13_7_1), .val (.ref b13_10_1), .val (.ref b3_13_1), .val (.ref b3), .val (.ref b13_1_1), .unset] [(.ref b3)])) _
    refine XS.iload X14.here hx rfl (hb hby at_209) rfl ?_
    show Steps p.tables e below (T14.setTop (mkF m 211 #[.val (.int p1), .val (.int p2), .val (.int p3), .val (.int p4), .val (.int p5), .val (.int p6), .val (.int (2 : Int32)), .val (.int (0 : Int32)), .val (.ref b13_1_1), .val (.ref b13_4_1), .val (.ref b13_7_1), .val (.ref b13_10_1), .val (.ref b3_13_1), .val (.ref b3), .val (.ref b13_1_1), .unset] [(.int (0 : Int32)), (.ref b3)])) _
    refine XS.aload X14.here hx rfl (hb hby at_211) rfl rfl ?_
    show Steps p.tables e below (T14.setTop (mkF m 213 #[.val (.int p1), .val (.int p2), .val (.int p3), .val (.int p4), .val (.int p5), .val (.int p6), .val (.int (2 : Int32)), .val (.int (0 : Int32)), .val (.ref b13_1_1), .val (.ref b13_4_1), .val (.ref b13_7_1), .val (.ref b13_10_1), .val (.ref b3_13_1), .val (.ref b3), .val (.ref b13_1_1), .unset] [(.ref b3_13_1), (.int (0 : Int32)), (.ref b3)])) _
    refine st17 _ ?_
    show Steps p.tables e below (T17.setTop (mkF m 216 #[.val (.int p1), .val (.int p2), .val (.int p3), .val (.int p4), .val (.int p5), .val (.int p6), .val (.int (2 : Int32)), .val (.int (0 : Int32)), .val (.ref b13_1_1), .val (.ref b13_4_1), .val (.ref b13_7_1), .val (.ref b13_10_1), .val (.ref b3_13_1), .val (.ref b3), .val (.ref b13_1_1), .unset] [(.ref b13_1_1)])) _
    refine XS.astore X17.here hx rfl (hb hby at_216) rfl rfl (l' := #[.val (.int p1), .val (.int p2), .val (.int p3), .val (.int p4), .val (.int p5), .val (.int p6), .val (.int (2 : Int32)), .val (.int (0 : Int32)), .val (.ref b13_1_1), .val (.ref b13_4_1), .val (.ref b13_7_1), .val (.ref b13_10_1), .val (.ref b3_13_1), .val (.ref b3), .val (.ref b13_1_1), .val (.ref b13_1_1)]) rfl ?_
    show Steps p.tables e below (T17.setTop (mkF m 218 #[.val (.int p1), .val (.int p2), .val (.int p3), .val (.int p4), .val (.int p5), .val (.int p6), .val (.int (2 : Int32)), .val (.int (0 : Int32)), .val (.ref b13_1_1), .val (.ref b13_4_1), .val (.ref b13_7_1), .val (.ref b13_10_1), .val (.ref b3_13_1), .val (.ref b3), .val (.ref b13_1_1), .val (.ref b13_1_1)] [])) _
    refine XS.aload X17.here hx rfl (hb hby at_218) rfl rfl ?_
    show Steps p.tables e below (T17.setTop (mkF m 220 #[.val (.int p1), .val (.int p2), .val (.int p3), .val (.int p4), .val (.int p5), .val (.int p6), .val (.int (2 : Int32)), .val (.int (0 : Int32)), .val (.ref b13_1_1), .val (.ref b13_4_1), .val (.ref b13_7_1), .val (.ref b13_10_1), .val (.ref b3_13_1), .val (.ref b3), .val (.ref b13_1_1), .val (.ref b13_1_1)] [(.ref b13_1_1)])) _
    refine XS.aload X17.here hx rfl (hb hby at_220) rfl rfl ?_
    show Steps p.tables e below (T17.setTop (mkF m 222 #[.val (.int p1), .val (.int p2), .val (.int p3), .val (.int p4), .val (.int p5), .val (.int p6), .val (.int (2 : Int32)), .val (.int (0 : Int32)), .val (.ref b13_1_1), .val (.ref b13_4_1), .val (.ref b13_7_1), .val (.ref b13_10_1), .val (.ref b3_13_1), .val (.ref b3), .val (.ref b13_1_1), .val (.ref b13_1_1)] [(.ref b13_1_1), (.ref b13_1_1)])) _
    refine Jvm.RoadKit.acmp (g := (mkF m 222 #[.val (.int p1), .val (.int p2), .val (.int p3), .val (.int p4), .val (.int p5), .val (.int p6), .val (.int (2 : Int32)), .val (.int (0 : Int32)), .val (.ref b13_1_1), .val (.ref b13_4_1), .val (.ref b13_7_1), .val (.ref b13_10_1), .val (.ref b3_13_1), .val (.ref b3), .val (.ref b13_1_1), .val (.ref b13_1_1)] [(.ref b13_1_1), (.ref b13_1_1)])) X17 hx rfl rfl rfl (pc0 := 222) (pc' := 225) (same := true) rfl (hb hby at_222) rfl (decide_eq_true rfl) (by decide) (by decide) ?_
    show Steps p.tables e below (T17.setTop (mkF m 225 #[.val (.int p1), .val (.int p2), .val (.int p3), .val (.int p4), .val (.int p5), .val (.int p6), .val (.int (2 : Int32)), .val (.int (0 : Int32)), .val (.ref b13_1_1), .val (.ref b13_4_1), .val (.ref b13_7_1), .val (.ref b13_10_1), .val (.ref b3_13_1), .val (.ref b3), .val (.ref b13_1_1), .val (.ref b13_1_1)] [])) _
    refine XS.aload X17.here hx rfl (hb hby at_225) rfl rfl ?_
    show Steps p.tables e below (T17.setTop (mkF m 227 #[.val (.int p1), .val (.int p2), .val (.int p3), .val (.int p4), .val (.int p5), .val (.int p6), .val (.int (2 : Int32)), .val (.int (0 : Int32)), .val (.ref b13_1_1), .val (.ref b13_4_1), .val (.ref b13_7_1), .val (.ref b13_10_1), .val (.ref b3_13_1), .val (.ref b3), .val (.ref b13_1_1), .val (.ref b13_1_1)] [(.ref b3)])) _
    refine X17.arraylength hx (by rw [e17]; exact Ar18.1) (State.isArrayOf_alike hZ.alike Ar18.2.1) (g := (mkF m 227 #[.val (.int p1), .val (.int p2), .val (.int p3), .val (.int p4), .val (.int p5), .val (.int p6), .val (.int (2 : Int32)), .val (.int (0 : Int32)), .val (.ref b13_1_1), .val (.ref b13_4_1), .val (.ref b13_7_1), .val (.ref b13_10_1), .val (.ref b3_13_1), .val (.ref b3), .val (.ref b13_1_1), .val (.ref b13_1_1)] [(.ref b3)])) rfl rfl (hb hby at_227) _ ?_
    rw [len_of Sz18 Ng18]
    show Steps p.tables e below (T17.setTop (mkF m 228 #[.val (.int p1), .val (.int p2), .val (.int p3), .val (.int p4), .val (.int p5), .val (.int p6), .val (.int (2 : Int32)), .val (.int (0 : Int32)), .val (.ref b13_1_1), .val (.ref b13_4_1), .val (.ref b13_7_1), .val (.ref b13_10_1), .val (.ref b3_13_1), .val (.ref b3), .val (.ref b13_1_1), .val (.ref b13_1_1)] [(.int (2 : Int32))])) _
    refine XS.iload X17.here hx rfl (hb hby at_228) rfl ?_
    show Steps p.tables e below (T17.setTop (mkF m 230 #[.val (.int p1), .val (.int p2), .val (.int p3), .val (.int p4), .val (.int p5), .val (.int p6), .val (.int (2 : Int32)), .val (.int (0 : Int32)), .val (.ref b13_1_1), .val (.ref b13_4_1), .val (.ref b13_7_1), .val (.ref b13_10_1), .val (.ref b3_13_1), .val (.ref b3), .val (.ref b13_1_1), .val (.ref b13_1_1)] [(.int (2 : Int32)), (.int (2 : Int32))])) _
    refine XS.icmpNo X17.here hx rfl (hb hby at_230) rfl (teq (rfl : (2 : Int32) = (2 : Int32))).2 ?_
    show Steps p.tables e below (T17.setTop (mkF m 233 #[.val (.int p1), .val (.int p2), .val (.int p3), .val (.int p4), .val (.int p5), .val (.int p6), .val (.int (2 : Int32)), .val (.int (0 : Int32)), .val (.ref b13_1_1), .val (.ref b13_4_1), .val (.ref b13_7_1), .val (.ref b13_10_1), .val (.ref b3_13_1), .val (.ref b3), .val (.ref b13_1_1), .val (.ref b13_1_1)] [])) _
    refine XS.iconst X17.here hx rfl (hb hby at_233) ?_
    show Steps p.tables e below (T17.setTop (mkF m 234 #[.val (.int p1), .val (.int p2), .val (.int p3), .val (.int p4), .val (.int p5), .val (.int p6), .val (.int (2 : Int32)), .val (.int (0 : Int32)), .val (.ref b13_1_1), .val (.ref b13_4_1), .val (.ref b13_7_1), .val (.ref b13_10_1), .val (.ref b3_13_1), .val (.ref b3), .val (.ref b13_1_1), .val (.ref b13_1_1)] [(.int (1 : Int32))])) _
    refine XS.goto X17.here hx rfl (pc0 := 234) (pc' := 238) rfl (hb hby at_234) (by decide) (by decide) ?_
    show Steps p.tables e below (T17.setTop (mkF m 238 #[.val (.int p1), .val (.int p2), .val (.int p3), .val (.int p4), .val (.int p5), .val (.int p6), .val (.int (2 : Int32)), .val (.int (0 : Int32)), .val (.ref b13_1_1), .val (.ref b13_4_1), .val (.ref b13_7_1), .val (.ref b13_10_1), .val (.ref b3_13_1), .val (.ref b3), .val (.ref b13_1_1), .val (.ref b13_1_1)] [(.int (1 : Int32))])) _
    exact retN X17 hx (t := .boolean) Bd.returns (by simp) (hb hby at_238) hr
  · show own_Qlaw h0 n0 _ T17.heap _
    exact ⟨rfl, N17⟩
theorem own_eflaw21 (m : MethodId) (p1 : Int32) (p2 : Int32) (p3 : Int32) (p4 : Int32) (p5 : Int32) (p6 : Int32) : entryFrame m #[(.int p1), (.int p2), (.int p3), (.int p4), (.int p5), (.int p6)] maxLocals = mkF m 0 #[.val (.int p1), .val (.int p2), .val (.int p3), .val (.int p4), .val (.int p5), .val (.int p6), .unset, .unset, .unset, .unset, .unset, .unset, .unset, .unset, .unset, .unset] [] := by first | (simp [entryFrame, mkF, argsToLocals, Value.category, maxLocals]; done) | rfl
set_option maxRecDepth 65536 in
set_option maxHeartbeats 40000000 in
theorem own_law21 (l : Launch) (Z : State) (a0 : Array Value) (hw : ∀ d ∈ tables_1, d.before a0 Z = true) (ws : List Jvm.Cond) (G1 : Int32) (gl : own_Glob Z G1) (p1 : Int32) (p2 : Int32) (p3 : Int32) (p4 : Int32) (p5 : Int32) (p6 : Int32) (h0 : Heap) (n0 : Nat) (Z0 : n0 ≤ h0.size) (X00 : Old Z n0 h0) (hn : own_n p1 = 2) (hi : own_i p2 2 = 1) :
    MetFree l x (head1 (Jvm.Cond.code x code maxLocals ret :: ws) room_1) (fun a U => a = #[(.int p1), (.int p2), (.int p3), (.int p4), (.int p5), (.int p6)] ∧ Z.Warmed39 U.vm ∧ U.heap = h0) (fun _ _ _ _ _ => True) (fun _ U o U' => ∃ v L, o = .returned v ∧ own_Qlaw h0 n0 v U'.heap L ∧ FrameEnd U o U' L room_1.cells room_1.slots) := by
  refine MetFree.of_bodySF (plainFor_of_name own_pn6) hisR ?_
  intro p e s m args below meth c s₁ Bd hml0 hP hK
  obtain ⟨rfl, hZ, hh⟩ := hP
  obtain ⟨O_CS, P_CS⟩ := id gl
  have hx := Bd.exec
  have hby := Bd.bytes
  have hml : c.maxLocals = 16 := hml0
  have hown : s.vm.findClass "com/example/dagsverke/dagsverke/CommandLineValuePinLaw" = some m.cls := findClass_of_methodNamed Bd.named
  have hnm := (name_of_methodNamed Bd.named Bd.method).1
  have X0 : Stand p l e room_1 s m #[(.int p1), (.int p2), (.int p3), (.int p4), (.int p5), (.int p6)] below meth c s₁ [] 0 0 := Stand.of_body Bd
  have e0 : s₁.heap = h0 := by rw [← hh, Bd.state]; rfl
  have N0 := Fr.nil n0
  have pre0 : ∀ t, Steps p.tables e below (s₁.setTop (mkF m 0 #[.val (.int p1), .val (.int p2), .val (.int p3), .val (.int p4), .val (.int p5), .val (.int p6), .unset, .unset, .unset, .unset, .unset, .unset, .unset, .unset, .unset, .unset] [])) t → Steps p.tables e below (s₁.setTop (entryFrame m #[(.int p1), (.int p2), (.int p3), (.int p4), (.int p5), (.int p6)] maxLocals)) t := fun t k => castTop (own_eflaw21 m p1 p2 p3 p4 p5 p6) k
  obtain ⟨b13_1_1, b13_4_1, b13_7_1, b13_10_1, b3_13_1, t25_1_1, kb25_1_1, t25_4_1, kb25_4_1, t25_7_1, kb25_7_1, t25_10_1, kb25_10_1, b1_5_13_1, k1_5_13_1, T1, h1, L1, X1, e1, N1, Kq1, f1_0, f1_1, f1_2, f1_3, f1_4, f1_5, f1_6, f1_7, f1_8, f1_9, f1_10, f1_11, f1_12, f1_13, f1_14, f1_15, f1_16, f1_17, f1_18, f1_19, f1_20, f1_21, f1_22, f1_23, f1_24, f1_25, f1_26, f1_27, f1_28, f1_29, f1_30, f1_31, f1_32, f1_33, st1⟩ := own_seg hw G1 gl p1 p2 p3 p4 p5 p6 Z0 X00  X0 hx hZ hby hml hown e0
  have Kp2 : Keep h0 h1 [] := (Keep.refl h0 []).trans Kq1 all0
  obtain ⟨T3, h3, k3, X3, e3, E3, A3, O3, st3⟩ := newR X1 hx hZ hown (hw _ (List.mem_of_getElem? (i := 6) rfl)) (hw _ (List.mem_of_getElem? (i := 49) rfl)) e1 (g := (mkF m 91 #[.val (.int p1), .val (.int p2), .val (.int p3), .val (.int p4), .val (.int p5), .val (.int p6), .val (.int (2 : Int32)), .val (.int (own_i p2 (2 : Int32))), .val (.ref b13_1_1), .val (.ref b13_4_1), .val (.ref b13_7_1), .val (.ref b13_10_1), .val (.ref b3_13_1), .unset, .unset, .unset] [(.int (2 : Int32))])) rfl (hb hby at_91) rfl (by decide) (cap := 2) (by decide) (by decide) (by decide) (by decide)
  obtain ⟨b3, g3⟩ : ∃ z, z = h1.size := ⟨_, rfl⟩
  rw [← g3] at A3 st3
  have Kp4 : Keep h0 h3 [] := Kp2.ext E3
  have Vh5 : Arv Z h3 b3 k3 (.object "java/lang/String") (2 : Int32) [.null, .null] .null := (Arv.new A3 (by decide)).pad (pad_rep [] .null 2)
  obtain ⟨cl6, Ar6, qc6, Sz6, Ng6, Hs6, Gs6⟩ := id Vh5
  have hin6 : ¬ ((0 : Int32) < 0 ∨ cl6.slots.size ≤ ((0 : Int32)).toNatClampNeg) := inb_of Sz6 ⟨(by decide), (by decide)⟩
  have Eh7 : Exa Z h3 b13_1_1 "java/lang/String" := (f1_1.ext E3)
  obtain ⟨T8, h8, X8, e8, W8, st8⟩ := stR X3 hx hZ e3 Ar6 (j := (0 : Int32)) hin6 rfl (Sto.ofV Ar6 qc6 O3 (Ins.self Eh7)) (g := (mkF m 98 #[.val (.int p1), .val (.int p2), .val (.int p3), .val (.int p4), .val (.int p5), .val (.int p6), .val (.int (2 : Int32)), .val (.int (own_i p2 (2 : Int32))), .val (.ref b13_1_1), .val (.ref b13_4_1), .val (.ref b13_7_1), .val (.ref b13_10_1), .val (.ref b3_13_1), .unset, .unset, .unset] [(.ref b13_1_1), (.int (0 : Int32)), (.ref b3), (.ref b3)])) rfl rfl (hb hby at_98)
  have Kp9 : Keep h0 h8 [] := Kp4.wr W8 (Or.inr (Nat.le_trans Kp2.1 (Nat.le_of_eq g3.symm)))
  have gh10 : n0 ≤ b3 := Nat.le_trans (Nat.le_trans Z0 Kp2.1) (Nat.le_of_eq g3.symm)
  obtain ⟨Lp8, X8, N8⟩ := own_pack X8 (Fr.snoc X8 N1 gh10)
  have Vh11 : Arv Z h8 b3 k3 (.object "java/lang/String") (2 : Int32) [(.ref b13_1_1), .null] .null := (Arv.set Ar6 qc6 Sz6 Ng6 Hs6 Gs6 rfl W8 0 rfl (Nat.le_of_ble_eq_true rfl))
  obtain ⟨cl12, Ar12, qc12, Sz12, Ng12, Hs12, Gs12⟩ := id Vh11
  have hin12 : ¬ ((1 : Int32) < 0 ∨ cl12.slots.size ≤ ((1 : Int32)).toNatClampNeg) := inb_of Sz12 ⟨(by decide), (by decide)⟩
  have Eh13 : Exa Z h8 b13_4_1 "java/lang/String" := ((f1_5.ext E3).wr W8)
  obtain ⟨T14, h14, X14, e14, W14, st14⟩ := stR X8 hx hZ e8 Ar12 (j := (1 : Int32)) hin12 rfl (Sto.ofV Ar12 qc12 O3 (Ins.self Eh13)) (g := (mkF m 103 #[.val (.int p1), .val (.int p2), .val (.int p3), .val (.int p4), .val (.int p5), .val (.int p6), .val (.int (2 : Int32)), .val (.int (own_i p2 (2 : Int32))), .val (.ref b13_1_1), .val (.ref b13_4_1), .val (.ref b13_7_1), .val (.ref b13_10_1), .val (.ref b3_13_1), .unset, .unset, .unset] [(.ref b13_4_1), (.int (1 : Int32)), (.ref b3), (.ref b3)])) rfl rfl (hb hby at_103)
  have Kp15 : Keep h0 h14 [] := Kp9.wr W14 (Or.inr (Nat.le_trans Kp2.1 (Nat.le_of_eq g3.symm)))
  obtain ⟨Lp14, X14, N14⟩ := own_pack X14 (Fr.snoc X14 N8 gh10)
  have Vh16 : Arv Z h14 b3 k3 (.object "java/lang/String") (2 : Int32) [(.ref b13_1_1), (.ref b13_4_1)] .null := (Arv.set Ar12 qc12 Sz12 Ng12 Hs12 Gs12 rfl W14 1 rfl (Nat.le_of_ble_eq_true rfl))
  obtain ⟨_, _, ⟨T17, L17, k17, n17⟩, -, X17, ⟨Lc17, hQ17, l17, y17, z17⟩, st17⟩ := Jvm.LawKit.callS X14 hx (y := (⟨"com/example/dagsverke/dagsverke/CommandLine", "value", "([Ljava/lang/String;ILjava/lang/String;)Ljava/lang/String;"⟩ : MethodName)) hown (mvT hZ (hw _ (List.mem_of_getElem? (i := 50) rfl))) (mvT hZ (hw _ (List.mem_of_getElem? (i := 51) rfl))) (mvT hZ (hw _ (List.mem_of_getElem? (i := 52) rfl))) (mvT hZ (hw _ (List.mem_of_getElem? (i := 53) rfl))) (by decide) (backOf (W := 0) (own_rm_v21 l Z a0 hw [] G1 gl b3 b3_13_1 (k3) b13_1_1 b13_4_1 h14 n0 (Nat.le_trans Z0 Kp15.1) Vh16) hZ (hw _ (List.mem_of_getElem? (i := 53) rfl)) (hw _ (List.mem_of_getElem? (i := 52) rfl)) (by decide) (by decide)) (g := (mkF m 213 #[.val (.int p1), .val (.int p2), .val (.int p3), .val (.int p4), .val (.int p5), .val (.int p6), .val (.int (2 : Int32)), .val (.int (1 : Int32)), .val (.ref b13_1_1), .val (.ref b13_4_1), .val (.ref b13_7_1), .val (.ref b13_10_1), .val (.ref b3_13_1), .val (.ref b3), .val (.ref b13_4_1), .unset] [(.ref b3_13_1), (.int (1 : Int32)), (.ref b3)])) rfl (by rw [hml]; rfl) (argsL := [(.ref b3), (.int (1 : Int32)), (.ref b3_13_1)]) (rest := []) (lenOf own_pd10 rfl) rfl (by show 2 * 0 + _ ≤ _; exact Nat.le_of_eq rfl) (hb hby at_213) (fun _ _ => ⟨rfl, e14, (by decide : 15 + 0 ≤ _), (by decide : 39 + 0 ≤ _)⟩)
  dsimp only [Pt.U, Pt.locs, Pt.cells, Pt.slots] at X17 l17 y17 z17 st17 hQ17
  subst y17 z17
  obtain ⟨rfl, Nq17, e17⟩ := hQ17
  have N17 : Fr n0 L17 := by rw [l17]; exact Fr.app N14 Nq17
  obtain ⟨cl18, Ar18, -, Sz18, Ng18, -, -⟩ := id Vh16
  obtain ⟨fs, hr, hrun, hended, hW, hsame⟩ := X17.leave (v := some (.int (1 : Int32))) (fun h => by rw [Bd.returns] at h; cases h)
  refine ⟨_, _, pre0 _ ?_, hrun, hended, _, _, rfl, ?_, ⟨_, rfl⟩, hW, hsame.mono (by decide) (by decide)⟩
  · show Steps p.tables e below (s₁.setTop (mkF m 0 #[.val (.int p1), .val (.int p2), .val (.int p3), .val (.int p4), .val (.int p5), .val (.int p6), .unset, .unset, .unset, .unset, .unset, .unset, .unset, .unset, .unset, .unset] [])) _
    refine st1 _ ?_
    show Steps p.tables e below (T1.setTop (mkF m 64 #[.val (.int p1), .val (.int p2), .val (.int p3), .val (.int p4), .val (.int p5), .val (.int p6), .val (.int (own_n p1)), .val (.int (own_i p2 (own_n p1))), .val (.ref b13_1_1), .val (.ref b13_4_1), .val (.ref b13_7_1), .val (.ref b13_10_1), .val (.ref b3_13_1), .unset, .unset, .unset] [])) _
    refine XS.iload X1.here hx rfl (hb hby at_64) rfl ?_
    show Steps p.tables e below (T1.setTop (mkF m 66 #[.val (.int p1), .val (.int p2), .val (.int p3), .val (.int p4), .val (.int p5), .val (.int p6), .val (.int (own_n p1)), .val (.int (own_i p2 (own_n p1))), .val (.ref b13_1_1), .val (.ref b13_4_1), .val (.ref b13_7_1), .val (.ref b13_10_1), .val (.ref b3_13_1), .unset, .unset, .unset] [(.int (own_n p1))])) _
    rw [hn]
    show Steps p.tables e below (T1.setTop (mkF m 66 #[.val (.int p1), .val (.int p2), .val (.int p3), .val (.int p4), .val (.int p5), .val (.int p6), .val (.int (2 : Int32)), .val (.int (own_i p2 (2 : Int32))), .val (.ref b13_1_1), .val (.ref b13_4_1), .val (.ref b13_7_1), .val (.ref b13_10_1), .val (.ref b3_13_1), .unset, .unset, .unset] [(.int (2 : Int32))])) _
    refine XS.iconst X1.here hx rfl (hb hby at_66) ?_
    show Steps p.tables e below (T1.setTop (mkF m 67 #[.val (.int p1), .val (.int p2), .val (.int p3), .val (.int p4), .val (.int p5), .val (.int p6), .val (.int (2 : Int32)), .val (.int (own_i p2 (2 : Int32))), .val (.ref b13_1_1), .val (.ref b13_4_1), .val (.ref b13_7_1), .val (.ref b13_10_1), .val (.ref b3_13_1), .unset, .unset, .unset] [(.int (1 : Int32)), (.int (2 : Int32))])) _
    refine XS.icmpYes X1.here hx rfl (pc0 := 67) (pc' := 84) rfl (hb hby at_67) rfl (feq (by decide : ¬ ((2 : Int32) = (1 : Int32)))).2 (by decide) (by decide) ?_
    show Steps p.tables e below (T1.setTop (mkF m 84 #[.val (.int p1), .val (.int p2), .val (.int p3), .val (.int p4), .val (.int p5), .val (.int p6), .val (.int (2 : Int32)), .val (.int (own_i p2 (2 : Int32))), .val (.ref b13_1_1), .val (.ref b13_4_1), .val (.ref b13_7_1), .val (.ref b13_10_1), .val (.ref b3_13_1), .unset, .unset, .unset] [])) _
    refine XS.iload X1.here hx rfl (hb hby at_84) rfl ?_
    show Steps p.tables e below (T1.setTop (mkF m 86 #[.val (.int p1), .val (.int p2), .val (.int p3), .val (.int p4), .val (.int p5), .val (.int p6), .val (.int (2 : Int32)), .val (.int (own_i p2 (2 : Int32))), .val (.ref b13_1_1), .val (.ref b13_4_1), .val (.ref b13_7_1), .val (.ref b13_10_1), .val (.ref b3_13_1), .unset, .unset, .unset] [(.int (2 : Int32))])) _
    refine XS.iconst X1.here hx rfl (hb hby at_86) ?_
    show Steps p.tables e below (T1.setTop (mkF m 87 #[.val (.int p1), .val (.int p2), .val (.int p3), .val (.int p4), .val (.int p5), .val (.int p6), .val (.int (2 : Int32)), .val (.int (own_i p2 (2 : Int32))), .val (.ref b13_1_1), .val (.ref b13_4_1), .val (.ref b13_7_1), .val (.ref b13_10_1), .val (.ref b3_13_1), .unset, .unset, .unset] [(.int (2 : Int32)), (.int (2 : Int32))])) _
    refine XS.icmpNo X1.here hx rfl (hb hby at_87) rfl (teq (rfl : (2 : Int32) = (2 : Int32))).2 ?_
    show Steps p.tables e below (T1.setTop (mkF m 90 #[.val (.int p1), .val (.int p2), .val (.int p3), .val (.int p4), .val (.int p5), .val (.int p6), .val (.int (2 : Int32)), .val (.int (own_i p2 (2 : Int32))), .val (.ref b13_1_1), .val (.ref b13_4_1), .val (.ref b13_7_1), .val (.ref b13_10_1), .val (.ref b3_13_1), .unset, .unset, .unset] [])) _
    refine XS.iconst X1.here hx rfl (hb hby at_90) ?_
    show Steps p.tables e below (T1.setTop (mkF m 91 #[.val (.int p1), .val (.int p2), .val (.int p3), .val (.int p4), .val (.int p5), .val (.int p6), .val (.int (2 : Int32)), .val (.int (own_i p2 (2 : Int32))), .val (.ref b13_1_1), .val (.ref b13_4_1), .val (.ref b13_7_1), .val (.ref b13_10_1), .val (.ref b3_13_1), .unset, .unset, .unset] [(.int (2 : Int32))])) _
    refine st3 _ ?_
    show Steps p.tables e below (T3.setTop (mkF m 94 #[.val (.int p1), .val (.int p2), .val (.int p3), .val (.int p4), .val (.int p5), .val (.int p6), .val (.int (2 : Int32)), .val (.int (own_i p2 (2 : Int32))), .val (.ref b13_1_1), .val (.ref b13_4_1), .val (.ref b13_7_1), .val (.ref b13_10_1), .val (.ref b3_13_1), .unset, .unset, .unset] [(.ref b3)])) _
    refine XS.dup X3.here hx rfl (hb hby at_94) rfl rfl ?_
    show Steps p.tables e below (T3.setTop (mkF m 95 #[.val (.int p1), .val (.int p2), .val (.int p3), .val (.int p4), .val (.int p5), .val (.int p6), .val (.int (2 : Int32)), .val (.int (own_i p2 (2 : Int32))), .val (.ref b13_1_1), .val (.ref b13_4_1), .val (.ref b13_7_1), .val (.ref b13_10_1), .val (.ref b3_13_1), .unset, .unset, .unset] [(.ref b3), (.ref b3)])) _
    refine XS.iconst X3.here hx rfl (hb hby at_95) ?_
    show Steps p.tables e below (T3.setTop (mkF m 96 #[.val (.int p1), .val (.int p2), .val (.int p3), .val (.int p4), .val (.int p5), .val (.int p6), .val (.int (2 : Int32)), .val (.int (own_i p2 (2 : Int32))), .val (.ref b13_1_1), .val (.ref b13_4_1), .val (.ref b13_7_1), .val (.ref b13_10_1), .val (.ref b3_13_1), .unset, .unset, .unset] [(.int (0 : Int32)), (.ref b3), (.ref b3)])) _
    refine XS.aload X3.here hx rfl (hb hby at_96) rfl rfl ?_
    show Steps p.tables e below (T3.setTop (mkF m 98 #[.val (.int p1), .val (.int p2), .val (.int p3), .val (.int p4), .val (.int p5), .val (.int p6), .val (.int (2 : Int32)), .val (.int (own_i p2 (2 : Int32))), .val (.ref b13_1_1), .val (.ref b13_4_1), .val (.ref b13_7_1), .val (.ref b13_10_1), .val (.ref b3_13_1), .unset, .unset, .unset] [(.ref b13_1_1), (.int (0 : Int32)), (.ref b3), (.ref b3)])) _
    refine st8 _ ?_
    show Steps p.tables e below (T8.setTop (mkF m 99 #[.val (.int p1), .val (.int p2), .val (.int p3), .val (.int p4), .val (.int p5), .val (.int p6), .val (.int (2 : Int32)), .val (.int (own_i p2 (2 : Int32))), .val (.ref b13_1_1), .val (.ref b13_4_1), .val (.ref b13_7_1), .val (.ref b13_10_1), .val (.ref b3_13_1), .unset, .unset, .unset] [(.ref b3)])) _
    refine XS.dup X8.here hx rfl (hb hby at_99) rfl rfl ?_
    show Steps p.tables e below (T8.setTop (mkF m 100 #[.val (.int p1), .val (.int p2), .val (.int p3), .val (.int p4), .val (.int p5), .val (.int p6), .val (.int (2 : Int32)), .val (.int (own_i p2 (2 : Int32))), .val (.ref b13_1_1), .val (.ref b13_4_1), .val (.ref b13_7_1), .val (.ref b13_10_1), .val (.ref b3_13_1), .unset, .unset, .unset] [(.ref b3), (.ref b3)])) _
    refine XS.iconst X8.here hx rfl (hb hby at_100) ?_
    show Steps p.tables e below (T8.setTop (mkF m 101 #[.val (.int p1), .val (.int p2), .val (.int p3), .val (.int p4), .val (.int p5), .val (.int p6), .val (.int (2 : Int32)), .val (.int (own_i p2 (2 : Int32))), .val (.ref b13_1_1), .val (.ref b13_4_1), .val (.ref b13_7_1), .val (.ref b13_10_1), .val (.ref b3_13_1), .unset, .unset, .unset] [(.int (1 : Int32)), (.ref b3), (.ref b3)])) _
    refine XS.aload X8.here hx rfl (hb hby at_101) rfl rfl ?_
    show Steps p.tables e below (T8.setTop (mkF m 103 #[.val (.int p1), .val (.int p2), .val (.int p3), .val (.int p4), .val (.int p5), .val (.int p6), .val (.int (2 : Int32)), .val (.int (own_i p2 (2 : Int32))), .val (.ref b13_1_1), .val (.ref b13_4_1), .val (.ref b13_7_1), .val (.ref b13_10_1), .val (.ref b3_13_1), .unset, .unset, .unset] [(.ref b13_4_1), (.int (1 : Int32)), (.ref b3), (.ref b3)])) _
    refine st14 _ ?_
    show Steps p.tables e below (T14.setTop (mkF m 104 #[.val (.int p1), .val (.int p2), .val (.int p3), .val (.int p4), .val (.int p5), .val (.int p6), .val (.int (2 : Int32)), .val (.int (own_i p2 (2 : Int32))), .val (.ref b13_1_1), .val (.ref b13_4_1), .val (.ref b13_7_1), .val (.ref b13_10_1), .val (.ref b3_13_1), .unset, .unset, .unset] [(.ref b3)])) _
    refine XS.astore X14.here hx rfl (hb hby at_104) rfl rfl (l' := #[.val (.int p1), .val (.int p2), .val (.int p3), .val (.int p4), .val (.int p5), .val (.int p6), .val (.int (2 : Int32)), .val (.int (own_i p2 (2 : Int32))), .val (.ref b13_1_1), .val (.ref b13_4_1), .val (.ref b13_7_1), .val (.ref b13_10_1), .val (.ref b3_13_1), .val (.ref b3), .unset, .unset]) rfl ?_
    show Steps p.tables e below (T14.setTop (mkF m 106 #[.val (.int p1), .val (.int p2), .val (.int p3), .val (.int p4), .val (.int p5), .val (.int p6), .val (.int (2 : Int32)), .val (.int (own_i p2 (2 : Int32))), .val (.ref b13_1_1), .val (.ref b13_4_1), .val (.ref b13_7_1), .val (.ref b13_10_1), .val (.ref b3_13_1), .val (.ref b3), .unset, .unset] [])) _
    refine XS.goto X14.here hx rfl (pc0 := 106) (pc' := 165) rfl (hb hby at_106) (by decide) (by decide) ?_
    show Steps p.tables e below (T14.setTop (mkF m 165 #[.val (.int p1), .val (.int p2), .val (.int p3), .val (.int p4), .val (.int p5), .val (.int p6), .val (.int (2 : Int32)), .val (.int (own_i p2 (2 : Int32))), .val (.ref b13_1_1), .val (.ref b13_4_1), .val (.ref b13_7_1), .val (.ref b13_10_1), .val (.ref b3_13_1), .val (.ref b3), .unset, .unset] [])) _
    refine XS.iload X14.here hx rfl (hb hby at_165) rfl ?_
    show Steps p.tables e below (T14.setTop (mkF m 167 #[.val (.int p1), .val (.int p2), .val (.int p3), .val (.int p4), .val (.int p5), .val (.int p6), .val (.int (2 : Int32)), .val (.int (own_i p2 (2 : Int32))), .val (.ref b13_1_1), .val (.ref b13_4_1), .val (.ref b13_7_1), .val (.ref b13_10_1), .val (.ref b3_13_1), .val (.ref b3), .unset, .unset] [(.int (own_i p2 (2 : Int32)))])) _
    rw [hi]
    show Steps p.tables e below (T14.setTop (mkF m 167 #[.val (.int p1), .val (.int p2), .val (.int p3), .val (.int p4), .val (.int p5), .val (.int p6), .val (.int (2 : Int32)), .val (.int (1 : Int32)), .val (.ref b13_1_1), .val (.ref b13_4_1), .val (.ref b13_7_1), .val (.ref b13_10_1), .val (.ref b3_13_1), .val (.ref b3), .unset, .unset] [(.int (1 : Int32))])) _
    refine XS.ifYes X14.here hx rfl (pc0 := 167) (pc' := 177) rfl (hb hby at_167) rfl ((if0 _ _).trans (feq (by decide : ¬ ((1 : Int32) = (0 : Int32)))).2) (by decide) (by decide) ?_
    show Steps p.tables e below (T14.setTop (mkF m 177 #[.val (.int p1), .val (.int p2), .val (.int p3), .val (.int p4), .val (.int p5), .val (.int p6), .val (.int (2 : Int32)), .val (.int (1 : Int32)), .val (.ref b13_1_1), .val (.ref b13_4_1), .val (.ref b13_7_1), .val (.ref b13_10_1), .val (.ref b3_13_1), .val (.ref b3), .unset, .unset] [])) _
    refine XS.iload X14.here hx rfl (hb hby at_177) rfl ?_
    show Steps p.tables e below (T14.setTop (mkF m 179 #[.val (.int p1), .val (.int p2), .val (.int p3), .val (.int p4), .val (.int p5), .val (.int p6), .val (.int (2 : Int32)), .val (.int (1 : Int32)), .val (.ref b13_1_1), .val (.ref b13_4_1), .val (.ref b13_7_1), .val (.ref b13_10_1), .val (.ref b3_13_1), .val (.ref b3), .unset, .unset] [(.int (1 : Int32))])) _
    refine XS.iconst X14.here hx rfl (hb hby at_179) ?_
    show Steps p.tables e below (T14.setTop (mkF m 180 #[.val (.int p1), .val (.int p2), .val (.int p3), .val (.int p4), .val (.int p5), .val (.int p6), .val (.int (2 : Int32)), .val (.int (1 : Int32)), .val (.ref b13_1_1), .val (.ref b13_4_1), .val (.ref b13_7_1), .val (.ref b13_10_1), .val (.ref b3_13_1), .val (.ref b3), .unset, .unset] [(.int (1 : Int32)), (.int (1 : Int32))])) _
    refine XS.icmpNo X14.here hx rfl (hb hby at_180) rfl (teq (rfl : (1 : Int32) = (1 : Int32))).2 ?_
    show Steps p.tables e below (T14.setTop (mkF m 183 #[.val (.int p1), .val (.int p2), .val (.int p3), .val (.int p4), .val (.int p5), .val (.int p6), .val (.int (2 : Int32)), .val (.int (1 : Int32)), .val (.ref b13_1_1), .val (.ref b13_4_1), .val (.ref b13_7_1), .val (.ref b13_10_1), .val (.ref b3_13_1), .val (.ref b3), .unset, .unset] [])) _
    refine XS.aload X14.here hx rfl (hb hby at_183) rfl rfl ?_
    show Steps p.tables e below (T14.setTop (mkF m 185 #[.val (.int p1), .val (.int p2), .val (.int p3), .val (.int p4), .val (.int p5), .val (.int p6), .val (.int (2 : Int32)), .val (.int (1 : Int32)), .val (.ref b13_1_1), .val (.ref b13_4_1), .val (.ref b13_7_1), .val (.ref b13_10_1), .val (.ref b3_13_1), .val (.ref b3), .unset, .unset] [(.ref b13_4_1)])) _
    refine XS.astore X14.here hx rfl (hb hby at_185) rfl rfl (l' := #[.val (.int p1), .val (.int p2), .val (.int p3), .val (.int p4), .val (.int p5), .val (.int p6), .val (.int (2 : Int32)), .val (.int (1 : Int32)), .val (.ref b13_1_1), .val (.ref b13_4_1), .val (.ref b13_7_1), .val (.ref b13_10_1), .val (.ref b3_13_1), .val (.ref b3), .val (.ref b13_4_1), .unset]) rfl ?_
    show Steps p.tables e below (T14.setTop (mkF m 187 #[.val (.int p1), .val (.int p2), .val (.int p3), .val (.int p4), .val (.int p5), .val (.int p6), .val (.int (2 : Int32)), .val (.int (1 : Int32)), .val (.ref b13_1_1), .val (.ref b13_4_1), .val (.ref b13_7_1), .val (.ref b13_10_1), .val (.ref b3_13_1), .val (.ref b3), .val (.ref b13_4_1), .unset] [])) _
    refine XS.goto X14.here hx rfl (pc0 := 187) (pc' := 207) rfl (hb hby at_187) (by decide) (by decide) ?_
    show Steps p.tables e below (T14.setTop (mkF m 207 #[.val (.int p1), .val (.int p2), .val (.int p3), .val (.int p4), .val (.int p5), .val (.int p6), .val (.int (2 : Int32)), .val (.int (1 : Int32)), .val (.ref b13_1_1), .val (.ref b13_4_1), .val (.ref b13_7_1), .val (.ref b13_10_1), .val (.ref b3_13_1), .val (.ref b3), .val (.ref b13_4_1), .unset] [])) _
    refine XS.aload X14.here hx rfl (hb hby at_207) rfl rfl ?_
    show Steps p.tables e below (T14.setTop (mkF m 209 #[.val (.int p1), .val (.int p2), .val (.int p3), .val (.int p4), .val (.int p5), .val (.int p6), .val (.int (2 : Int32)), .val (.int (1 : Int32)), .val (.ref b13_1_1), .val (.ref b13_4_1), .val (.ref b13_7_1), .val (.ref b13_10_1), .val (.ref b3_13_1), .val (.ref b3), .val (.ref b13_4_1), .unset] [(.ref b3)])) _
    refine XS.iload X14.here hx rfl (hb hby at_209) rfl ?_
    show Steps p.tables e below (T14.setTop (mkF m 211 #[.val (.int p1), .val (.int p2), .val (.int p3), .val (.int p4), .val (.int p5), .val (.int p6), .val (.int (2 : Int32)), .val (.int (1 : Int32)), .val (.ref b13_1_1), .val (.ref b13_4_1), .val (.ref b13_7_1), .val (.ref b13_10_1), .val (.ref b3_13_1), .val (.ref b3), .val (.ref b13_4_1), .unset] [(.int (1 : Int32)), (.ref b3)])) _
    refine XS.aload X14.here hx rfl (hb hby at_211) rfl rfl ?_
    show Steps p.tables e below (T14.setTop (mkF m 213 #[.val (.int p1), .val (.int p2), .val (.int p3), .val (.int p4), .val (.int p5), .val (.int p6), .val (.int (2 : Int32)), .val (.int (1 : Int32)), .val (.ref b13_1_1), .val (.ref b13_4_1), .val (.ref b13_7_1), .val (.ref b13_10_1), .val (.ref b3_13_1), .val (.ref b3), .val (.ref b13_4_1), .unset] [(.ref b3_13_1), (.int (1 : Int32)), (.ref b3)])) _
    refine st17 _ ?_
    show Steps p.tables e below (T17.setTop (mkF m 216 #[.val (.int p1), .val (.int p2), .val (.int p3), .val (.int p4), .val (.int p5), .val (.int p6), .val (.int (2 : Int32)), .val (.int (1 : Int32)), .val (.ref b13_1_1), .val (.ref b13_4_1), .val (.ref b13_7_1), .val (.ref b13_10_1), .val (.ref b3_13_1), .val (.ref b3), .val (.ref b13_4_1), .unset] [(.ref b13_4_1)])) _
    refine XS.astore X17.here hx rfl (hb hby at_216) rfl rfl (l' := #[.val (.int p1), .val (.int p2), .val (.int p3), .val (.int p4), .val (.int p5), .val (.int p6), .val (.int (2 : Int32)), .val (.int (1 : Int32)), .val (.ref b13_1_1), .val (.ref b13_4_1), .val (.ref b13_7_1), .val (.ref b13_10_1), .val (.ref b3_13_1), .val (.ref b3), .val (.ref b13_4_1), .val (.ref b13_4_1)]) rfl ?_
    show Steps p.tables e below (T17.setTop (mkF m 218 #[.val (.int p1), .val (.int p2), .val (.int p3), .val (.int p4), .val (.int p5), .val (.int p6), .val (.int (2 : Int32)), .val (.int (1 : Int32)), .val (.ref b13_1_1), .val (.ref b13_4_1), .val (.ref b13_7_1), .val (.ref b13_10_1), .val (.ref b3_13_1), .val (.ref b3), .val (.ref b13_4_1), .val (.ref b13_4_1)] [])) _
    refine XS.aload X17.here hx rfl (hb hby at_218) rfl rfl ?_
    show Steps p.tables e below (T17.setTop (mkF m 220 #[.val (.int p1), .val (.int p2), .val (.int p3), .val (.int p4), .val (.int p5), .val (.int p6), .val (.int (2 : Int32)), .val (.int (1 : Int32)), .val (.ref b13_1_1), .val (.ref b13_4_1), .val (.ref b13_7_1), .val (.ref b13_10_1), .val (.ref b3_13_1), .val (.ref b3), .val (.ref b13_4_1), .val (.ref b13_4_1)] [(.ref b13_4_1)])) _
    refine XS.aload X17.here hx rfl (hb hby at_220) rfl rfl ?_
    show Steps p.tables e below (T17.setTop (mkF m 222 #[.val (.int p1), .val (.int p2), .val (.int p3), .val (.int p4), .val (.int p5), .val (.int p6), .val (.int (2 : Int32)), .val (.int (1 : Int32)), .val (.ref b13_1_1), .val (.ref b13_4_1), .val (.ref b13_7_1), .val (.ref b13_10_1), .val (.ref b3_13_1), .val (.ref b3), .val (.ref b13_4_1), .val (.ref b13_4_1)] [(.ref b13_4_1), (.ref b13_4_1)])) _
    refine Jvm.RoadKit.acmp (g := (mkF m 222 #[.val (.int p1), .val (.int p2), .val (.int p3), .val (.int p4), .val (.int p5), .val (.int p6), .val (.int (2 : Int32)), .val (.int (1 : Int32)), .val (.ref b13_1_1), .val (.ref b13_4_1), .val (.ref b13_7_1), .val (.ref b13_10_1), .val (.ref b3_13_1), .val (.ref b3), .val (.ref b13_4_1), .val (.ref b13_4_1)] [(.ref b13_4_1), (.ref b13_4_1)])) X17 hx rfl rfl rfl (pc0 := 222) (pc' := 225) (same := true) rfl (hb hby at_222) rfl (decide_eq_true rfl) (by decide) (by decide) ?_
    show Steps p.tables e below (T17.setTop (mkF m 225 #[.val (.int p1), .val (.int p2), .val (.int p3), .val (.int p4), .val (.int p5), .val (.int p6), .val (.int (2 : Int32)), .val (.int (1 : Int32)), .val (.ref b13_1_1), .val (.ref b13_4_1), .val (.ref b13_7_1), .val (.ref b13_10_1), .val (.ref b3_13_1), .val (.ref b3), .val (.ref b13_4_1), .val (.ref b13_4_1)] [])) _
    refine XS.aload X17.here hx rfl (hb hby at_225) rfl rfl ?_
    show Steps p.tables e below (T17.setTop (mkF m 227 #[.val (.int p1), .val (.int p2), .val (.int p3), .val (.int p4), .val (.int p5), .val (.int p6), .val (.int (2 : Int32)), .val (.int (1 : Int32)), .val (.ref b13_1_1), .val (.ref b13_4_1), .val (.ref b13_7_1), .val (.ref b13_10_1), .val (.ref b3_13_1), .val (.ref b3), .val (.ref b13_4_1), .val (.ref b13_4_1)] [(.ref b3)])) _
    refine X17.arraylength hx (by rw [e17]; exact Ar18.1) (State.isArrayOf_alike hZ.alike Ar18.2.1) (g := (mkF m 227 #[.val (.int p1), .val (.int p2), .val (.int p3), .val (.int p4), .val (.int p5), .val (.int p6), .val (.int (2 : Int32)), .val (.int (1 : Int32)), .val (.ref b13_1_1), .val (.ref b13_4_1), .val (.ref b13_7_1), .val (.ref b13_10_1), .val (.ref b3_13_1), .val (.ref b3), .val (.ref b13_4_1), .val (.ref b13_4_1)] [(.ref b3)])) rfl rfl (hb hby at_227) _ ?_
    rw [len_of Sz18 Ng18]
    show Steps p.tables e below (T17.setTop (mkF m 228 #[.val (.int p1), .val (.int p2), .val (.int p3), .val (.int p4), .val (.int p5), .val (.int p6), .val (.int (2 : Int32)), .val (.int (1 : Int32)), .val (.ref b13_1_1), .val (.ref b13_4_1), .val (.ref b13_7_1), .val (.ref b13_10_1), .val (.ref b3_13_1), .val (.ref b3), .val (.ref b13_4_1), .val (.ref b13_4_1)] [(.int (2 : Int32))])) _
    refine XS.iload X17.here hx rfl (hb hby at_228) rfl ?_
    show Steps p.tables e below (T17.setTop (mkF m 230 #[.val (.int p1), .val (.int p2), .val (.int p3), .val (.int p4), .val (.int p5), .val (.int p6), .val (.int (2 : Int32)), .val (.int (1 : Int32)), .val (.ref b13_1_1), .val (.ref b13_4_1), .val (.ref b13_7_1), .val (.ref b13_10_1), .val (.ref b3_13_1), .val (.ref b3), .val (.ref b13_4_1), .val (.ref b13_4_1)] [(.int (2 : Int32)), (.int (2 : Int32))])) _
    refine XS.icmpNo X17.here hx rfl (hb hby at_230) rfl (teq (rfl : (2 : Int32) = (2 : Int32))).2 ?_
    show Steps p.tables e below (T17.setTop (mkF m 233 #[.val (.int p1), .val (.int p2), .val (.int p3), .val (.int p4), .val (.int p5), .val (.int p6), .val (.int (2 : Int32)), .val (.int (1 : Int32)), .val (.ref b13_1_1), .val (.ref b13_4_1), .val (.ref b13_7_1), .val (.ref b13_10_1), .val (.ref b3_13_1), .val (.ref b3), .val (.ref b13_4_1), .val (.ref b13_4_1)] [])) _
    refine XS.iconst X17.here hx rfl (hb hby at_233) ?_
    show Steps p.tables e below (T17.setTop (mkF m 234 #[.val (.int p1), .val (.int p2), .val (.int p3), .val (.int p4), .val (.int p5), .val (.int p6), .val (.int (2 : Int32)), .val (.int (1 : Int32)), .val (.ref b13_1_1), .val (.ref b13_4_1), .val (.ref b13_7_1), .val (.ref b13_10_1), .val (.ref b3_13_1), .val (.ref b3), .val (.ref b13_4_1), .val (.ref b13_4_1)] [(.int (1 : Int32))])) _
    refine XS.goto X17.here hx rfl (pc0 := 234) (pc' := 238) rfl (hb hby at_234) (by decide) (by decide) ?_
    show Steps p.tables e below (T17.setTop (mkF m 238 #[.val (.int p1), .val (.int p2), .val (.int p3), .val (.int p4), .val (.int p5), .val (.int p6), .val (.int (2 : Int32)), .val (.int (1 : Int32)), .val (.ref b13_1_1), .val (.ref b13_4_1), .val (.ref b13_7_1), .val (.ref b13_10_1), .val (.ref b3_13_1), .val (.ref b3), .val (.ref b13_4_1), .val (.ref b13_4_1)] [(.int (1 : Int32))])) _
    exact retN X17 hx (t := .boolean) Bd.returns (by simp) (hb hby at_238) hr
  · show own_Qlaw h0 n0 _ T17.heap _
    exact ⟨rfl, N17⟩
theorem own_eflaw30 (m : MethodId) (p1 : Int32) (p2 : Int32) (p3 : Int32) (p4 : Int32) (p5 : Int32) (p6 : Int32) : entryFrame m #[(.int p1), (.int p2), (.int p3), (.int p4), (.int p5), (.int p6)] maxLocals = mkF m 0 #[.val (.int p1), .val (.int p2), .val (.int p3), .val (.int p4), .val (.int p5), .val (.int p6), .unset, .unset, .unset, .unset, .unset, .unset, .unset, .unset, .unset, .unset] [] := by first | (simp [entryFrame, mkF, argsToLocals, Value.category, maxLocals]; done) | rfl
set_option maxRecDepth 65536 in
set_option maxHeartbeats 40000000 in
theorem own_law30 (l : Launch) (Z : State) (a0 : Array Value) (hw : ∀ d ∈ tables_1, d.before a0 Z = true) (ws : List Jvm.Cond) (G1 : Int32) (gl : own_Glob Z G1) (p1 : Int32) (p2 : Int32) (p3 : Int32) (p4 : Int32) (p5 : Int32) (p6 : Int32) (h0 : Heap) (n0 : Nat) (Z0 : n0 ≤ h0.size) (X00 : Old Z n0 h0) (hn : own_n p1 = 3) (hi : own_i p2 3 = 0) :
    MetFree l x (head1 (Jvm.Cond.code x code maxLocals ret :: ws) room_1) (fun a U => a = #[(.int p1), (.int p2), (.int p3), (.int p4), (.int p5), (.int p6)] ∧ Z.Warmed39 U.vm ∧ U.heap = h0) (fun _ _ _ _ _ => True) (fun _ U o U' => ∃ v L, o = .returned v ∧ own_Qlaw h0 n0 v U'.heap L ∧ FrameEnd U o U' L room_1.cells room_1.slots) := by
  refine MetFree.of_bodySF (plainFor_of_name own_pn6) hisR ?_
  intro p e s m args below meth c s₁ Bd hml0 hP hK
  obtain ⟨rfl, hZ, hh⟩ := hP
  obtain ⟨O_CS, P_CS⟩ := id gl
  have hx := Bd.exec
  have hby := Bd.bytes
  have hml : c.maxLocals = 16 := hml0
  have hown : s.vm.findClass "com/example/dagsverke/dagsverke/CommandLineValuePinLaw" = some m.cls := findClass_of_methodNamed Bd.named
  have hnm := (name_of_methodNamed Bd.named Bd.method).1
  have X0 : Stand p l e room_1 s m #[(.int p1), (.int p2), (.int p3), (.int p4), (.int p5), (.int p6)] below meth c s₁ [] 0 0 := Stand.of_body Bd
  have e0 : s₁.heap = h0 := by rw [← hh, Bd.state]; rfl
  have N0 := Fr.nil n0
  have pre0 : ∀ t, Steps p.tables e below (s₁.setTop (mkF m 0 #[.val (.int p1), .val (.int p2), .val (.int p3), .val (.int p4), .val (.int p5), .val (.int p6), .unset, .unset, .unset, .unset, .unset, .unset, .unset, .unset, .unset, .unset] [])) t → Steps p.tables e below (s₁.setTop (entryFrame m #[(.int p1), (.int p2), (.int p3), (.int p4), (.int p5), (.int p6)] maxLocals)) t := fun t k => castTop (own_eflaw30 m p1 p2 p3 p4 p5 p6) k
  obtain ⟨b13_1_1, b13_4_1, b13_7_1, b13_10_1, b3_13_1, t25_1_1, kb25_1_1, t25_4_1, kb25_4_1, t25_7_1, kb25_7_1, t25_10_1, kb25_10_1, b1_5_13_1, k1_5_13_1, T1, h1, L1, X1, e1, N1, Kq1, f1_0, f1_1, f1_2, f1_3, f1_4, f1_5, f1_6, f1_7, f1_8, f1_9, f1_10, f1_11, f1_12, f1_13, f1_14, f1_15, f1_16, f1_17, f1_18, f1_19, f1_20, f1_21, f1_22, f1_23, f1_24, f1_25, f1_26, f1_27, f1_28, f1_29, f1_30, f1_31, f1_32, f1_33, st1⟩ := own_seg hw G1 gl p1 p2 p3 p4 p5 p6 Z0 X00  X0 hx hZ hby hml hown e0
  have Kp2 : Keep h0 h1 [] := (Keep.refl h0 []).trans Kq1 all0
  obtain ⟨T3, h3, k3, X3, e3, E3, A3, O3, st3⟩ := newR X1 hx hZ hown (hw _ (List.mem_of_getElem? (i := 6) rfl)) (hw _ (List.mem_of_getElem? (i := 49) rfl)) e1 (g := (mkF m 116 #[.val (.int p1), .val (.int p2), .val (.int p3), .val (.int p4), .val (.int p5), .val (.int p6), .val (.int (3 : Int32)), .val (.int (own_i p2 (3 : Int32))), .val (.ref b13_1_1), .val (.ref b13_4_1), .val (.ref b13_7_1), .val (.ref b13_10_1), .val (.ref b3_13_1), .unset, .unset, .unset] [(.int (3 : Int32))])) rfl (hb hby at_116) rfl (by decide) (cap := 3) (by decide) (by decide) (by decide) (by decide)
  obtain ⟨b3, g3⟩ : ∃ z, z = h1.size := ⟨_, rfl⟩
  rw [← g3] at A3 st3
  have Kp4 : Keep h0 h3 [] := Kp2.ext E3
  have Vh5 : Arv Z h3 b3 k3 (.object "java/lang/String") (3 : Int32) [.null, .null, .null] .null := (Arv.new A3 (by decide)).pad (pad_rep [] .null 3)
  obtain ⟨cl6, Ar6, qc6, Sz6, Ng6, Hs6, Gs6⟩ := id Vh5
  have hin6 : ¬ ((0 : Int32) < 0 ∨ cl6.slots.size ≤ ((0 : Int32)).toNatClampNeg) := inb_of Sz6 ⟨(by decide), (by decide)⟩
  have Eh7 : Exa Z h3 b13_1_1 "java/lang/String" := (f1_1.ext E3)
  obtain ⟨T8, h8, X8, e8, W8, st8⟩ := stR X3 hx hZ e3 Ar6 (j := (0 : Int32)) hin6 rfl (Sto.ofV Ar6 qc6 O3 (Ins.self Eh7)) (g := (mkF m 123 #[.val (.int p1), .val (.int p2), .val (.int p3), .val (.int p4), .val (.int p5), .val (.int p6), .val (.int (3 : Int32)), .val (.int (own_i p2 (3 : Int32))), .val (.ref b13_1_1), .val (.ref b13_4_1), .val (.ref b13_7_1), .val (.ref b13_10_1), .val (.ref b3_13_1), .unset, .unset, .unset] [(.ref b13_1_1), (.int (0 : Int32)), (.ref b3), (.ref b3)])) rfl rfl (hb hby at_123)
  have Kp9 : Keep h0 h8 [] := Kp4.wr W8 (Or.inr (Nat.le_trans Kp2.1 (Nat.le_of_eq g3.symm)))
  have gh10 : n0 ≤ b3 := Nat.le_trans (Nat.le_trans Z0 Kp2.1) (Nat.le_of_eq g3.symm)
  obtain ⟨Lp8, X8, N8⟩ := own_pack X8 (Fr.snoc X8 N1 gh10)
  have Vh11 : Arv Z h8 b3 k3 (.object "java/lang/String") (3 : Int32) [(.ref b13_1_1), .null, .null] .null := (Arv.set Ar6 qc6 Sz6 Ng6 Hs6 Gs6 rfl W8 0 rfl (Nat.le_of_ble_eq_true rfl))
  obtain ⟨cl12, Ar12, qc12, Sz12, Ng12, Hs12, Gs12⟩ := id Vh11
  have hin12 : ¬ ((1 : Int32) < 0 ∨ cl12.slots.size ≤ ((1 : Int32)).toNatClampNeg) := inb_of Sz12 ⟨(by decide), (by decide)⟩
  have Eh13 : Exa Z h8 b13_4_1 "java/lang/String" := ((f1_5.ext E3).wr W8)
  obtain ⟨T14, h14, X14, e14, W14, st14⟩ := stR X8 hx hZ e8 Ar12 (j := (1 : Int32)) hin12 rfl (Sto.ofV Ar12 qc12 O3 (Ins.self Eh13)) (g := (mkF m 128 #[.val (.int p1), .val (.int p2), .val (.int p3), .val (.int p4), .val (.int p5), .val (.int p6), .val (.int (3 : Int32)), .val (.int (own_i p2 (3 : Int32))), .val (.ref b13_1_1), .val (.ref b13_4_1), .val (.ref b13_7_1), .val (.ref b13_10_1), .val (.ref b3_13_1), .unset, .unset, .unset] [(.ref b13_4_1), (.int (1 : Int32)), (.ref b3), (.ref b3)])) rfl rfl (hb hby at_128)
  have Kp15 : Keep h0 h14 [] := Kp9.wr W14 (Or.inr (Nat.le_trans Kp2.1 (Nat.le_of_eq g3.symm)))
  obtain ⟨Lp14, X14, N14⟩ := own_pack X14 (Fr.snoc X14 N8 gh10)
  have Vh16 : Arv Z h14 b3 k3 (.object "java/lang/String") (3 : Int32) [(.ref b13_1_1), (.ref b13_4_1), .null] .null := (Arv.set Ar12 qc12 Sz12 Ng12 Hs12 Gs12 rfl W14 1 rfl (Nat.le_of_ble_eq_true rfl))
  obtain ⟨cl17, Ar17, qc17, Sz17, Ng17, Hs17, Gs17⟩ := id Vh16
  have hin17 : ¬ ((2 : Int32) < 0 ∨ cl17.slots.size ≤ ((2 : Int32)).toNatClampNeg) := inb_of Sz17 ⟨(by decide), (by decide)⟩
  have Eh18 : Exa Z h14 b13_7_1 "java/lang/String" := (((f1_9.ext E3).wr W8).wr W14)
  obtain ⟨T19, h19, X19, e19, W19, st19⟩ := stR X14 hx hZ e14 Ar17 (j := (2 : Int32)) hin17 rfl (Sto.ofV Ar17 qc17 O3 (Ins.self Eh18)) (g := (mkF m 133 #[.val (.int p1), .val (.int p2), .val (.int p3), .val (.int p4), .val (.int p5), .val (.int p6), .val (.int (3 : Int32)), .val (.int (own_i p2 (3 : Int32))), .val (.ref b13_1_1), .val (.ref b13_4_1), .val (.ref b13_7_1), .val (.ref b13_10_1), .val (.ref b3_13_1), .unset, .unset, .unset] [(.ref b13_7_1), (.int (2 : Int32)), (.ref b3), (.ref b3)])) rfl rfl (hb hby at_133)
  have Kp20 : Keep h0 h19 [] := Kp15.wr W19 (Or.inr (Nat.le_trans Kp2.1 (Nat.le_of_eq g3.symm)))
  obtain ⟨Lp19, X19, N19⟩ := own_pack X19 (Fr.snoc X19 N14 gh10)
  have Vh21 : Arv Z h19 b3 k3 (.object "java/lang/String") (3 : Int32) [(.ref b13_1_1), (.ref b13_4_1), (.ref b13_7_1)] .null := (Arv.set Ar17 qc17 Sz17 Ng17 Hs17 Gs17 rfl W19 2 rfl (Nat.le_of_ble_eq_true rfl))
  obtain ⟨_, _, ⟨T22, L22, k22, n22⟩, -, X22, ⟨Lc22, hQ22, l22, y22, z22⟩, st22⟩ := Jvm.LawKit.callS X19 hx (y := (⟨"com/example/dagsverke/dagsverke/CommandLine", "value", "([Ljava/lang/String;ILjava/lang/String;)Ljava/lang/String;"⟩ : MethodName)) hown (mvT hZ (hw _ (List.mem_of_getElem? (i := 50) rfl))) (mvT hZ (hw _ (List.mem_of_getElem? (i := 51) rfl))) (mvT hZ (hw _ (List.mem_of_getElem? (i := 52) rfl))) (mvT hZ (hw _ (List.mem_of_getElem? (i := 53) rfl))) (by decide) (backOf (W := 0) (own_rm_v30 l Z a0 hw [] G1 gl b3 b3_13_1 (k3) b13_1_1 b13_4_1 b13_7_1 h19 n0 (Nat.le_trans Z0 Kp20.1) Vh21) hZ (hw _ (List.mem_of_getElem? (i := 53) rfl)) (hw _ (List.mem_of_getElem? (i := 52) rfl)) (by decide) (by decide)) (g := (mkF m 213 #[.val (.int p1), .val (.int p2), .val (.int p3), .val (.int p4), .val (.int p5), .val (.int p6), .val (.int (3 : Int32)), .val (.int (0 : Int32)), .val (.ref b13_1_1), .val (.ref b13_4_1), .val (.ref b13_7_1), .val (.ref b13_10_1), .val (.ref b3_13_1), .val (.ref b3), .val (.ref b13_1_1), .unset] [(.ref b3_13_1), (.int (0 : Int32)), (.ref b3)])) rfl (by rw [hml]; rfl) (argsL := [(.ref b3), (.int (0 : Int32)), (.ref b3_13_1)]) (rest := []) (lenOf own_pd10 rfl) rfl (by show 2 * 0 + _ ≤ _; exact Nat.le_of_eq rfl) (hb hby at_213) (fun _ _ => ⟨rfl, e19, (by decide : 15 + 0 ≤ _), (by decide : 40 + 0 ≤ _)⟩)
  dsimp only [Pt.U, Pt.locs, Pt.cells, Pt.slots] at X22 l22 y22 z22 st22 hQ22
  subst y22 z22
  obtain ⟨rfl, Nq22, e22⟩ := hQ22
  have N22 : Fr n0 L22 := by rw [l22]; exact Fr.app N19 Nq22
  obtain ⟨cl23, Ar23, -, Sz23, Ng23, -, -⟩ := id Vh21
  obtain ⟨fs, hr, hrun, hended, hW, hsame⟩ := X22.leave (v := some (.int (1 : Int32))) (fun h => by rw [Bd.returns] at h; cases h)
  refine ⟨_, _, pre0 _ ?_, hrun, hended, _, _, rfl, ?_, ⟨_, rfl⟩, hW, hsame.mono (by decide) (by decide)⟩
  · show Steps p.tables e below (s₁.setTop (mkF m 0 #[.val (.int p1), .val (.int p2), .val (.int p3), .val (.int p4), .val (.int p5), .val (.int p6), .unset, .unset, .unset, .unset, .unset, .unset, .unset, .unset, .unset, .unset] [])) _
    refine st1 _ ?_
    show Steps p.tables e below (T1.setTop (mkF m 64 #[.val (.int p1), .val (.int p2), .val (.int p3), .val (.int p4), .val (.int p5), .val (.int p6), .val (.int (own_n p1)), .val (.int (own_i p2 (own_n p1))), .val (.ref b13_1_1), .val (.ref b13_4_1), .val (.ref b13_7_1), .val (.ref b13_10_1), .val (.ref b3_13_1), .unset, .unset, .unset] [])) _
    refine XS.iload X1.here hx rfl (hb hby at_64) rfl ?_
    show Steps p.tables e below (T1.setTop (mkF m 66 #[.val (.int p1), .val (.int p2), .val (.int p3), .val (.int p4), .val (.int p5), .val (.int p6), .val (.int (own_n p1)), .val (.int (own_i p2 (own_n p1))), .val (.ref b13_1_1), .val (.ref b13_4_1), .val (.ref b13_7_1), .val (.ref b13_10_1), .val (.ref b3_13_1), .unset, .unset, .unset] [(.int (own_n p1))])) _
    rw [hn]
    show Steps p.tables e below (T1.setTop (mkF m 66 #[.val (.int p1), .val (.int p2), .val (.int p3), .val (.int p4), .val (.int p5), .val (.int p6), .val (.int (3 : Int32)), .val (.int (own_i p2 (3 : Int32))), .val (.ref b13_1_1), .val (.ref b13_4_1), .val (.ref b13_7_1), .val (.ref b13_10_1), .val (.ref b3_13_1), .unset, .unset, .unset] [(.int (3 : Int32))])) _
    refine XS.iconst X1.here hx rfl (hb hby at_66) ?_
    show Steps p.tables e below (T1.setTop (mkF m 67 #[.val (.int p1), .val (.int p2), .val (.int p3), .val (.int p4), .val (.int p5), .val (.int p6), .val (.int (3 : Int32)), .val (.int (own_i p2 (3 : Int32))), .val (.ref b13_1_1), .val (.ref b13_4_1), .val (.ref b13_7_1), .val (.ref b13_10_1), .val (.ref b3_13_1), .unset, .unset, .unset] [(.int (1 : Int32)), (.int (3 : Int32))])) _
    refine XS.icmpYes X1.here hx rfl (pc0 := 67) (pc' := 84) rfl (hb hby at_67) rfl (feq (by decide : ¬ ((3 : Int32) = (1 : Int32)))).2 (by decide) (by decide) ?_
    show Steps p.tables e below (T1.setTop (mkF m 84 #[.val (.int p1), .val (.int p2), .val (.int p3), .val (.int p4), .val (.int p5), .val (.int p6), .val (.int (3 : Int32)), .val (.int (own_i p2 (3 : Int32))), .val (.ref b13_1_1), .val (.ref b13_4_1), .val (.ref b13_7_1), .val (.ref b13_10_1), .val (.ref b3_13_1), .unset, .unset, .unset] [])) _
    refine XS.iload X1.here hx rfl (hb hby at_84) rfl ?_
    show Steps p.tables e below (T1.setTop (mkF m 86 #[.val (.int p1), .val (.int p2), .val (.int p3), .val (.int p4), .val (.int p5), .val (.int p6), .val (.int (3 : Int32)), .val (.int (own_i p2 (3 : Int32))), .val (.ref b13_1_1), .val (.ref b13_4_1), .val (.ref b13_7_1), .val (.ref b13_10_1), .val (.ref b3_13_1), .unset, .unset, .unset] [(.int (3 : Int32))])) _
    refine XS.iconst X1.here hx rfl (hb hby at_86) ?_
    show Steps p.tables e below (T1.setTop (mkF m 87 #[.val (.int p1), .val (.int p2), .val (.int p3), .val (.int p4), .val (.int p5), .val (.int p6), .val (.int (3 : Int32)), .val (.int (own_i p2 (3 : Int32))), .val (.ref b13_1_1), .val (.ref b13_4_1), .val (.ref b13_7_1), .val (.ref b13_10_1), .val (.ref b3_13_1), .unset, .unset, .unset] [(.int (2 : Int32)), (.int (3 : Int32))])) _
    refine XS.icmpYes X1.here hx rfl (pc0 := 87) (pc' := 109) rfl (hb hby at_87) rfl (feq (by decide : ¬ ((3 : Int32) = (2 : Int32)))).2 (by decide) (by decide) ?_
    show Steps p.tables e below (T1.setTop (mkF m 109 #[.val (.int p1), .val (.int p2), .val (.int p3), .val (.int p4), .val (.int p5), .val (.int p6), .val (.int (3 : Int32)), .val (.int (own_i p2 (3 : Int32))), .val (.ref b13_1_1), .val (.ref b13_4_1), .val (.ref b13_7_1), .val (.ref b13_10_1), .val (.ref b3_13_1), .unset, .unset, .unset] [])) _
    refine XS.iload X1.here hx rfl (hb hby at_109) rfl ?_
    show Steps p.tables e below (T1.setTop (mkF m 111 #[.val (.int p1), .val (.int p2), .val (.int p3), .val (.int p4), .val (.int p5), .val (.int p6), .val (.int (3 : Int32)), .val (.int (own_i p2 (3 : Int32))), .val (.ref b13_1_1), .val (.ref b13_4_1), .val (.ref b13_7_1), .val (.ref b13_10_1), .val (.ref b3_13_1), .unset, .unset, .unset] [(.int (3 : Int32))])) _
    refine XS.iconst X1.here hx rfl (hb hby at_111) ?_
    show Steps p.tables e below (T1.setTop (mkF m 112 #[.val (.int p1), .val (.int p2), .val (.int p3), .val (.int p4), .val (.int p5), .val (.int p6), .val (.int (3 : Int32)), .val (.int (own_i p2 (3 : Int32))), .val (.ref b13_1_1), .val (.ref b13_4_1), .val (.ref b13_7_1), .val (.ref b13_10_1), .val (.ref b3_13_1), .unset, .unset, .unset] [(.int (3 : Int32)), (.int (3 : Int32))])) _
    refine XS.icmpNo X1.here hx rfl (hb hby at_112) rfl (teq (rfl : (3 : Int32) = (3 : Int32))).2 ?_
    show Steps p.tables e below (T1.setTop (mkF m 115 #[.val (.int p1), .val (.int p2), .val (.int p3), .val (.int p4), .val (.int p5), .val (.int p6), .val (.int (3 : Int32)), .val (.int (own_i p2 (3 : Int32))), .val (.ref b13_1_1), .val (.ref b13_4_1), .val (.ref b13_7_1), .val (.ref b13_10_1), .val (.ref b3_13_1), .unset, .unset, .unset] [])) _
    refine XS.iconst X1.here hx rfl (hb hby at_115) ?_
    show Steps p.tables e below (T1.setTop (mkF m 116 #[.val (.int p1), .val (.int p2), .val (.int p3), .val (.int p4), .val (.int p5), .val (.int p6), .val (.int (3 : Int32)), .val (.int (own_i p2 (3 : Int32))), .val (.ref b13_1_1), .val (.ref b13_4_1), .val (.ref b13_7_1), .val (.ref b13_10_1), .val (.ref b3_13_1), .unset, .unset, .unset] [(.int (3 : Int32))])) _
    refine st3 _ ?_
    show Steps p.tables e below (T3.setTop (mkF m 119 #[.val (.int p1), .val (.int p2), .val (.int p3), .val (.int p4), .val (.int p5), .val (.int p6), .val (.int (3 : Int32)), .val (.int (own_i p2 (3 : Int32))), .val (.ref b13_1_1), .val (.ref b13_4_1), .val (.ref b13_7_1), .val (.ref b13_10_1), .val (.ref b3_13_1), .unset, .unset, .unset] [(.ref b3)])) _
    refine XS.dup X3.here hx rfl (hb hby at_119) rfl rfl ?_
    show Steps p.tables e below (T3.setTop (mkF m 120 #[.val (.int p1), .val (.int p2), .val (.int p3), .val (.int p4), .val (.int p5), .val (.int p6), .val (.int (3 : Int32)), .val (.int (own_i p2 (3 : Int32))), .val (.ref b13_1_1), .val (.ref b13_4_1), .val (.ref b13_7_1), .val (.ref b13_10_1), .val (.ref b3_13_1), .unset, .unset, .unset] [(.ref b3), (.ref b3)])) _
    refine XS.iconst X3.here hx rfl (hb hby at_120) ?_
    show Steps p.tables e below (T3.setTop (mkF m 121 #[.val (.int p1), .val (.int p2), .val (.int p3), .val (.int p4), .val (.int p5), .val (.int p6), .val (.int (3 : Int32)), .val (.int (own_i p2 (3 : Int32))), .val (.ref b13_1_1), .val (.ref b13_4_1), .val (.ref b13_7_1), .val (.ref b13_10_1), .val (.ref b3_13_1), .unset, .unset, .unset] [(.int (0 : Int32)), (.ref b3), (.ref b3)])) _
    refine XS.aload X3.here hx rfl (hb hby at_121) rfl rfl ?_
    show Steps p.tables e below (T3.setTop (mkF m 123 #[.val (.int p1), .val (.int p2), .val (.int p3), .val (.int p4), .val (.int p5), .val (.int p6), .val (.int (3 : Int32)), .val (.int (own_i p2 (3 : Int32))), .val (.ref b13_1_1), .val (.ref b13_4_1), .val (.ref b13_7_1), .val (.ref b13_10_1), .val (.ref b3_13_1), .unset, .unset, .unset] [(.ref b13_1_1), (.int (0 : Int32)), (.ref b3), (.ref b3)])) _
    refine st8 _ ?_
    show Steps p.tables e below (T8.setTop (mkF m 124 #[.val (.int p1), .val (.int p2), .val (.int p3), .val (.int p4), .val (.int p5), .val (.int p6), .val (.int (3 : Int32)), .val (.int (own_i p2 (3 : Int32))), .val (.ref b13_1_1), .val (.ref b13_4_1), .val (.ref b13_7_1), .val (.ref b13_10_1), .val (.ref b3_13_1), .unset, .unset, .unset] [(.ref b3)])) _
    refine XS.dup X8.here hx rfl (hb hby at_124) rfl rfl ?_
    show Steps p.tables e below (T8.setTop (mkF m 125 #[.val (.int p1), .val (.int p2), .val (.int p3), .val (.int p4), .val (.int p5), .val (.int p6), .val (.int (3 : Int32)), .val (.int (own_i p2 (3 : Int32))), .val (.ref b13_1_1), .val (.ref b13_4_1), .val (.ref b13_7_1), .val (.ref b13_10_1), .val (.ref b3_13_1), .unset, .unset, .unset] [(.ref b3), (.ref b3)])) _
    refine XS.iconst X8.here hx rfl (hb hby at_125) ?_
    show Steps p.tables e below (T8.setTop (mkF m 126 #[.val (.int p1), .val (.int p2), .val (.int p3), .val (.int p4), .val (.int p5), .val (.int p6), .val (.int (3 : Int32)), .val (.int (own_i p2 (3 : Int32))), .val (.ref b13_1_1), .val (.ref b13_4_1), .val (.ref b13_7_1), .val (.ref b13_10_1), .val (.ref b3_13_1), .unset, .unset, .unset] [(.int (1 : Int32)), (.ref b3), (.ref b3)])) _
    refine XS.aload X8.here hx rfl (hb hby at_126) rfl rfl ?_
    show Steps p.tables e below (T8.setTop (mkF m 128 #[.val (.int p1), .val (.int p2), .val (.int p3), .val (.int p4), .val (.int p5), .val (.int p6), .val (.int (3 : Int32)), .val (.int (own_i p2 (3 : Int32))), .val (.ref b13_1_1), .val (.ref b13_4_1), .val (.ref b13_7_1), .val (.ref b13_10_1), .val (.ref b3_13_1), .unset, .unset, .unset] [(.ref b13_4_1), (.int (1 : Int32)), (.ref b3), (.ref b3)])) _
    refine st14 _ ?_
    show Steps p.tables e below (T14.setTop (mkF m 129 #[.val (.int p1), .val (.int p2), .val (.int p3), .val (.int p4), .val (.int p5), .val (.int p6), .val (.int (3 : Int32)), .val (.int (own_i p2 (3 : Int32))), .val (.ref b13_1_1), .val (.ref b13_4_1), .val (.ref b13_7_1), .val (.ref b13_10_1), .val (.ref b3_13_1), .unset, .unset, .unset] [(.ref b3)])) _
    refine XS.dup X14.here hx rfl (hb hby at_129) rfl rfl ?_
    show Steps p.tables e below (T14.setTop (mkF m 130 #[.val (.int p1), .val (.int p2), .val (.int p3), .val (.int p4), .val (.int p5), .val (.int p6), .val (.int (3 : Int32)), .val (.int (own_i p2 (3 : Int32))), .val (.ref b13_1_1), .val (.ref b13_4_1), .val (.ref b13_7_1), .val (.ref b13_10_1), .val (.ref b3_13_1), .unset, .unset, .unset] [(.ref b3), (.ref b3)])) _
    refine XS.iconst X14.here hx rfl (hb hby at_130) ?_
    show Steps p.tables e below (T14.setTop (mkF m 131 #[.val (.int p1), .val (.int p2), .val (.int p3), .val (.int p4), .val (.int p5), .val (.int p6), .val (.int (3 : Int32)), .val (.int (own_i p2 (3 : Int32))), .val (.ref b13_1_1), .val (.ref b13_4_1), .val (.ref b13_7_1), .val (.ref b13_10_1), .val (.ref b3_13_1), .unset, .unset, .unset] [(.int (2 : Int32)), (.ref b3), (.ref b3)])) _
    refine XS.aload X14.here hx rfl (hb hby at_131) rfl rfl ?_
    show Steps p.tables e below (T14.setTop (mkF m 133 #[.val (.int p1), .val (.int p2), .val (.int p3), .val (.int p4), .val (.int p5), .val (.int p6), .val (.int (3 : Int32)), .val (.int (own_i p2 (3 : Int32))), .val (.ref b13_1_1), .val (.ref b13_4_1), .val (.ref b13_7_1), .val (.ref b13_10_1), .val (.ref b3_13_1), .unset, .unset, .unset] [(.ref b13_7_1), (.int (2 : Int32)), (.ref b3), (.ref b3)])) _
    refine st19 _ ?_
    show Steps p.tables e below (T19.setTop (mkF m 134 #[.val (.int p1), .val (.int p2), .val (.int p3), .val (.int p4), .val (.int p5), .val (.int p6), .val (.int (3 : Int32)), .val (.int (own_i p2 (3 : Int32))), .val (.ref b13_1_1), .val (.ref b13_4_1), .val (.ref b13_7_1), .val (.ref b13_10_1), .val (.ref b3_13_1), .unset, .unset, .unset] [(.ref b3)])) _
    refine XS.astore X19.here hx rfl (hb hby at_134) rfl rfl (l' := #[.val (.int p1), .val (.int p2), .val (.int p3), .val (.int p4), .val (.int p5), .val (.int p6), .val (.int (3 : Int32)), .val (.int (own_i p2 (3 : Int32))), .val (.ref b13_1_1), .val (.ref b13_4_1), .val (.ref b13_7_1), .val (.ref b13_10_1), .val (.ref b3_13_1), .val (.ref b3), .unset, .unset]) rfl ?_
    show Steps p.tables e below (T19.setTop (mkF m 136 #[.val (.int p1), .val (.int p2), .val (.int p3), .val (.int p4), .val (.int p5), .val (.int p6), .val (.int (3 : Int32)), .val (.int (own_i p2 (3 : Int32))), .val (.ref b13_1_1), .val (.ref b13_4_1), .val (.ref b13_7_1), .val (.ref b13_10_1), .val (.ref b3_13_1), .val (.ref b3), .unset, .unset] [])) _
    refine XS.goto X19.here hx rfl (pc0 := 136) (pc' := 165) rfl (hb hby at_136) (by decide) (by decide) ?_
    show Steps p.tables e below (T19.setTop (mkF m 165 #[.val (.int p1), .val (.int p2), .val (.int p3), .val (.int p4), .val (.int p5), .val (.int p6), .val (.int (3 : Int32)), .val (.int (own_i p2 (3 : Int32))), .val (.ref b13_1_1), .val (.ref b13_4_1), .val (.ref b13_7_1), .val (.ref b13_10_1), .val (.ref b3_13_1), .val (.ref b3), .unset, .unset] [])) _
    refine XS.iload X19.here hx rfl (hb hby at_165) rfl ?_
    show Steps p.tables e below (T19.setTop (mkF m 167 #[.val (.int p1), .val (.int p2), .val (.int p3), .val (.int p4), .val (.int p5), .val (.int p6), .val (.int (3 : Int32)), .val (.int (own_i p2 (3 : Int32))), .val (.ref b13_1_1), .val (.ref b13_4_1), .val (.ref b13_7_1), .val (.ref b13_10_1), .val (.ref b3_13_1), .val (.ref b3), .unset, .unset] [(.int (own_i p2 (3 : Int32)))])) _
    rw [hi]
    show Steps p.tables e below (T19.setTop (mkF m 167 #[.val (.int p1), .val (.int p2), .val (.int p3), .val (.int p4), .val (.int p5), .val (.int p6), .val (.int (3 : Int32)), .val (.int (0 : Int32)), .val (.ref b13_1_1), .val (.ref b13_4_1), .val (.ref b13_7_1), .val (.ref b13_10_1), .val (.ref b3_13_1), .val (.ref b3), .unset, .unset] [(.int (0 : Int32))])) _
    refine XS.ifNo X19.here hx rfl (hb hby at_167) rfl ((if0 _ _).trans (teq (rfl : (0 : Int32) = (0 : Int32))).2) ?_
    show Steps p.tables e below (T19.setTop (mkF m 170 #[.val (.int p1), .val (.int p2), .val (.int p3), .val (.int p4), .val (.int p5), .val (.int p6), .val (.int (3 : Int32)), .val (.int (0 : Int32)), .val (.ref b13_1_1), .val (.ref b13_4_1), .val (.ref b13_7_1), .val (.ref b13_10_1), .val (.ref b3_13_1), .val (.ref b3), .unset, .unset] [])) _
    refine XS.aload X19.here hx rfl (hb hby at_170) rfl rfl ?_
    show Steps p.tables e below (T19.setTop (mkF m 172 #[.val (.int p1), .val (.int p2), .val (.int p3), .val (.int p4), .val (.int p5), .val (.int p6), .val (.int (3 : Int32)), .val (.int (0 : Int32)), .val (.ref b13_1_1), .val (.ref b13_4_1), .val (.ref b13_7_1), .val (.ref b13_10_1), .val (.ref b3_13_1), .val (.ref b3), .unset, .unset] [(.ref b13_1_1)])) _
    refine XS.astore X19.here hx rfl (hb hby at_172) rfl rfl (l' := #[.val (.int p1), .val (.int p2), .val (.int p3), .val (.int p4), .val (.int p5), .val (.int p6), .val (.int (3 : Int32)), .val (.int (0 : Int32)), .val (.ref b13_1_1), .val (.ref b13_4_1), .val (.ref b13_7_1), .val (.ref b13_10_1), .val (.ref b3_13_1), .val (.ref b3), .val (.ref b13_1_1), .unset]) rfl ?_
    show Steps p.tables e below (T19.setTop (mkF m 174 #[.val (.int p1), .val (.int p2), .val (.int p3), .val (.int p4), .val (.int p5), .val (.int p6), .val (.int (3 : Int32)), .val (.int (0 : Int32)), .val (.ref b13_1_1), .val (.ref b13_4_1), .val (.ref b13_7_1), .val (.ref b13_10_1), .val (.ref b3_13_1), .val (.ref b3), .val (.ref b13_1_1), .unset] [])) _
    refine XS.goto X19.here hx rfl (pc0 := 174) (pc' := 207) rfl (hb hby at_174) (by decide) (by decide) ?_
    show Steps p.tables e below (T19.setTop (mkF m 207 #[.val (.int p1), .val (.int p2), .val (.int p3), .val (.int p4), .val (.int p5), .val (.int p6), .val (.int (3 : Int32)), .val (.int (0 : Int32)), .val (.ref b13_1_1), .val (.ref b13_4_1), .val (.ref b13_7_1), .val (.ref b13_10_1), .val (.ref b3_13_1), .val (.ref b3), .val (.ref b13_1_1), .unset] [])) _
    refine XS.aload X19.here hx rfl (hb hby at_207) rfl rfl ?_
    show Steps p.tables e below (T19.setTop (mkF m 209 #[.val (.int p1), .val (.int p2), .val (.int p3), .val (.int p4), .val (.int p5), .val (.int p6), .val (.int (3 : Int32)), .val (.int (0 : Int32)), .val (.ref b13_1_1), .val (.ref b13_4_1), .val (.ref b13_7_1), .val (.ref b13_10_1), .val (.ref b3_13_1), .val (.ref b3), .val (.ref b13_1_1), .unset] [(.ref b3)])) _
    refine XS.iload X19.here hx rfl (hb hby at_209) rfl ?_
    show Steps p.tables e below (T19.setTop (mkF m 211 #[.val (.int p1), .val (.int p2), .val (.int p3), .val (.int p4), .val (.int p5), .val (.int p6), .val (.int (3 : Int32)), .val (.int (0 : Int32)), .val (.ref b13_1_1), .val (.ref b13_4_1), .val (.ref b13_7_1), .val (.ref b13_10_1), .val (.ref b3_13_1), .val (.ref b3), .val (.ref b13_1_1), .unset] [(.int (0 : Int32)), (.ref b3)])) _
    refine XS.aload X19.here hx rfl (hb hby at_211) rfl rfl ?_
    show Steps p.tables e below (T19.setTop (mkF m 213 #[.val (.int p1), .val (.int p2), .val (.int p3), .val (.int p4), .val (.int p5), .val (.int p6), .val (.int (3 : Int32)), .val (.int (0 : Int32)), .val (.ref b13_1_1), .val (.ref b13_4_1), .val (.ref b13_7_1), .val (.ref b13_10_1), .val (.ref b3_13_1), .val (.ref b3), .val (.ref b13_1_1), .unset] [(.ref b3_13_1), (.int (0 : Int32)), (.ref b3)])) _
    refine st22 _ ?_
    show Steps p.tables e below (T22.setTop (mkF m 216 #[.val (.int p1), .val (.int p2), .val (.int p3), .val (.int p4), .val (.int p5), .val (.int p6), .val (.int (3 : Int32)), .val (.int (0 : Int32)), .val (.ref b13_1_1), .val (.ref b13_4_1), .val (.ref b13_7_1), .val (.ref b13_10_1), .val (.ref b3_13_1), .val (.ref b3), .val (.ref b13_1_1), .unset] [(.ref b13_1_1)])) _
    refine XS.astore X22.here hx rfl (hb hby at_216) rfl rfl (l' := #[.val (.int p1), .val (.int p2), .val (.int p3), .val (.int p4), .val (.int p5), .val (.int p6), .val (.int (3 : Int32)), .val (.int (0 : Int32)), .val (.ref b13_1_1), .val (.ref b13_4_1), .val (.ref b13_7_1), .val (.ref b13_10_1), .val (.ref b3_13_1), .val (.ref b3), .val (.ref b13_1_1), .val (.ref b13_1_1)]) rfl ?_
    show Steps p.tables e below (T22.setTop (mkF m 218 #[.val (.int p1), .val (.int p2), .val (.int p3), .val (.int p4), .val (.int p5), .val (.int p6), .val (.int (3 : Int32)), .val (.int (0 : Int32)), .val (.ref b13_1_1), .val (.ref b13_4_1), .val (.ref b13_7_1), .val (.ref b13_10_1), .val (.ref b3_13_1), .val (.ref b3), .val (.ref b13_1_1), .val (.ref b13_1_1)] [])) _
    refine XS.aload X22.here hx rfl (hb hby at_218) rfl rfl ?_
    show Steps p.tables e below (T22.setTop (mkF m 220 #[.val (.int p1), .val (.int p2), .val (.int p3), .val (.int p4), .val (.int p5), .val (.int p6), .val (.int (3 : Int32)), .val (.int (0 : Int32)), .val (.ref b13_1_1), .val (.ref b13_4_1), .val (.ref b13_7_1), .val (.ref b13_10_1), .val (.ref b3_13_1), .val (.ref b3), .val (.ref b13_1_1), .val (.ref b13_1_1)] [(.ref b13_1_1)])) _
    refine XS.aload X22.here hx rfl (hb hby at_220) rfl rfl ?_
    show Steps p.tables e below (T22.setTop (mkF m 222 #[.val (.int p1), .val (.int p2), .val (.int p3), .val (.int p4), .val (.int p5), .val (.int p6), .val (.int (3 : Int32)), .val (.int (0 : Int32)), .val (.ref b13_1_1), .val (.ref b13_4_1), .val (.ref b13_7_1), .val (.ref b13_10_1), .val (.ref b3_13_1), .val (.ref b3), .val (.ref b13_1_1), .val (.ref b13_1_1)] [(.ref b13_1_1), (.ref b13_1_1)])) _
    refine Jvm.RoadKit.acmp (g := (mkF m 222 #[.val (.int p1), .val (.int p2), .val (.int p3), .val (.int p4), .val (.int p5), .val (.int p6), .val (.int (3 : Int32)), .val (.int (0 : Int32)), .val (.ref b13_1_1), .val (.ref b13_4_1), .val (.ref b13_7_1), .val (.ref b13_10_1), .val (.ref b3_13_1), .val (.ref b3), .val (.ref b13_1_1), .val (.ref b13_1_1)] [(.ref b13_1_1), (.ref b13_1_1)])) X22 hx rfl rfl rfl (pc0 := 222) (pc' := 225) (same := true) rfl (hb hby at_222) rfl (decide_eq_true rfl) (by decide) (by decide) ?_
    show Steps p.tables e below (T22.setTop (mkF m 225 #[.val (.int p1), .val (.int p2), .val (.int p3), .val (.int p4), .val (.int p5), .val (.int p6), .val (.int (3 : Int32)), .val (.int (0 : Int32)), .val (.ref b13_1_1), .val (.ref b13_4_1), .val (.ref b13_7_1), .val (.ref b13_10_1), .val (.ref b3_13_1), .val (.ref b3), .val (.ref b13_1_1), .val (.ref b13_1_1)] [])) _
    refine XS.aload X22.here hx rfl (hb hby at_225) rfl rfl ?_
    show Steps p.tables e below (T22.setTop (mkF m 227 #[.val (.int p1), .val (.int p2), .val (.int p3), .val (.int p4), .val (.int p5), .val (.int p6), .val (.int (3 : Int32)), .val (.int (0 : Int32)), .val (.ref b13_1_1), .val (.ref b13_4_1), .val (.ref b13_7_1), .val (.ref b13_10_1), .val (.ref b3_13_1), .val (.ref b3), .val (.ref b13_1_1), .val (.ref b13_1_1)] [(.ref b3)])) _
    refine X22.arraylength hx (by rw [e22]; exact Ar23.1) (State.isArrayOf_alike hZ.alike Ar23.2.1) (g := (mkF m 227 #[.val (.int p1), .val (.int p2), .val (.int p3), .val (.int p4), .val (.int p5), .val (.int p6), .val (.int (3 : Int32)), .val (.int (0 : Int32)), .val (.ref b13_1_1), .val (.ref b13_4_1), .val (.ref b13_7_1), .val (.ref b13_10_1), .val (.ref b3_13_1), .val (.ref b3), .val (.ref b13_1_1), .val (.ref b13_1_1)] [(.ref b3)])) rfl rfl (hb hby at_227) _ ?_
    rw [len_of Sz23 Ng23]
    show Steps p.tables e below (T22.setTop (mkF m 228 #[.val (.int p1), .val (.int p2), .val (.int p3), .val (.int p4), .val (.int p5), .val (.int p6), .val (.int (3 : Int32)), .val (.int (0 : Int32)), .val (.ref b13_1_1), .val (.ref b13_4_1), .val (.ref b13_7_1), .val (.ref b13_10_1), .val (.ref b3_13_1), .val (.ref b3), .val (.ref b13_1_1), .val (.ref b13_1_1)] [(.int (3 : Int32))])) _
    refine XS.iload X22.here hx rfl (hb hby at_228) rfl ?_
    show Steps p.tables e below (T22.setTop (mkF m 230 #[.val (.int p1), .val (.int p2), .val (.int p3), .val (.int p4), .val (.int p5), .val (.int p6), .val (.int (3 : Int32)), .val (.int (0 : Int32)), .val (.ref b13_1_1), .val (.ref b13_4_1), .val (.ref b13_7_1), .val (.ref b13_10_1), .val (.ref b3_13_1), .val (.ref b3), .val (.ref b13_1_1), .val (.ref b13_1_1)] [(.int (3 : Int32)), (.int (3 : Int32))])) _
    refine XS.icmpNo X22.here hx rfl (hb hby at_230) rfl (teq (rfl : (3 : Int32) = (3 : Int32))).2 ?_
    show Steps p.tables e below (T22.setTop (mkF m 233 #[.val (.int p1), .val (.int p2), .val (.int p3), .val (.int p4), .val (.int p5), .val (.int p6), .val (.int (3 : Int32)), .val (.int (0 : Int32)), .val (.ref b13_1_1), .val (.ref b13_4_1), .val (.ref b13_7_1), .val (.ref b13_10_1), .val (.ref b3_13_1), .val (.ref b3), .val (.ref b13_1_1), .val (.ref b13_1_1)] [])) _
    refine XS.iconst X22.here hx rfl (hb hby at_233) ?_
    show Steps p.tables e below (T22.setTop (mkF m 234 #[.val (.int p1), .val (.int p2), .val (.int p3), .val (.int p4), .val (.int p5), .val (.int p6), .val (.int (3 : Int32)), .val (.int (0 : Int32)), .val (.ref b13_1_1), .val (.ref b13_4_1), .val (.ref b13_7_1), .val (.ref b13_10_1), .val (.ref b3_13_1), .val (.ref b3), .val (.ref b13_1_1), .val (.ref b13_1_1)] [(.int (1 : Int32))])) _
    refine XS.goto X22.here hx rfl (pc0 := 234) (pc' := 238) rfl (hb hby at_234) (by decide) (by decide) ?_
    show Steps p.tables e below (T22.setTop (mkF m 238 #[.val (.int p1), .val (.int p2), .val (.int p3), .val (.int p4), .val (.int p5), .val (.int p6), .val (.int (3 : Int32)), .val (.int (0 : Int32)), .val (.ref b13_1_1), .val (.ref b13_4_1), .val (.ref b13_7_1), .val (.ref b13_10_1), .val (.ref b3_13_1), .val (.ref b3), .val (.ref b13_1_1), .val (.ref b13_1_1)] [(.int (1 : Int32))])) _
    exact retN X22 hx (t := .boolean) Bd.returns (by simp) (hb hby at_238) hr
  · show own_Qlaw h0 n0 _ T22.heap _
    exact ⟨rfl, N22⟩
theorem own_eflaw31 (m : MethodId) (p1 : Int32) (p2 : Int32) (p3 : Int32) (p4 : Int32) (p5 : Int32) (p6 : Int32) : entryFrame m #[(.int p1), (.int p2), (.int p3), (.int p4), (.int p5), (.int p6)] maxLocals = mkF m 0 #[.val (.int p1), .val (.int p2), .val (.int p3), .val (.int p4), .val (.int p5), .val (.int p6), .unset, .unset, .unset, .unset, .unset, .unset, .unset, .unset, .unset, .unset] [] := by first | (simp [entryFrame, mkF, argsToLocals, Value.category, maxLocals]; done) | rfl
set_option maxRecDepth 65536 in
set_option maxHeartbeats 40000000 in
theorem own_law31 (l : Launch) (Z : State) (a0 : Array Value) (hw : ∀ d ∈ tables_1, d.before a0 Z = true) (ws : List Jvm.Cond) (G1 : Int32) (gl : own_Glob Z G1) (p1 : Int32) (p2 : Int32) (p3 : Int32) (p4 : Int32) (p5 : Int32) (p6 : Int32) (h0 : Heap) (n0 : Nat) (Z0 : n0 ≤ h0.size) (X00 : Old Z n0 h0) (hn : own_n p1 = 3) (hi : own_i p2 3 = 1) :
    MetFree l x (head1 (Jvm.Cond.code x code maxLocals ret :: ws) room_1) (fun a U => a = #[(.int p1), (.int p2), (.int p3), (.int p4), (.int p5), (.int p6)] ∧ Z.Warmed39 U.vm ∧ U.heap = h0) (fun _ _ _ _ _ => True) (fun _ U o U' => ∃ v L, o = .returned v ∧ own_Qlaw h0 n0 v U'.heap L ∧ FrameEnd U o U' L room_1.cells room_1.slots) := by
  refine MetFree.of_bodySF (plainFor_of_name own_pn6) hisR ?_
  intro p e s m args below meth c s₁ Bd hml0 hP hK
  obtain ⟨rfl, hZ, hh⟩ := hP
  obtain ⟨O_CS, P_CS⟩ := id gl
  have hx := Bd.exec
  have hby := Bd.bytes
  have hml : c.maxLocals = 16 := hml0
  have hown : s.vm.findClass "com/example/dagsverke/dagsverke/CommandLineValuePinLaw" = some m.cls := findClass_of_methodNamed Bd.named
  have hnm := (name_of_methodNamed Bd.named Bd.method).1
  have X0 : Stand p l e room_1 s m #[(.int p1), (.int p2), (.int p3), (.int p4), (.int p5), (.int p6)] below meth c s₁ [] 0 0 := Stand.of_body Bd
  have e0 : s₁.heap = h0 := by rw [← hh, Bd.state]; rfl
  have N0 := Fr.nil n0
  have pre0 : ∀ t, Steps p.tables e below (s₁.setTop (mkF m 0 #[.val (.int p1), .val (.int p2), .val (.int p3), .val (.int p4), .val (.int p5), .val (.int p6), .unset, .unset, .unset, .unset, .unset, .unset, .unset, .unset, .unset, .unset] [])) t → Steps p.tables e below (s₁.setTop (entryFrame m #[(.int p1), (.int p2), (.int p3), (.int p4), (.int p5), (.int p6)] maxLocals)) t := fun t k => castTop (own_eflaw31 m p1 p2 p3 p4 p5 p6) k
  obtain ⟨b13_1_1, b13_4_1, b13_7_1, b13_10_1, b3_13_1, t25_1_1, kb25_1_1, t25_4_1, kb25_4_1, t25_7_1, kb25_7_1, t25_10_1, kb25_10_1, b1_5_13_1, k1_5_13_1, T1, h1, L1, X1, e1, N1, Kq1, f1_0, f1_1, f1_2, f1_3, f1_4, f1_5, f1_6, f1_7, f1_8, f1_9, f1_10, f1_11, f1_12, f1_13, f1_14, f1_15, f1_16, f1_17, f1_18, f1_19, f1_20, f1_21, f1_22, f1_23, f1_24, f1_25, f1_26, f1_27, f1_28, f1_29, f1_30, f1_31, f1_32, f1_33, st1⟩ := own_seg hw G1 gl p1 p2 p3 p4 p5 p6 Z0 X00  X0 hx hZ hby hml hown e0
  have Kp2 : Keep h0 h1 [] := (Keep.refl h0 []).trans Kq1 all0
  obtain ⟨T3, h3, k3, X3, e3, E3, A3, O3, st3⟩ := newR X1 hx hZ hown (hw _ (List.mem_of_getElem? (i := 6) rfl)) (hw _ (List.mem_of_getElem? (i := 49) rfl)) e1 (g := (mkF m 116 #[.val (.int p1), .val (.int p2), .val (.int p3), .val (.int p4), .val (.int p5), .val (.int p6), .val (.int (3 : Int32)), .val (.int (own_i p2 (3 : Int32))), .val (.ref b13_1_1), .val (.ref b13_4_1), .val (.ref b13_7_1), .val (.ref b13_10_1), .val (.ref b3_13_1), .unset, .unset, .unset] [(.int (3 : Int32))])) rfl (hb hby at_116) rfl (by decide) (cap := 3) (by decide) (by decide) (by decide) (by decide)
  obtain ⟨b3, g3⟩ : ∃ z, z = h1.size := ⟨_, rfl⟩
  rw [← g3] at A3 st3
  have Kp4 : Keep h0 h3 [] := Kp2.ext E3
  have Vh5 : Arv Z h3 b3 k3 (.object "java/lang/String") (3 : Int32) [.null, .null, .null] .null := (Arv.new A3 (by decide)).pad (pad_rep [] .null 3)
  obtain ⟨cl6, Ar6, qc6, Sz6, Ng6, Hs6, Gs6⟩ := id Vh5
  have hin6 : ¬ ((0 : Int32) < 0 ∨ cl6.slots.size ≤ ((0 : Int32)).toNatClampNeg) := inb_of Sz6 ⟨(by decide), (by decide)⟩
  have Eh7 : Exa Z h3 b13_1_1 "java/lang/String" := (f1_1.ext E3)
  obtain ⟨T8, h8, X8, e8, W8, st8⟩ := stR X3 hx hZ e3 Ar6 (j := (0 : Int32)) hin6 rfl (Sto.ofV Ar6 qc6 O3 (Ins.self Eh7)) (g := (mkF m 123 #[.val (.int p1), .val (.int p2), .val (.int p3), .val (.int p4), .val (.int p5), .val (.int p6), .val (.int (3 : Int32)), .val (.int (own_i p2 (3 : Int32))), .val (.ref b13_1_1), .val (.ref b13_4_1), .val (.ref b13_7_1), .val (.ref b13_10_1), .val (.ref b3_13_1), .unset, .unset, .unset] [(.ref b13_1_1), (.int (0 : Int32)), (.ref b3), (.ref b3)])) rfl rfl (hb hby at_123)
  have Kp9 : Keep h0 h8 [] := Kp4.wr W8 (Or.inr (Nat.le_trans Kp2.1 (Nat.le_of_eq g3.symm)))
  have gh10 : n0 ≤ b3 := Nat.le_trans (Nat.le_trans Z0 Kp2.1) (Nat.le_of_eq g3.symm)
  obtain ⟨Lp8, X8, N8⟩ := own_pack X8 (Fr.snoc X8 N1 gh10)
  have Vh11 : Arv Z h8 b3 k3 (.object "java/lang/String") (3 : Int32) [(.ref b13_1_1), .null, .null] .null := (Arv.set Ar6 qc6 Sz6 Ng6 Hs6 Gs6 rfl W8 0 rfl (Nat.le_of_ble_eq_true rfl))
  obtain ⟨cl12, Ar12, qc12, Sz12, Ng12, Hs12, Gs12⟩ := id Vh11
  have hin12 : ¬ ((1 : Int32) < 0 ∨ cl12.slots.size ≤ ((1 : Int32)).toNatClampNeg) := inb_of Sz12 ⟨(by decide), (by decide)⟩
  have Eh13 : Exa Z h8 b13_4_1 "java/lang/String" := ((f1_5.ext E3).wr W8)
  obtain ⟨T14, h14, X14, e14, W14, st14⟩ := stR X8 hx hZ e8 Ar12 (j := (1 : Int32)) hin12 rfl (Sto.ofV Ar12 qc12 O3 (Ins.self Eh13)) (g := (mkF m 128 #[.val (.int p1), .val (.int p2), .val (.int p3), .val (.int p4), .val (.int p5), .val (.int p6), .val (.int (3 : Int32)), .val (.int (own_i p2 (3 : Int32))), .val (.ref b13_1_1), .val (.ref b13_4_1), .val (.ref b13_7_1), .val (.ref b13_10_1), .val (.ref b3_13_1), .unset, .unset, .unset] [(.ref b13_4_1), (.int (1 : Int32)), (.ref b3), (.ref b3)])) rfl rfl (hb hby at_128)
  have Kp15 : Keep h0 h14 [] := Kp9.wr W14 (Or.inr (Nat.le_trans Kp2.1 (Nat.le_of_eq g3.symm)))
  obtain ⟨Lp14, X14, N14⟩ := own_pack X14 (Fr.snoc X14 N8 gh10)
  have Vh16 : Arv Z h14 b3 k3 (.object "java/lang/String") (3 : Int32) [(.ref b13_1_1), (.ref b13_4_1), .null] .null := (Arv.set Ar12 qc12 Sz12 Ng12 Hs12 Gs12 rfl W14 1 rfl (Nat.le_of_ble_eq_true rfl))
  obtain ⟨cl17, Ar17, qc17, Sz17, Ng17, Hs17, Gs17⟩ := id Vh16
  have hin17 : ¬ ((2 : Int32) < 0 ∨ cl17.slots.size ≤ ((2 : Int32)).toNatClampNeg) := inb_of Sz17 ⟨(by decide), (by decide)⟩
  have Eh18 : Exa Z h14 b13_7_1 "java/lang/String" := (((f1_9.ext E3).wr W8).wr W14)
  obtain ⟨T19, h19, X19, e19, W19, st19⟩ := stR X14 hx hZ e14 Ar17 (j := (2 : Int32)) hin17 rfl (Sto.ofV Ar17 qc17 O3 (Ins.self Eh18)) (g := (mkF m 133 #[.val (.int p1), .val (.int p2), .val (.int p3), .val (.int p4), .val (.int p5), .val (.int p6), .val (.int (3 : Int32)), .val (.int (own_i p2 (3 : Int32))), .val (.ref b13_1_1), .val (.ref b13_4_1), .val (.ref b13_7_1), .val (.ref b13_10_1), .val (.ref b3_13_1), .unset, .unset, .unset] [(.ref b13_7_1), (.int (2 : Int32)), (.ref b3), (.ref b3)])) rfl rfl (hb hby at_133)
  have Kp20 : Keep h0 h19 [] := Kp15.wr W19 (Or.inr (Nat.le_trans Kp2.1 (Nat.le_of_eq g3.symm)))
  obtain ⟨Lp19, X19, N19⟩ := own_pack X19 (Fr.snoc X19 N14 gh10)
  have Vh21 : Arv Z h19 b3 k3 (.object "java/lang/String") (3 : Int32) [(.ref b13_1_1), (.ref b13_4_1), (.ref b13_7_1)] .null := (Arv.set Ar17 qc17 Sz17 Ng17 Hs17 Gs17 rfl W19 2 rfl (Nat.le_of_ble_eq_true rfl))
  obtain ⟨_, _, ⟨T22, L22, k22, n22⟩, -, X22, ⟨Lc22, hQ22, l22, y22, z22⟩, st22⟩ := Jvm.LawKit.callS X19 hx (y := (⟨"com/example/dagsverke/dagsverke/CommandLine", "value", "([Ljava/lang/String;ILjava/lang/String;)Ljava/lang/String;"⟩ : MethodName)) hown (mvT hZ (hw _ (List.mem_of_getElem? (i := 50) rfl))) (mvT hZ (hw _ (List.mem_of_getElem? (i := 51) rfl))) (mvT hZ (hw _ (List.mem_of_getElem? (i := 52) rfl))) (mvT hZ (hw _ (List.mem_of_getElem? (i := 53) rfl))) (by decide) (backOf (W := 0) (own_rm_v31 l Z a0 hw [] G1 gl b3 b3_13_1 (k3) b13_1_1 b13_4_1 b13_7_1 h19 n0 (Nat.le_trans Z0 Kp20.1) Vh21) hZ (hw _ (List.mem_of_getElem? (i := 53) rfl)) (hw _ (List.mem_of_getElem? (i := 52) rfl)) (by decide) (by decide)) (g := (mkF m 213 #[.val (.int p1), .val (.int p2), .val (.int p3), .val (.int p4), .val (.int p5), .val (.int p6), .val (.int (3 : Int32)), .val (.int (1 : Int32)), .val (.ref b13_1_1), .val (.ref b13_4_1), .val (.ref b13_7_1), .val (.ref b13_10_1), .val (.ref b3_13_1), .val (.ref b3), .val (.ref b13_4_1), .unset] [(.ref b3_13_1), (.int (1 : Int32)), (.ref b3)])) rfl (by rw [hml]; rfl) (argsL := [(.ref b3), (.int (1 : Int32)), (.ref b3_13_1)]) (rest := []) (lenOf own_pd10 rfl) rfl (by show 2 * 0 + _ ≤ _; exact Nat.le_of_eq rfl) (hb hby at_213) (fun _ _ => ⟨rfl, e19, (by decide : 15 + 0 ≤ _), (by decide : 40 + 0 ≤ _)⟩)
  dsimp only [Pt.U, Pt.locs, Pt.cells, Pt.slots] at X22 l22 y22 z22 st22 hQ22
  subst y22 z22
  obtain ⟨rfl, Nq22, e22⟩ := hQ22
  have N22 : Fr n0 L22 := by rw [l22]; exact Fr.app N19 Nq22
  obtain ⟨cl23, Ar23, -, Sz23, Ng23, -, -⟩ := id Vh21
  obtain ⟨fs, hr, hrun, hended, hW, hsame⟩ := X22.leave (v := some (.int (1 : Int32))) (fun h => by rw [Bd.returns] at h; cases h)
  refine ⟨_, _, pre0 _ ?_, hrun, hended, _, _, rfl, ?_, ⟨_, rfl⟩, hW, hsame.mono (by decide) (by decide)⟩
  · show Steps p.tables e below (s₁.setTop (mkF m 0 #[.val (.int p1), .val (.int p2), .val (.int p3), .val (.int p4), .val (.int p5), .val (.int p6), .unset, .unset, .unset, .unset, .unset, .unset, .unset, .unset, .unset, .unset] [])) _
    refine st1 _ ?_
    show Steps p.tables e below (T1.setTop (mkF m 64 #[.val (.int p1), .val (.int p2), .val (.int p3), .val (.int p4), .val (.int p5), .val (.int p6), .val (.int (own_n p1)), .val (.int (own_i p2 (own_n p1))), .val (.ref b13_1_1), .val (.ref b13_4_1), .val (.ref b13_7_1), .val (.ref b13_10_1), .val (.ref b3_13_1), .unset, .unset, .unset] [])) _
    refine XS.iload X1.here hx rfl (hb hby at_64) rfl ?_
    show Steps p.tables e below (T1.setTop (mkF m 66 #[.val (.int p1), .val (.int p2), .val (.int p3), .val (.int p4), .val (.int p5), .val (.int p6), .val (.int (own_n p1)), .val (.int (own_i p2 (own_n p1))), .val (.ref b13_1_1), .val (.ref b13_4_1), .val (.ref b13_7_1), .val (.ref b13_10_1), .val (.ref b3_13_1), .unset, .unset, .unset] [(.int (own_n p1))])) _
    rw [hn]
    show Steps p.tables e below (T1.setTop (mkF m 66 #[.val (.int p1), .val (.int p2), .val (.int p3), .val (.int p4), .val (.int p5), .val (.int p6), .val (.int (3 : Int32)), .val (.int (own_i p2 (3 : Int32))), .val (.ref b13_1_1), .val (.ref b13_4_1), .val (.ref b13_7_1), .val (.ref b13_10_1), .val (.ref b3_13_1), .unset, .unset, .unset] [(.int (3 : Int32))])) _
    refine XS.iconst X1.here hx rfl (hb hby at_66) ?_
    show Steps p.tables e below (T1.setTop (mkF m 67 #[.val (.int p1), .val (.int p2), .val (.int p3), .val (.int p4), .val (.int p5), .val (.int p6), .val (.int (3 : Int32)), .val (.int (own_i p2 (3 : Int32))), .val (.ref b13_1_1), .val (.ref b13_4_1), .val (.ref b13_7_1), .val (.ref b13_10_1), .val (.ref b3_13_1), .unset, .unset, .unset] [(.int (1 : Int32)), (.int (3 : Int32))])) _
    refine XS.icmpYes X1.here hx rfl (pc0 := 67) (pc' := 84) rfl (hb hby at_67) rfl (feq (by decide : ¬ ((3 : Int32) = (1 : Int32)))).2 (by decide) (by decide) ?_
    show Steps p.tables e below (T1.setTop (mkF m 84 #[.val (.int p1), .val (.int p2), .val (.int p3), .val (.int p4), .val (.int p5), .val (.int p6), .val (.int (3 : Int32)), .val (.int (own_i p2 (3 : Int32))), .val (.ref b13_1_1), .val (.ref b13_4_1), .val (.ref b13_7_1), .val (.ref b13_10_1), .val (.ref b3_13_1), .unset, .unset, .unset] [])) _
    refine XS.iload X1.here hx rfl (hb hby at_84) rfl ?_
    show Steps p.tables e below (T1.setTop (mkF m 86 #[.val (.int p1), .val (.int p2), .val (.int p3), .val (.int p4), .val (.int p5), .val (.int p6), .val (.int (3 : Int32)), .val (.int (own_i p2 (3 : Int32))), .val (.ref b13_1_1), .val (.ref b13_4_1), .val (.ref b13_7_1), .val (.ref b13_10_1), .val (.ref b3_13_1), .unset, .unset, .unset] [(.int (3 : Int32))])) _
    refine XS.iconst X1.here hx rfl (hb hby at_86) ?_
    show Steps p.tables e below (T1.setTop (mkF m 87 #[.val (.int p1), .val (.int p2), .val (.int p3), .val (.int p4), .val (.int p5), .val (.int p6), .val (.int (3 : Int32)), .val (.int (own_i p2 (3 : Int32))), .val (.ref b13_1_1), .val (.ref b13_4_1), .val (.ref b13_7_1), .val (.ref b13_10_1), .val (.ref b3_13_1), .unset, .unset, .unset] [(.int (2 : Int32)), (.int (3 : Int32))])) _
    refine XS.icmpYes X1.here hx rfl (pc0 := 87) (pc' := 109) rfl (hb hby at_87) rfl (feq (by decide : ¬ ((3 : Int32) = (2 : Int32)))).2 (by decide) (by decide) ?_
    show Steps p.tables e below (T1.setTop (mkF m 109 #[.val (.int p1), .val (.int p2), .val (.int p3), .val (.int p4), .val (.int p5), .val (.int p6), .val (.int (3 : Int32)), .val (.int (own_i p2 (3 : Int32))), .val (.ref b13_1_1), .val (.ref b13_4_1), .val (.ref b13_7_1), .val (.ref b13_10_1), .val (.ref b3_13_1), .unset, .unset, .unset] [])) _
    refine XS.iload X1.here hx rfl (hb hby at_109) rfl ?_
    show Steps p.tables e below (T1.setTop (mkF m 111 #[.val (.int p1), .val (.int p2), .val (.int p3), .val (.int p4), .val (.int p5), .val (.int p6), .val (.int (3 : Int32)), .val (.int (own_i p2 (3 : Int32))), .val (.ref b13_1_1), .val (.ref b13_4_1), .val (.ref b13_7_1), .val (.ref b13_10_1), .val (.ref b3_13_1), .unset, .unset, .unset] [(.int (3 : Int32))])) _
    refine XS.iconst X1.here hx rfl (hb hby at_111) ?_
    show Steps p.tables e below (T1.setTop (mkF m 112 #[.val (.int p1), .val (.int p2), .val (.int p3), .val (.int p4), .val (.int p5), .val (.int p6), .val (.int (3 : Int32)), .val (.int (own_i p2 (3 : Int32))), .val (.ref b13_1_1), .val (.ref b13_4_1), .val (.ref b13_7_1), .val (.ref b13_10_1), .val (.ref b3_13_1), .unset, .unset, .unset] [(.int (3 : Int32)), (.int (3 : Int32))])) _
    refine XS.icmpNo X1.here hx rfl (hb hby at_112) rfl (teq (rfl : (3 : Int32) = (3 : Int32))).2 ?_
    show Steps p.tables e below (T1.setTop (mkF m 115 #[.val (.int p1), .val (.int p2), .val (.int p3), .val (.int p4), .val (.int p5), .val (.int p6), .val (.int (3 : Int32)), .val (.int (own_i p2 (3 : Int32))), .val (.ref b13_1_1), .val (.ref b13_4_1), .val (.ref b13_7_1), .val (.ref b13_10_1), .val (.ref b3_13_1), .unset, .unset, .unset] [])) _
    refine XS.iconst X1.here hx rfl (hb hby at_115) ?_
    show Steps p.tables e below (T1.setTop (mkF m 116 #[.val (.int p1), .val (.int p2), .val (.int p3), .val (.int p4), .val (.int p5), .val (.int p6), .val (.int (3 : Int32)), .val (.int (own_i p2 (3 : Int32))), .val (.ref b13_1_1), .val (.ref b13_4_1), .val (.ref b13_7_1), .val (.ref b13_10_1), .val (.ref b3_13_1), .unset, .unset, .unset] [(.int (3 : Int32))])) _
    refine st3 _ ?_
    show Steps p.tables e below (T3.setTop (mkF m 119 #[.val (.int p1), .val (.int p2), .val (.int p3), .val (.int p4), .val (.int p5), .val (.int p6), .val (.int (3 : Int32)), .val (.int (own_i p2 (3 : Int32))), .val (.ref b13_1_1), .val (.ref b13_4_1), .val (.ref b13_7_1), .val (.ref b13_10_1), .val (.ref b3_13_1), .unset, .unset, .unset] [(.ref b3)])) _
    refine XS.dup X3.here hx rfl (hb hby at_119) rfl rfl ?_
    show Steps p.tables e below (T3.setTop (mkF m 120 #[.val (.int p1), .val (.int p2), .val (.int p3), .val (.int p4), .val (.int p5), .val (.int p6), .val (.int (3 : Int32)), .val (.int (own_i p2 (3 : Int32))), .val (.ref b13_1_1), .val (.ref b13_4_1), .val (.ref b13_7_1), .val (.ref b13_10_1), .val (.ref b3_13_1), .unset, .unset, .unset] [(.ref b3), (.ref b3)])) _
    refine XS.iconst X3.here hx rfl (hb hby at_120) ?_
    show Steps p.tables e below (T3.setTop (mkF m 121 #[.val (.int p1), .val (.int p2), .val (.int p3), .val (.int p4), .val (.int p5), .val (.int p6), .val (.int (3 : Int32)), .val (.int (own_i p2 (3 : Int32))), .val (.ref b13_1_1), .val (.ref b13_4_1), .val (.ref b13_7_1), .val (.ref b13_10_1), .val (.ref b3_13_1), .unset, .unset, .unset] [(.int (0 : Int32)), (.ref b3), (.ref b3)])) _
    refine XS.aload X3.here hx rfl (hb hby at_121) rfl rfl ?_
    show Steps p.tables e below (T3.setTop (mkF m 123 #[.val (.int p1), .val (.int p2), .val (.int p3), .val (.int p4), .val (.int p5), .val (.int p6), .val (.int (3 : Int32)), .val (.int (own_i p2 (3 : Int32))), .val (.ref b13_1_1), .val (.ref b13_4_1), .val (.ref b13_7_1), .val (.ref b13_10_1), .val (.ref b3_13_1), .unset, .unset, .unset] [(.ref b13_1_1), (.int (0 : Int32)), (.ref b3), (.ref b3)])) _
    refine st8 _ ?_
    show Steps p.tables e below (T8.setTop (mkF m 124 #[.val (.int p1), .val (.int p2), .val (.int p3), .val (.int p4), .val (.int p5), .val (.int p6), .val (.int (3 : Int32)), .val (.int (own_i p2 (3 : Int32))), .val (.ref b13_1_1), .val (.ref b13_4_1), .val (.ref b13_7_1), .val (.ref b13_10_1), .val (.ref b3_13_1), .unset, .unset, .unset] [(.ref b3)])) _
    refine XS.dup X8.here hx rfl (hb hby at_124) rfl rfl ?_
    show Steps p.tables e below (T8.setTop (mkF m 125 #[.val (.int p1), .val (.int p2), .val (.int p3), .val (.int p4), .val (.int p5), .val (.int p6), .val (.int (3 : Int32)), .val (.int (own_i p2 (3 : Int32))), .val (.ref b13_1_1), .val (.ref b13_4_1), .val (.ref b13_7_1), .val (.ref b13_10_1), .val (.ref b3_13_1), .unset, .unset, .unset] [(.ref b3), (.ref b3)])) _
    refine XS.iconst X8.here hx rfl (hb hby at_125) ?_
    show Steps p.tables e below (T8.setTop (mkF m 126 #[.val (.int p1), .val (.int p2), .val (.int p3), .val (.int p4), .val (.int p5), .val (.int p6), .val (.int (3 : Int32)), .val (.int (own_i p2 (3 : Int32))), .val (.ref b13_1_1), .val (.ref b13_4_1), .val (.ref b13_7_1), .val (.ref b13_10_1), .val (.ref b3_13_1), .unset, .unset, .unset] [(.int (1 : Int32)), (.ref b3), (.ref b3)])) _
    refine XS.aload X8.here hx rfl (hb hby at_126) rfl rfl ?_
    show Steps p.tables e below (T8.setTop (mkF m 128 #[.val (.int p1), .val (.int p2), .val (.int p3), .val (.int p4), .val (.int p5), .val (.int p6), .val (.int (3 : Int32)), .val (.int (own_i p2 (3 : Int32))), .val (.ref b13_1_1), .val (.ref b13_4_1), .val (.ref b13_7_1), .val (.ref b13_10_1), .val (.ref b3_13_1), .unset, .unset, .unset] [(.ref b13_4_1), (.int (1 : Int32)), (.ref b3), (.ref b3)])) _
    refine st14 _ ?_
    show Steps p.tables e below (T14.setTop (mkF m 129 #[.val (.int p1), .val (.int p2), .val (.int p3), .val (.int p4), .val (.int p5), .val (.int p6), .val (.int (3 : Int32)), .val (.int (own_i p2 (3 : Int32))), .val (.ref b13_1_1), .val (.ref b13_4_1), .val (.ref b13_7_1), .val (.ref b13_10_1), .val (.ref b3_13_1), .unset, .unset, .unset] [(.ref b3)])) _
    refine XS.dup X14.here hx rfl (hb hby at_129) rfl rfl ?_
    show Steps p.tables e below (T14.setTop (mkF m 130 #[.val (.int p1), .val (.int p2), .val (.int p3), .val (.int p4), .val (.int p5), .val (.int p6), .val (.int (3 : Int32)), .val (.int (own_i p2 (3 : Int32))), .val (.ref b13_1_1), .val (.ref b13_4_1), .val (.ref b13_7_1), .val (.ref b13_10_1), .val (.ref b3_13_1), .unset, .unset, .unset] [(.ref b3), (.ref b3)])) _
    refine XS.iconst X14.here hx rfl (hb hby at_130) ?_
    show Steps p.tables e below (T14.setTop (mkF m 131 #[.val (.int p1), .val (.int p2), .val (.int p3), .val (.int p4), .val (.int p5), .val (.int p6), .val (.int (3 : Int32)), .val (.int (own_i p2 (3 : Int32))), .val (.ref b13_1_1), .val (.ref b13_4_1), .val (.ref b13_7_1), .val (.ref b13_10_1), .val (.ref b3_13_1), .unset, .unset, .unset] [(.int (2 : Int32)), (.ref b3), (.ref b3)])) _
    refine XS.aload X14.here hx rfl (hb hby at_131) rfl rfl ?_
    show Steps p.tables e below (T14.setTop (mkF m 133 #[.val (.int p1), .val (.int p2), .val (.int p3), .val (.int p4), .val (.int p5), .val (.int p6), .val (.int (3 : Int32)), .val (.int (own_i p2 (3 : Int32))), .val (.ref b13_1_1), .val (.ref b13_4_1), .val (.ref b13_7_1), .val (.ref b13_10_1), .val (.ref b3_13_1), .unset, .unset, .unset] [(.ref b13_7_1), (.int (2 : Int32)), (.ref b3), (.ref b3)])) _
    refine st19 _ ?_
    show Steps p.tables e below (T19.setTop (mkF m 134 #[.val (.int p1), .val (.int p2), .val (.int p3), .val (.int p4), .val (.int p5), .val (.int p6), .val (.int (3 : Int32)), .val (.int (own_i p2 (3 : Int32))), .val (.ref b13_1_1), .val (.ref b13_4_1), .val (.ref b13_7_1), .val (.ref b13_10_1), .val (.ref b3_13_1), .unset, .unset, .unset] [(.ref b3)])) _
    refine XS.astore X19.here hx rfl (hb hby at_134) rfl rfl (l' := #[.val (.int p1), .val (.int p2), .val (.int p3), .val (.int p4), .val (.int p5), .val (.int p6), .val (.int (3 : Int32)), .val (.int (own_i p2 (3 : Int32))), .val (.ref b13_1_1), .val (.ref b13_4_1), .val (.ref b13_7_1), .val (.ref b13_10_1), .val (.ref b3_13_1), .val (.ref b3), .unset, .unset]) rfl ?_
    show Steps p.tables e below (T19.setTop (mkF m 136 #[.val (.int p1), .val (.int p2), .val (.int p3), .val (.int p4), .val (.int p5), .val (.int p6), .val (.int (3 : Int32)), .val (.int (own_i p2 (3 : Int32))), .val (.ref b13_1_1), .val (.ref b13_4_1), .val (.ref b13_7_1), .val (.ref b13_10_1), .val (.ref b3_13_1), .val (.ref b3), .unset, .unset] [])) _
    refine XS.goto X19.here hx rfl (pc0 := 136) (pc' := 165) rfl (hb hby at_136) (by decide) (by decide) ?_
    show Steps p.tables e below (T19.setTop (mkF m 165 #[.val (.int p1), .val (.int p2), .val (.int p3), .val (.int p4), .val (.int p5), .val (.int p6), .val (.int (3 : Int32)), .val (.int (own_i p2 (3 : Int32))), .val (.ref b13_1_1), .val (.ref b13_4_1), .val (.ref b13_7_1), .val (.ref b13_10_1), .val (.ref b3_13_1), .val (.ref b3), .unset, .unset] [])) _
    refine XS.iload X19.here hx rfl (hb hby at_165) rfl ?_
    show Steps p.tables e below (T19.setTop (mkF m 167 #[.val (.int p1), .val (.int p2), .val (.int p3), .val (.int p4), .val (.int p5), .val (.int p6), .val (.int (3 : Int32)), .val (.int (own_i p2 (3 : Int32))), .val (.ref b13_1_1), .val (.ref b13_4_1), .val (.ref b13_7_1), .val (.ref b13_10_1), .val (.ref b3_13_1), .val (.ref b3), .unset, .unset] [(.int (own_i p2 (3 : Int32)))])) _
    rw [hi]
    show Steps p.tables e below (T19.setTop (mkF m 167 #[.val (.int p1), .val (.int p2), .val (.int p3), .val (.int p4), .val (.int p5), .val (.int p6), .val (.int (3 : Int32)), .val (.int (1 : Int32)), .val (.ref b13_1_1), .val (.ref b13_4_1), .val (.ref b13_7_1), .val (.ref b13_10_1), .val (.ref b3_13_1), .val (.ref b3), .unset, .unset] [(.int (1 : Int32))])) _
    refine XS.ifYes X19.here hx rfl (pc0 := 167) (pc' := 177) rfl (hb hby at_167) rfl ((if0 _ _).trans (feq (by decide : ¬ ((1 : Int32) = (0 : Int32)))).2) (by decide) (by decide) ?_
    show Steps p.tables e below (T19.setTop (mkF m 177 #[.val (.int p1), .val (.int p2), .val (.int p3), .val (.int p4), .val (.int p5), .val (.int p6), .val (.int (3 : Int32)), .val (.int (1 : Int32)), .val (.ref b13_1_1), .val (.ref b13_4_1), .val (.ref b13_7_1), .val (.ref b13_10_1), .val (.ref b3_13_1), .val (.ref b3), .unset, .unset] [])) _
    refine XS.iload X19.here hx rfl (hb hby at_177) rfl ?_
    show Steps p.tables e below (T19.setTop (mkF m 179 #[.val (.int p1), .val (.int p2), .val (.int p3), .val (.int p4), .val (.int p5), .val (.int p6), .val (.int (3 : Int32)), .val (.int (1 : Int32)), .val (.ref b13_1_1), .val (.ref b13_4_1), .val (.ref b13_7_1), .val (.ref b13_10_1), .val (.ref b3_13_1), .val (.ref b3), .unset, .unset] [(.int (1 : Int32))])) _
    refine XS.iconst X19.here hx rfl (hb hby at_179) ?_
    show Steps p.tables e below (T19.setTop (mkF m 180 #[.val (.int p1), .val (.int p2), .val (.int p3), .val (.int p4), .val (.int p5), .val (.int p6), .val (.int (3 : Int32)), .val (.int (1 : Int32)), .val (.ref b13_1_1), .val (.ref b13_4_1), .val (.ref b13_7_1), .val (.ref b13_10_1), .val (.ref b3_13_1), .val (.ref b3), .unset, .unset] [(.int (1 : Int32)), (.int (1 : Int32))])) _
    refine XS.icmpNo X19.here hx rfl (hb hby at_180) rfl (teq (rfl : (1 : Int32) = (1 : Int32))).2 ?_
    show Steps p.tables e below (T19.setTop (mkF m 183 #[.val (.int p1), .val (.int p2), .val (.int p3), .val (.int p4), .val (.int p5), .val (.int p6), .val (.int (3 : Int32)), .val (.int (1 : Int32)), .val (.ref b13_1_1), .val (.ref b13_4_1), .val (.ref b13_7_1), .val (.ref b13_10_1), .val (.ref b3_13_1), .val (.ref b3), .unset, .unset] [])) _
    refine XS.aload X19.here hx rfl (hb hby at_183) rfl rfl ?_
    show Steps p.tables e below (T19.setTop (mkF m 185 #[.val (.int p1), .val (.int p2), .val (.int p3), .val (.int p4), .val (.int p5), .val (.int p6), .val (.int (3 : Int32)), .val (.int (1 : Int32)), .val (.ref b13_1_1), .val (.ref b13_4_1), .val (.ref b13_7_1), .val (.ref b13_10_1), .val (.ref b3_13_1), .val (.ref b3), .unset, .unset] [(.ref b13_4_1)])) _
    refine XS.astore X19.here hx rfl (hb hby at_185) rfl rfl (l' := #[.val (.int p1), .val (.int p2), .val (.int p3), .val (.int p4), .val (.int p5), .val (.int p6), .val (.int (3 : Int32)), .val (.int (1 : Int32)), .val (.ref b13_1_1), .val (.ref b13_4_1), .val (.ref b13_7_1), .val (.ref b13_10_1), .val (.ref b3_13_1), .val (.ref b3), .val (.ref b13_4_1), .unset]) rfl ?_
    show Steps p.tables e below (T19.setTop (mkF m 187 #[.val (.int p1), .val (.int p2), .val (.int p3), .val (.int p4), .val (.int p5), .val (.int p6), .val (.int (3 : Int32)), .val (.int (1 : Int32)), .val (.ref b13_1_1), .val (.ref b13_4_1), .val (.ref b13_7_1), .val (.ref b13_10_1), .val (.ref b3_13_1), .val (.ref b3), .val (.ref b13_4_1), .unset] [])) _
    refine XS.goto X19.here hx rfl (pc0 := 187) (pc' := 207) rfl (hb hby at_187) (by decide) (by decide) ?_
    show Steps p.tables e below (T19.setTop (mkF m 207 #[.val (.int p1), .val (.int p2), .val (.int p3), .val (.int p4), .val (.int p5), .val (.int p6), .val (.int (3 : Int32)), .val (.int (1 : Int32)), .val (.ref b13_1_1), .val (.ref b13_4_1), .val (.ref b13_7_1), .val (.ref b13_10_1), .val (.ref b3_13_1), .val (.ref b3), .val (.ref b13_4_1), .unset] [])) _
    refine XS.aload X19.here hx rfl (hb hby at_207) rfl rfl ?_
    show Steps p.tables e below (T19.setTop (mkF m 209 #[.val (.int p1), .val (.int p2), .val (.int p3), .val (.int p4), .val (.int p5), .val (.int p6), .val (.int (3 : Int32)), .val (.int (1 : Int32)), .val (.ref b13_1_1), .val (.ref b13_4_1), .val (.ref b13_7_1), .val (.ref b13_10_1), .val (.ref b3_13_1), .val (.ref b3), .val (.ref b13_4_1), .unset] [(.ref b3)])) _
    refine XS.iload X19.here hx rfl (hb hby at_209) rfl ?_
    show Steps p.tables e below (T19.setTop (mkF m 211 #[.val (.int p1), .val (.int p2), .val (.int p3), .val (.int p4), .val (.int p5), .val (.int p6), .val (.int (3 : Int32)), .val (.int (1 : Int32)), .val (.ref b13_1_1), .val (.ref b13_4_1), .val (.ref b13_7_1), .val (.ref b13_10_1), .val (.ref b3_13_1), .val (.ref b3), .val (.ref b13_4_1), .unset] [(.int (1 : Int32)), (.ref b3)])) _
    refine XS.aload X19.here hx rfl (hb hby at_211) rfl rfl ?_
    show Steps p.tables e below (T19.setTop (mkF m 213 #[.val (.int p1), .val (.int p2), .val (.int p3), .val (.int p4), .val (.int p5), .val (.int p6), .val (.int (3 : Int32)), .val (.int (1 : Int32)), .val (.ref b13_1_1), .val (.ref b13_4_1), .val (.ref b13_7_1), .val (.ref b13_10_1), .val (.ref b3_13_1), .val (.ref b3), .val (.ref b13_4_1), .unset] [(.ref b3_13_1), (.int (1 : Int32)), (.ref b3)])) _
    refine st22 _ ?_
    show Steps p.tables e below (T22.setTop (mkF m 216 #[.val (.int p1), .val (.int p2), .val (.int p3), .val (.int p4), .val (.int p5), .val (.int p6), .val (.int (3 : Int32)), .val (.int (1 : Int32)), .val (.ref b13_1_1), .val (.ref b13_4_1), .val (.ref b13_7_1), .val (.ref b13_10_1), .val (.ref b3_13_1), .val (.ref b3), .val (.ref b13_4_1), .unset] [(.ref b13_4_1)])) _
    refine XS.astore X22.here hx rfl (hb hby at_216) rfl rfl (l' := #[.val (.int p1), .val (.int p2), .val (.int p3), .val (.int p4), .val (.int p5), .val (.int p6), .val (.int (3 : Int32)), .val (.int (1 : Int32)), .val (.ref b13_1_1), .val (.ref b13_4_1), .val (.ref b13_7_1), .val (.ref b13_10_1), .val (.ref b3_13_1), .val (.ref b3), .val (.ref b13_4_1), .val (.ref b13_4_1)]) rfl ?_
    show Steps p.tables e below (T22.setTop (mkF m 218 #[.val (.int p1), .val (.int p2), .val (.int p3), .val (.int p4), .val (.int p5), .val (.int p6), .val (.int (3 : Int32)), .val (.int (1 : Int32)), .val (.ref b13_1_1), .val (.ref b13_4_1), .val (.ref b13_7_1), .val (.ref b13_10_1), .val (.ref b3_13_1), .val (.ref b3), .val (.ref b13_4_1), .val (.ref b13_4_1)] [])) _
    refine XS.aload X22.here hx rfl (hb hby at_218) rfl rfl ?_
    show Steps p.tables e below (T22.setTop (mkF m 220 #[.val (.int p1), .val (.int p2), .val (.int p3), .val (.int p4), .val (.int p5), .val (.int p6), .val (.int (3 : Int32)), .val (.int (1 : Int32)), .val (.ref b13_1_1), .val (.ref b13_4_1), .val (.ref b13_7_1), .val (.ref b13_10_1), .val (.ref b3_13_1), .val (.ref b3), .val (.ref b13_4_1), .val (.ref b13_4_1)] [(.ref b13_4_1)])) _
    refine XS.aload X22.here hx rfl (hb hby at_220) rfl rfl ?_
    show Steps p.tables e below (T22.setTop (mkF m 222 #[.val (.int p1), .val (.int p2), .val (.int p3), .val (.int p4), .val (.int p5), .val (.int p6), .val (.int (3 : Int32)), .val (.int (1 : Int32)), .val (.ref b13_1_1), .val (.ref b13_4_1), .val (.ref b13_7_1), .val (.ref b13_10_1), .val (.ref b3_13_1), .val (.ref b3), .val (.ref b13_4_1), .val (.ref b13_4_1)] [(.ref b13_4_1), (.ref b13_4_1)])) _
    refine Jvm.RoadKit.acmp (g := (mkF m 222 #[.val (.int p1), .val (.int p2), .val (.int p3), .val (.int p4), .val (.int p5), .val (.int p6), .val (.int (3 : Int32)), .val (.int (1 : Int32)), .val (.ref b13_1_1), .val (.ref b13_4_1), .val (.ref b13_7_1), .val (.ref b13_10_1), .val (.ref b3_13_1), .val (.ref b3), .val (.ref b13_4_1), .val (.ref b13_4_1)] [(.ref b13_4_1), (.ref b13_4_1)])) X22 hx rfl rfl rfl (pc0 := 222) (pc' := 225) (same := true) rfl (hb hby at_222) rfl (decide_eq_true rfl) (by decide) (by decide) ?_
    show Steps p.tables e below (T22.setTop (mkF m 225 #[.val (.int p1), .val (.int p2), .val (.int p3), .val (.int p4), .val (.int p5), .val (.int p6), .val (.int (3 : Int32)), .val (.int (1 : Int32)), .val (.ref b13_1_1), .val (.ref b13_4_1), .val (.ref b13_7_1), .val (.ref b13_10_1), .val (.ref b3_13_1), .val (.ref b3), .val (.ref b13_4_1), .val (.ref b13_4_1)] [])) _
    refine XS.aload X22.here hx rfl (hb hby at_225) rfl rfl ?_
    show Steps p.tables e below (T22.setTop (mkF m 227 #[.val (.int p1), .val (.int p2), .val (.int p3), .val (.int p4), .val (.int p5), .val (.int p6), .val (.int (3 : Int32)), .val (.int (1 : Int32)), .val (.ref b13_1_1), .val (.ref b13_4_1), .val (.ref b13_7_1), .val (.ref b13_10_1), .val (.ref b3_13_1), .val (.ref b3), .val (.ref b13_4_1), .val (.ref b13_4_1)] [(.ref b3)])) _
    refine X22.arraylength hx (by rw [e22]; exact Ar23.1) (State.isArrayOf_alike hZ.alike Ar23.2.1) (g := (mkF m 227 #[.val (.int p1), .val (.int p2), .val (.int p3), .val (.int p4), .val (.int p5), .val (.int p6), .val (.int (3 : Int32)), .val (.int (1 : Int32)), .val (.ref b13_1_1), .val (.ref b13_4_1), .val (.ref b13_7_1), .val (.ref b13_10_1), .val (.ref b3_13_1), .val (.ref b3), .val (.ref b13_4_1), .val (.ref b13_4_1)] [(.ref b3)])) rfl rfl (hb hby at_227) _ ?_
    rw [len_of Sz23 Ng23]
    show Steps p.tables e below (T22.setTop (mkF m 228 #[.val (.int p1), .val (.int p2), .val (.int p3), .val (.int p4), .val (.int p5), .val (.int p6), .val (.int (3 : Int32)), .val (.int (1 : Int32)), .val (.ref b13_1_1), .val (.ref b13_4_1), .val (.ref b13_7_1), .val (.ref b13_10_1), .val (.ref b3_13_1), .val (.ref b3), .val (.ref b13_4_1), .val (.ref b13_4_1)] [(.int (3 : Int32))])) _
    refine XS.iload X22.here hx rfl (hb hby at_228) rfl ?_
    show Steps p.tables e below (T22.setTop (mkF m 230 #[.val (.int p1), .val (.int p2), .val (.int p3), .val (.int p4), .val (.int p5), .val (.int p6), .val (.int (3 : Int32)), .val (.int (1 : Int32)), .val (.ref b13_1_1), .val (.ref b13_4_1), .val (.ref b13_7_1), .val (.ref b13_10_1), .val (.ref b3_13_1), .val (.ref b3), .val (.ref b13_4_1), .val (.ref b13_4_1)] [(.int (3 : Int32)), (.int (3 : Int32))])) _
    refine XS.icmpNo X22.here hx rfl (hb hby at_230) rfl (teq (rfl : (3 : Int32) = (3 : Int32))).2 ?_
    show Steps p.tables e below (T22.setTop (mkF m 233 #[.val (.int p1), .val (.int p2), .val (.int p3), .val (.int p4), .val (.int p5), .val (.int p6), .val (.int (3 : Int32)), .val (.int (1 : Int32)), .val (.ref b13_1_1), .val (.ref b13_4_1), .val (.ref b13_7_1), .val (.ref b13_10_1), .val (.ref b3_13_1), .val (.ref b3), .val (.ref b13_4_1), .val (.ref b13_4_1)] [])) _
    refine XS.iconst X22.here hx rfl (hb hby at_233) ?_
    show Steps p.tables e below (T22.setTop (mkF m 234 #[.val (.int p1), .val (.int p2), .val (.int p3), .val (.int p4), .val (.int p5), .val (.int p6), .val (.int (3 : Int32)), .val (.int (1 : Int32)), .val (.ref b13_1_1), .val (.ref b13_4_1), .val (.ref b13_7_1), .val (.ref b13_10_1), .val (.ref b3_13_1), .val (.ref b3), .val (.ref b13_4_1), .val (.ref b13_4_1)] [(.int (1 : Int32))])) _
    refine XS.goto X22.here hx rfl (pc0 := 234) (pc' := 238) rfl (hb hby at_234) (by decide) (by decide) ?_
    show Steps p.tables e below (T22.setTop (mkF m 238 #[.val (.int p1), .val (.int p2), .val (.int p3), .val (.int p4), .val (.int p5), .val (.int p6), .val (.int (3 : Int32)), .val (.int (1 : Int32)), .val (.ref b13_1_1), .val (.ref b13_4_1), .val (.ref b13_7_1), .val (.ref b13_10_1), .val (.ref b3_13_1), .val (.ref b3), .val (.ref b13_4_1), .val (.ref b13_4_1)] [(.int (1 : Int32))])) _
    exact retN X22 hx (t := .boolean) Bd.returns (by simp) (hb hby at_238) hr
  · show own_Qlaw h0 n0 _ T22.heap _
    exact ⟨rfl, N22⟩
theorem own_eflaw32 (m : MethodId) (p1 : Int32) (p2 : Int32) (p3 : Int32) (p4 : Int32) (p5 : Int32) (p6 : Int32) : entryFrame m #[(.int p1), (.int p2), (.int p3), (.int p4), (.int p5), (.int p6)] maxLocals = mkF m 0 #[.val (.int p1), .val (.int p2), .val (.int p3), .val (.int p4), .val (.int p5), .val (.int p6), .unset, .unset, .unset, .unset, .unset, .unset, .unset, .unset, .unset, .unset] [] := by first | (simp [entryFrame, mkF, argsToLocals, Value.category, maxLocals]; done) | rfl
set_option maxRecDepth 65536 in
set_option maxHeartbeats 40000000 in
theorem own_law32 (l : Launch) (Z : State) (a0 : Array Value) (hw : ∀ d ∈ tables_1, d.before a0 Z = true) (ws : List Jvm.Cond) (G1 : Int32) (gl : own_Glob Z G1) (p1 : Int32) (p2 : Int32) (p3 : Int32) (p4 : Int32) (p5 : Int32) (p6 : Int32) (h0 : Heap) (n0 : Nat) (Z0 : n0 ≤ h0.size) (X00 : Old Z n0 h0) (hn : own_n p1 = 3) (hi : own_i p2 3 = 2) :
    MetFree l x (head1 (Jvm.Cond.code x code maxLocals ret :: ws) room_1) (fun a U => a = #[(.int p1), (.int p2), (.int p3), (.int p4), (.int p5), (.int p6)] ∧ Z.Warmed39 U.vm ∧ U.heap = h0) (fun _ _ _ _ _ => True) (fun _ U o U' => ∃ v L, o = .returned v ∧ own_Qlaw h0 n0 v U'.heap L ∧ FrameEnd U o U' L room_1.cells room_1.slots) := by
  refine MetFree.of_bodySF (plainFor_of_name own_pn6) hisR ?_
  intro p e s m args below meth c s₁ Bd hml0 hP hK
  obtain ⟨rfl, hZ, hh⟩ := hP
  obtain ⟨O_CS, P_CS⟩ := id gl
  have hx := Bd.exec
  have hby := Bd.bytes
  have hml : c.maxLocals = 16 := hml0
  have hown : s.vm.findClass "com/example/dagsverke/dagsverke/CommandLineValuePinLaw" = some m.cls := findClass_of_methodNamed Bd.named
  have hnm := (name_of_methodNamed Bd.named Bd.method).1
  have X0 : Stand p l e room_1 s m #[(.int p1), (.int p2), (.int p3), (.int p4), (.int p5), (.int p6)] below meth c s₁ [] 0 0 := Stand.of_body Bd
  have e0 : s₁.heap = h0 := by rw [← hh, Bd.state]; rfl
  have N0 := Fr.nil n0
  have pre0 : ∀ t, Steps p.tables e below (s₁.setTop (mkF m 0 #[.val (.int p1), .val (.int p2), .val (.int p3), .val (.int p4), .val (.int p5), .val (.int p6), .unset, .unset, .unset, .unset, .unset, .unset, .unset, .unset, .unset, .unset] [])) t → Steps p.tables e below (s₁.setTop (entryFrame m #[(.int p1), (.int p2), (.int p3), (.int p4), (.int p5), (.int p6)] maxLocals)) t := fun t k => castTop (own_eflaw32 m p1 p2 p3 p4 p5 p6) k
  obtain ⟨b13_1_1, b13_4_1, b13_7_1, b13_10_1, b3_13_1, t25_1_1, kb25_1_1, t25_4_1, kb25_4_1, t25_7_1, kb25_7_1, t25_10_1, kb25_10_1, b1_5_13_1, k1_5_13_1, T1, h1, L1, X1, e1, N1, Kq1, f1_0, f1_1, f1_2, f1_3, f1_4, f1_5, f1_6, f1_7, f1_8, f1_9, f1_10, f1_11, f1_12, f1_13, f1_14, f1_15, f1_16, f1_17, f1_18, f1_19, f1_20, f1_21, f1_22, f1_23, f1_24, f1_25, f1_26, f1_27, f1_28, f1_29, f1_30, f1_31, f1_32, f1_33, st1⟩ := own_seg hw G1 gl p1 p2 p3 p4 p5 p6 Z0 X00  X0 hx hZ hby hml hown e0
  have Kp2 : Keep h0 h1 [] := (Keep.refl h0 []).trans Kq1 all0
  obtain ⟨T3, h3, k3, X3, e3, E3, A3, O3, st3⟩ := newR X1 hx hZ hown (hw _ (List.mem_of_getElem? (i := 6) rfl)) (hw _ (List.mem_of_getElem? (i := 49) rfl)) e1 (g := (mkF m 116 #[.val (.int p1), .val (.int p2), .val (.int p3), .val (.int p4), .val (.int p5), .val (.int p6), .val (.int (3 : Int32)), .val (.int (own_i p2 (3 : Int32))), .val (.ref b13_1_1), .val (.ref b13_4_1), .val (.ref b13_7_1), .val (.ref b13_10_1), .val (.ref b3_13_1), .unset, .unset, .unset] [(.int (3 : Int32))])) rfl (hb hby at_116) rfl (by decide) (cap := 3) (by decide) (by decide) (by decide) (by decide)
  obtain ⟨b3, g3⟩ : ∃ z, z = h1.size := ⟨_, rfl⟩
  rw [← g3] at A3 st3
  have Kp4 : Keep h0 h3 [] := Kp2.ext E3
  have Vh5 : Arv Z h3 b3 k3 (.object "java/lang/String") (3 : Int32) [.null, .null, .null] .null := (Arv.new A3 (by decide)).pad (pad_rep [] .null 3)
  obtain ⟨cl6, Ar6, qc6, Sz6, Ng6, Hs6, Gs6⟩ := id Vh5
  have hin6 : ¬ ((0 : Int32) < 0 ∨ cl6.slots.size ≤ ((0 : Int32)).toNatClampNeg) := inb_of Sz6 ⟨(by decide), (by decide)⟩
  have Eh7 : Exa Z h3 b13_1_1 "java/lang/String" := (f1_1.ext E3)
  obtain ⟨T8, h8, X8, e8, W8, st8⟩ := stR X3 hx hZ e3 Ar6 (j := (0 : Int32)) hin6 rfl (Sto.ofV Ar6 qc6 O3 (Ins.self Eh7)) (g := (mkF m 123 #[.val (.int p1), .val (.int p2), .val (.int p3), .val (.int p4), .val (.int p5), .val (.int p6), .val (.int (3 : Int32)), .val (.int (own_i p2 (3 : Int32))), .val (.ref b13_1_1), .val (.ref b13_4_1), .val (.ref b13_7_1), .val (.ref b13_10_1), .val (.ref b3_13_1), .unset, .unset, .unset] [(.ref b13_1_1), (.int (0 : Int32)), (.ref b3), (.ref b3)])) rfl rfl (hb hby at_123)
  have Kp9 : Keep h0 h8 [] := Kp4.wr W8 (Or.inr (Nat.le_trans Kp2.1 (Nat.le_of_eq g3.symm)))
  have gh10 : n0 ≤ b3 := Nat.le_trans (Nat.le_trans Z0 Kp2.1) (Nat.le_of_eq g3.symm)
  obtain ⟨Lp8, X8, N8⟩ := own_pack X8 (Fr.snoc X8 N1 gh10)
  have Vh11 : Arv Z h8 b3 k3 (.object "java/lang/String") (3 : Int32) [(.ref b13_1_1), .null, .null] .null := (Arv.set Ar6 qc6 Sz6 Ng6 Hs6 Gs6 rfl W8 0 rfl (Nat.le_of_ble_eq_true rfl))
  obtain ⟨cl12, Ar12, qc12, Sz12, Ng12, Hs12, Gs12⟩ := id Vh11
  have hin12 : ¬ ((1 : Int32) < 0 ∨ cl12.slots.size ≤ ((1 : Int32)).toNatClampNeg) := inb_of Sz12 ⟨(by decide), (by decide)⟩
  have Eh13 : Exa Z h8 b13_4_1 "java/lang/String" := ((f1_5.ext E3).wr W8)
  obtain ⟨T14, h14, X14, e14, W14, st14⟩ := stR X8 hx hZ e8 Ar12 (j := (1 : Int32)) hin12 rfl (Sto.ofV Ar12 qc12 O3 (Ins.self Eh13)) (g := (mkF m 128 #[.val (.int p1), .val (.int p2), .val (.int p3), .val (.int p4), .val (.int p5), .val (.int p6), .val (.int (3 : Int32)), .val (.int (own_i p2 (3 : Int32))), .val (.ref b13_1_1), .val (.ref b13_4_1), .val (.ref b13_7_1), .val (.ref b13_10_1), .val (.ref b3_13_1), .unset, .unset, .unset] [(.ref b13_4_1), (.int (1 : Int32)), (.ref b3), (.ref b3)])) rfl rfl (hb hby at_128)
  have Kp15 : Keep h0 h14 [] := Kp9.wr W14 (Or.inr (Nat.le_trans Kp2.1 (Nat.le_of_eq g3.symm)))
  obtain ⟨Lp14, X14, N14⟩ := own_pack X14 (Fr.snoc X14 N8 gh10)
  have Vh16 : Arv Z h14 b3 k3 (.object "java/lang/String") (3 : Int32) [(.ref b13_1_1), (.ref b13_4_1), .null] .null := (Arv.set Ar12 qc12 Sz12 Ng12 Hs12 Gs12 rfl W14 1 rfl (Nat.le_of_ble_eq_true rfl))
  obtain ⟨cl17, Ar17, qc17, Sz17, Ng17, Hs17, Gs17⟩ := id Vh16
  have hin17 : ¬ ((2 : Int32) < 0 ∨ cl17.slots.size ≤ ((2 : Int32)).toNatClampNeg) := inb_of Sz17 ⟨(by decide), (by decide)⟩
  have Eh18 : Exa Z h14 b13_7_1 "java/lang/String" := (((f1_9.ext E3).wr W8).wr W14)
  obtain ⟨T19, h19, X19, e19, W19, st19⟩ := stR X14 hx hZ e14 Ar17 (j := (2 : Int32)) hin17 rfl (Sto.ofV Ar17 qc17 O3 (Ins.self Eh18)) (g := (mkF m 133 #[.val (.int p1), .val (.int p2), .val (.int p3), .val (.int p4), .val (.int p5), .val (.int p6), .val (.int (3 : Int32)), .val (.int (own_i p2 (3 : Int32))), .val (.ref b13_1_1), .val (.ref b13_4_1), .val (.ref b13_7_1), .val (.ref b13_10_1), .val (.ref b3_13_1), .unset, .unset, .unset] [(.ref b13_7_1), (.int (2 : Int32)), (.ref b3), (.ref b3)])) rfl rfl (hb hby at_133)
  have Kp20 : Keep h0 h19 [] := Kp15.wr W19 (Or.inr (Nat.le_trans Kp2.1 (Nat.le_of_eq g3.symm)))
  obtain ⟨Lp19, X19, N19⟩ := own_pack X19 (Fr.snoc X19 N14 gh10)
  have Vh21 : Arv Z h19 b3 k3 (.object "java/lang/String") (3 : Int32) [(.ref b13_1_1), (.ref b13_4_1), (.ref b13_7_1)] .null := (Arv.set Ar17 qc17 Sz17 Ng17 Hs17 Gs17 rfl W19 2 rfl (Nat.le_of_ble_eq_true rfl))
  obtain ⟨_, _, ⟨T22, L22, k22, n22⟩, -, X22, ⟨Lc22, hQ22, l22, y22, z22⟩, st22⟩ := Jvm.LawKit.callS X19 hx (y := (⟨"com/example/dagsverke/dagsverke/CommandLine", "value", "([Ljava/lang/String;ILjava/lang/String;)Ljava/lang/String;"⟩ : MethodName)) hown (mvT hZ (hw _ (List.mem_of_getElem? (i := 50) rfl))) (mvT hZ (hw _ (List.mem_of_getElem? (i := 51) rfl))) (mvT hZ (hw _ (List.mem_of_getElem? (i := 52) rfl))) (mvT hZ (hw _ (List.mem_of_getElem? (i := 53) rfl))) (by decide) (backOf (W := 0) (own_rm_v32 l Z a0 hw [] G1 gl b3 b3_13_1 (k3) b13_1_1 b13_4_1 b13_7_1 h19 n0 (Nat.le_trans Z0 Kp20.1) Vh21) hZ (hw _ (List.mem_of_getElem? (i := 53) rfl)) (hw _ (List.mem_of_getElem? (i := 52) rfl)) (by decide) (by decide)) (g := (mkF m 213 #[.val (.int p1), .val (.int p2), .val (.int p3), .val (.int p4), .val (.int p5), .val (.int p6), .val (.int (3 : Int32)), .val (.int (2 : Int32)), .val (.ref b13_1_1), .val (.ref b13_4_1), .val (.ref b13_7_1), .val (.ref b13_10_1), .val (.ref b3_13_1), .val (.ref b3), .val (.ref b13_7_1), .unset] [(.ref b3_13_1), (.int (2 : Int32)), (.ref b3)])) rfl (by rw [hml]; rfl) (argsL := [(.ref b3), (.int (2 : Int32)), (.ref b3_13_1)]) (rest := []) (lenOf own_pd10 rfl) rfl (by show 2 * 0 + _ ≤ _; exact Nat.le_of_eq rfl) (hb hby at_213) (fun _ _ => ⟨rfl, e19, (by decide : 15 + 0 ≤ _), (by decide : 40 + 0 ≤ _)⟩)
  dsimp only [Pt.U, Pt.locs, Pt.cells, Pt.slots] at X22 l22 y22 z22 st22 hQ22
  subst y22 z22
  obtain ⟨rfl, Nq22, e22⟩ := hQ22
  have N22 : Fr n0 L22 := by rw [l22]; exact Fr.app N19 Nq22
  obtain ⟨cl23, Ar23, -, Sz23, Ng23, -, -⟩ := id Vh21
  obtain ⟨fs, hr, hrun, hended, hW, hsame⟩ := X22.leave (v := some (.int (1 : Int32))) (fun h => by rw [Bd.returns] at h; cases h)
  refine ⟨_, _, pre0 _ ?_, hrun, hended, _, _, rfl, ?_, ⟨_, rfl⟩, hW, hsame.mono (by decide) (by decide)⟩
  · show Steps p.tables e below (s₁.setTop (mkF m 0 #[.val (.int p1), .val (.int p2), .val (.int p3), .val (.int p4), .val (.int p5), .val (.int p6), .unset, .unset, .unset, .unset, .unset, .unset, .unset, .unset, .unset, .unset] [])) _
    refine st1 _ ?_
    show Steps p.tables e below (T1.setTop (mkF m 64 #[.val (.int p1), .val (.int p2), .val (.int p3), .val (.int p4), .val (.int p5), .val (.int p6), .val (.int (own_n p1)), .val (.int (own_i p2 (own_n p1))), .val (.ref b13_1_1), .val (.ref b13_4_1), .val (.ref b13_7_1), .val (.ref b13_10_1), .val (.ref b3_13_1), .unset, .unset, .unset] [])) _
    refine XS.iload X1.here hx rfl (hb hby at_64) rfl ?_
    show Steps p.tables e below (T1.setTop (mkF m 66 #[.val (.int p1), .val (.int p2), .val (.int p3), .val (.int p4), .val (.int p5), .val (.int p6), .val (.int (own_n p1)), .val (.int (own_i p2 (own_n p1))), .val (.ref b13_1_1), .val (.ref b13_4_1), .val (.ref b13_7_1), .val (.ref b13_10_1), .val (.ref b3_13_1), .unset, .unset, .unset] [(.int (own_n p1))])) _
    rw [hn]
    show Steps p.tables e below (T1.setTop (mkF m 66 #[.val (.int p1), .val (.int p2), .val (.int p3), .val (.int p4), .val (.int p5), .val (.int p6), .val (.int (3 : Int32)), .val (.int (own_i p2 (3 : Int32))), .val (.ref b13_1_1), .val (.ref b13_4_1), .val (.ref b13_7_1), .val (.ref b13_10_1), .val (.ref b3_13_1), .unset, .unset, .unset] [(.int (3 : Int32))])) _
    refine XS.iconst X1.here hx rfl (hb hby at_66) ?_
    show Steps p.tables e below (T1.setTop (mkF m 67 #[.val (.int p1), .val (.int p2), .val (.int p3), .val (.int p4), .val (.int p5), .val (.int p6), .val (.int (3 : Int32)), .val (.int (own_i p2 (3 : Int32))), .val (.ref b13_1_1), .val (.ref b13_4_1), .val (.ref b13_7_1), .val (.ref b13_10_1), .val (.ref b3_13_1), .unset, .unset, .unset] [(.int (1 : Int32)), (.int (3 : Int32))])) _
    refine XS.icmpYes X1.here hx rfl (pc0 := 67) (pc' := 84) rfl (hb hby at_67) rfl (feq (by decide : ¬ ((3 : Int32) = (1 : Int32)))).2 (by decide) (by decide) ?_
    show Steps p.tables e below (T1.setTop (mkF m 84 #[.val (.int p1), .val (.int p2), .val (.int p3), .val (.int p4), .val (.int p5), .val (.int p6), .val (.int (3 : Int32)), .val (.int (own_i p2 (3 : Int32))), .val (.ref b13_1_1), .val (.ref b13_4_1), .val (.ref b13_7_1), .val (.ref b13_10_1), .val (.ref b3_13_1), .unset, .unset, .unset] [])) _
    refine XS.iload X1.here hx rfl (hb hby at_84) rfl ?_
    show Steps p.tables e below (T1.setTop (mkF m 86 #[.val (.int p1), .val (.int p2), .val (.int p3), .val (.int p4), .val (.int p5), .val (.int p6), .val (.int (3 : Int32)), .val (.int (own_i p2 (3 : Int32))), .val (.ref b13_1_1), .val (.ref b13_4_1), .val (.ref b13_7_1), .val (.ref b13_10_1), .val (.ref b3_13_1), .unset, .unset, .unset] [(.int (3 : Int32))])) _
    refine XS.iconst X1.here hx rfl (hb hby at_86) ?_
    show Steps p.tables e below (T1.setTop (mkF m 87 #[.val (.int p1), .val (.int p2), .val (.int p3), .val (.int p4), .val (.int p5), .val (.int p6), .val (.int (3 : Int32)), .val (.int (own_i p2 (3 : Int32))), .val (.ref b13_1_1), .val (.ref b13_4_1), .val (.ref b13_7_1), .val (.ref b13_10_1), .val (.ref b3_13_1), .unset, .unset, .unset] [(.int (2 : Int32)), (.int (3 : Int32))])) _
    refine XS.icmpYes X1.here hx rfl (pc0 := 87) (pc' := 109) rfl (hb hby at_87) rfl (feq (by decide : ¬ ((3 : Int32) = (2 : Int32)))).2 (by decide) (by decide) ?_
    show Steps p.tables e below (T1.setTop (mkF m 109 #[.val (.int p1), .val (.int p2), .val (.int p3), .val (.int p4), .val (.int p5), .val (.int p6), .val (.int (3 : Int32)), .val (.int (own_i p2 (3 : Int32))), .val (.ref b13_1_1), .val (.ref b13_4_1), .val (.ref b13_7_1), .val (.ref b13_10_1), .val (.ref b3_13_1), .unset, .unset, .unset] [])) _
    refine XS.iload X1.here hx rfl (hb hby at_109) rfl ?_
    show Steps p.tables e below (T1.setTop (mkF m 111 #[.val (.int p1), .val (.int p2), .val (.int p3), .val (.int p4), .val (.int p5), .val (.int p6), .val (.int (3 : Int32)), .val (.int (own_i p2 (3 : Int32))), .val (.ref b13_1_1), .val (.ref b13_4_1), .val (.ref b13_7_1), .val (.ref b13_10_1), .val (.ref b3_13_1), .unset, .unset, .unset] [(.int (3 : Int32))])) _
    refine XS.iconst X1.here hx rfl (hb hby at_111) ?_
    show Steps p.tables e below (T1.setTop (mkF m 112 #[.val (.int p1), .val (.int p2), .val (.int p3), .val (.int p4), .val (.int p5), .val (.int p6), .val (.int (3 : Int32)), .val (.int (own_i p2 (3 : Int32))), .val (.ref b13_1_1), .val (.ref b13_4_1), .val (.ref b13_7_1), .val (.ref b13_10_1), .val (.ref b3_13_1), .unset, .unset, .unset] [(.int (3 : Int32)), (.int (3 : Int32))])) _
    refine XS.icmpNo X1.here hx rfl (hb hby at_112) rfl (teq (rfl : (3 : Int32) = (3 : Int32))).2 ?_
    show Steps p.tables e below (T1.setTop (mkF m 115 #[.val (.int p1), .val (.int p2), .val (.int p3), .val (.int p4), .val (.int p5), .val (.int p6), .val (.int (3 : Int32)), .val (.int (own_i p2 (3 : Int32))), .val (.ref b13_1_1), .val (.ref b13_4_1), .val (.ref b13_7_1), .val (.ref b13_10_1), .val (.ref b3_13_1), .unset, .unset, .unset] [])) _
    refine XS.iconst X1.here hx rfl (hb hby at_115) ?_
    show Steps p.tables e below (T1.setTop (mkF m 116 #[.val (.int p1), .val (.int p2), .val (.int p3), .val (.int p4), .val (.int p5), .val (.int p6), .val (.int (3 : Int32)), .val (.int (own_i p2 (3 : Int32))), .val (.ref b13_1_1), .val (.ref b13_4_1), .val (.ref b13_7_1), .val (.ref b13_10_1), .val (.ref b3_13_1), .unset, .unset, .unset] [(.int (3 : Int32))])) _
    refine st3 _ ?_
    show Steps p.tables e below (T3.setTop (mkF m 119 #[.val (.int p1), .val (.int p2), .val (.int p3), .val (.int p4), .val (.int p5), .val (.int p6), .val (.int (3 : Int32)), .val (.int (own_i p2 (3 : Int32))), .val (.ref b13_1_1), .val (.ref b13_4_1), .val (.ref b13_7_1), .val (.ref b13_10_1), .val (.ref b3_13_1), .unset, .unset, .unset] [(.ref b3)])) _
    refine XS.dup X3.here hx rfl (hb hby at_119) rfl rfl ?_
    show Steps p.tables e below (T3.setTop (mkF m 120 #[.val (.int p1), .val (.int p2), .val (.int p3), .val (.int p4), .val (.int p5), .val (.int p6), .val (.int (3 : Int32)), .val (.int (own_i p2 (3 : Int32))), .val (.ref b13_1_1), .val (.ref b13_4_1), .val (.ref b13_7_1), .val (.ref b13_10_1), .val (.ref b3_13_1), .unset, .unset, .unset] [(.ref b3), (.ref b3)])) _
    refine XS.iconst X3.here hx rfl (hb hby at_120) ?_
    show Steps p.tables e below (T3.setTop (mkF m 121 #[.val (.int p1), .val (.int p2), .val (.int p3), .val (.int p4), .val (.int p5), .val (.int p6), .val (.int (3 : Int32)), .val (.int (own_i p2 (3 : Int32))), .val (.ref b13_1_1), .val (.ref b13_4_1), .val (.ref b13_7_1), .val (.ref b13_10_1), .val (.ref b3_13_1), .unset, .unset, .unset] [(.int (0 : Int32)), (.ref b3), (.ref b3)])) _
    refine XS.aload X3.here hx rfl (hb hby at_121) rfl rfl ?_
    show Steps p.tables e below (T3.setTop (mkF m 123 #[.val (.int p1), .val (.int p2), .val (.int p3), .val (.int p4), .val (.int p5), .val (.int p6), .val (.int (3 : Int32)), .val (.int (own_i p2 (3 : Int32))), .val (.ref b13_1_1), .val (.ref b13_4_1), .val (.ref b13_7_1), .val (.ref b13_10_1), .val (.ref b3_13_1), .unset, .unset, .unset] [(.ref b13_1_1), (.int (0 : Int32)), (.ref b3), (.ref b3)])) _
    refine st8 _ ?_
    show Steps p.tables e below (T8.setTop (mkF m 124 #[.val (.int p1), .val (.int p2), .val (.int p3), .val (.int p4), .val (.int p5), .val (.int p6), .val (.int (3 : Int32)), .val (.int (own_i p2 (3 : Int32))), .val (.ref b13_1_1), .val (.ref b13_4_1), .val (.ref b13_7_1), .val (.ref b13_10_1), .val (.ref b3_13_1), .unset, .unset, .unset] [(.ref b3)])) _
    refine XS.dup X8.here hx rfl (hb hby at_124) rfl rfl ?_
    show Steps p.tables e below (T8.setTop (mkF m 125 #[.val (.int p1), .val (.int p2), .val (.int p3), .val (.int p4), .val (.int p5), .val (.int p6), .val (.int (3 : Int32)), .val (.int (own_i p2 (3 : Int32))), .val (.ref b13_1_1), .val (.ref b13_4_1), .val (.ref b13_7_1), .val (.ref b13_10_1), .val (.ref b3_13_1), .unset, .unset, .unset] [(.ref b3), (.ref b3)])) _
    refine XS.iconst X8.here hx rfl (hb hby at_125) ?_
    show Steps p.tables e below (T8.setTop (mkF m 126 #[.val (.int p1), .val (.int p2), .val (.int p3), .val (.int p4), .val (.int p5), .val (.int p6), .val (.int (3 : Int32)), .val (.int (own_i p2 (3 : Int32))), .val (.ref b13_1_1), .val (.ref b13_4_1), .val (.ref b13_7_1), .val (.ref b13_10_1), .val (.ref b3_13_1), .unset, .unset, .unset] [(.int (1 : Int32)), (.ref b3), (.ref b3)])) _
    refine XS.aload X8.here hx rfl (hb hby at_126) rfl rfl ?_
    show Steps p.tables e below (T8.setTop (mkF m 128 #[.val (.int p1), .val (.int p2), .val (.int p3), .val (.int p4), .val (.int p5), .val (.int p6), .val (.int (3 : Int32)), .val (.int (own_i p2 (3 : Int32))), .val (.ref b13_1_1), .val (.ref b13_4_1), .val (.ref b13_7_1), .val (.ref b13_10_1), .val (.ref b3_13_1), .unset, .unset, .unset] [(.ref b13_4_1), (.int (1 : Int32)), (.ref b3), (.ref b3)])) _
    refine st14 _ ?_
    show Steps p.tables e below (T14.setTop (mkF m 129 #[.val (.int p1), .val (.int p2), .val (.int p3), .val (.int p4), .val (.int p5), .val (.int p6), .val (.int (3 : Int32)), .val (.int (own_i p2 (3 : Int32))), .val (.ref b13_1_1), .val (.ref b13_4_1), .val (.ref b13_7_1), .val (.ref b13_10_1), .val (.ref b3_13_1), .unset, .unset, .unset] [(.ref b3)])) _
    refine XS.dup X14.here hx rfl (hb hby at_129) rfl rfl ?_
    show Steps p.tables e below (T14.setTop (mkF m 130 #[.val (.int p1), .val (.int p2), .val (.int p3), .val (.int p4), .val (.int p5), .val (.int p6), .val (.int (3 : Int32)), .val (.int (own_i p2 (3 : Int32))), .val (.ref b13_1_1), .val (.ref b13_4_1), .val (.ref b13_7_1), .val (.ref b13_10_1), .val (.ref b3_13_1), .unset, .unset, .unset] [(.ref b3), (.ref b3)])) _
    refine XS.iconst X14.here hx rfl (hb hby at_130) ?_
    show Steps p.tables e below (T14.setTop (mkF m 131 #[.val (.int p1), .val (.int p2), .val (.int p3), .val (.int p4), .val (.int p5), .val (.int p6), .val (.int (3 : Int32)), .val (.int (own_i p2 (3 : Int32))), .val (.ref b13_1_1), .val (.ref b13_4_1), .val (.ref b13_7_1), .val (.ref b13_10_1), .val (.ref b3_13_1), .unset, .unset, .unset] [(.int (2 : Int32)), (.ref b3), (.ref b3)])) _
    refine XS.aload X14.here hx rfl (hb hby at_131) rfl rfl ?_
    show Steps p.tables e below (T14.setTop (mkF m 133 #[.val (.int p1), .val (.int p2), .val (.int p3), .val (.int p4), .val (.int p5), .val (.int p6), .val (.int (3 : Int32)), .val (.int (own_i p2 (3 : Int32))), .val (.ref b13_1_1), .val (.ref b13_4_1), .val (.ref b13_7_1), .val (.ref b13_10_1), .val (.ref b3_13_1), .unset, .unset, .unset] [(.ref b13_7_1), (.int (2 : Int32)), (.ref b3), (.ref b3)])) _
    refine st19 _ ?_
    show Steps p.tables e below (T19.setTop (mkF m 134 #[.val (.int p1), .val (.int p2), .val (.int p3), .val (.int p4), .val (.int p5), .val (.int p6), .val (.int (3 : Int32)), .val (.int (own_i p2 (3 : Int32))), .val (.ref b13_1_1), .val (.ref b13_4_1), .val (.ref b13_7_1), .val (.ref b13_10_1), .val (.ref b3_13_1), .unset, .unset, .unset] [(.ref b3)])) _
    refine XS.astore X19.here hx rfl (hb hby at_134) rfl rfl (l' := #[.val (.int p1), .val (.int p2), .val (.int p3), .val (.int p4), .val (.int p5), .val (.int p6), .val (.int (3 : Int32)), .val (.int (own_i p2 (3 : Int32))), .val (.ref b13_1_1), .val (.ref b13_4_1), .val (.ref b13_7_1), .val (.ref b13_10_1), .val (.ref b3_13_1), .val (.ref b3), .unset, .unset]) rfl ?_
    show Steps p.tables e below (T19.setTop (mkF m 136 #[.val (.int p1), .val (.int p2), .val (.int p3), .val (.int p4), .val (.int p5), .val (.int p6), .val (.int (3 : Int32)), .val (.int (own_i p2 (3 : Int32))), .val (.ref b13_1_1), .val (.ref b13_4_1), .val (.ref b13_7_1), .val (.ref b13_10_1), .val (.ref b3_13_1), .val (.ref b3), .unset, .unset] [])) _
    refine XS.goto X19.here hx rfl (pc0 := 136) (pc' := 165) rfl (hb hby at_136) (by decide) (by decide) ?_
    show Steps p.tables e below (T19.setTop (mkF m 165 #[.val (.int p1), .val (.int p2), .val (.int p3), .val (.int p4), .val (.int p5), .val (.int p6), .val (.int (3 : Int32)), .val (.int (own_i p2 (3 : Int32))), .val (.ref b13_1_1), .val (.ref b13_4_1), .val (.ref b13_7_1), .val (.ref b13_10_1), .val (.ref b3_13_1), .val (.ref b3), .unset, .unset] [])) _
    refine XS.iload X19.here hx rfl (hb hby at_165) rfl ?_
    show Steps p.tables e below (T19.setTop (mkF m 167 #[.val (.int p1), .val (.int p2), .val (.int p3), .val (.int p4), .val (.int p5), .val (.int p6), .val (.int (3 : Int32)), .val (.int (own_i p2 (3 : Int32))), .val (.ref b13_1_1), .val (.ref b13_4_1), .val (.ref b13_7_1), .val (.ref b13_10_1), .val (.ref b3_13_1), .val (.ref b3), .unset, .unset] [(.int (own_i p2 (3 : Int32)))])) _
    rw [hi]
    show Steps p.tables e below (T19.setTop (mkF m 167 #[.val (.int p1), .val (.int p2), .val (.int p3), .val (.int p4), .val (.int p5), .val (.int p6), .val (.int (3 : Int32)), .val (.int (2 : Int32)), .val (.ref b13_1_1), .val (.ref b13_4_1), .val (.ref b13_7_1), .val (.ref b13_10_1), .val (.ref b3_13_1), .val (.ref b3), .unset, .unset] [(.int (2 : Int32))])) _
    refine XS.ifYes X19.here hx rfl (pc0 := 167) (pc' := 177) rfl (hb hby at_167) rfl ((if0 _ _).trans (feq (by decide : ¬ ((2 : Int32) = (0 : Int32)))).2) (by decide) (by decide) ?_
    show Steps p.tables e below (T19.setTop (mkF m 177 #[.val (.int p1), .val (.int p2), .val (.int p3), .val (.int p4), .val (.int p5), .val (.int p6), .val (.int (3 : Int32)), .val (.int (2 : Int32)), .val (.ref b13_1_1), .val (.ref b13_4_1), .val (.ref b13_7_1), .val (.ref b13_10_1), .val (.ref b3_13_1), .val (.ref b3), .unset, .unset] [])) _
    refine XS.iload X19.here hx rfl (hb hby at_177) rfl ?_
    show Steps p.tables e below (T19.setTop (mkF m 179 #[.val (.int p1), .val (.int p2), .val (.int p3), .val (.int p4), .val (.int p5), .val (.int p6), .val (.int (3 : Int32)), .val (.int (2 : Int32)), .val (.ref b13_1_1), .val (.ref b13_4_1), .val (.ref b13_7_1), .val (.ref b13_10_1), .val (.ref b3_13_1), .val (.ref b3), .unset, .unset] [(.int (2 : Int32))])) _
    refine XS.iconst X19.here hx rfl (hb hby at_179) ?_
    show Steps p.tables e below (T19.setTop (mkF m 180 #[.val (.int p1), .val (.int p2), .val (.int p3), .val (.int p4), .val (.int p5), .val (.int p6), .val (.int (3 : Int32)), .val (.int (2 : Int32)), .val (.ref b13_1_1), .val (.ref b13_4_1), .val (.ref b13_7_1), .val (.ref b13_10_1), .val (.ref b3_13_1), .val (.ref b3), .unset, .unset] [(.int (1 : Int32)), (.int (2 : Int32))])) _
    refine XS.icmpYes X19.here hx rfl (pc0 := 180) (pc' := 190) rfl (hb hby at_180) rfl (feq (by decide : ¬ ((2 : Int32) = (1 : Int32)))).2 (by decide) (by decide) ?_
    show Steps p.tables e below (T19.setTop (mkF m 190 #[.val (.int p1), .val (.int p2), .val (.int p3), .val (.int p4), .val (.int p5), .val (.int p6), .val (.int (3 : Int32)), .val (.int (2 : Int32)), .val (.ref b13_1_1), .val (.ref b13_4_1), .val (.ref b13_7_1), .val (.ref b13_10_1), .val (.ref b3_13_1), .val (.ref b3), .unset, .unset] [])) _
    refine XS.iload X19.here hx rfl (hb hby at_190) rfl ?_
    show Steps p.tables e below (T19.setTop (mkF m 192 #[.val (.int p1), .val (.int p2), .val (.int p3), .val (.int p4), .val (.int p5), .val (.int p6), .val (.int (3 : Int32)), .val (.int (2 : Int32)), .val (.ref b13_1_1), .val (.ref b13_4_1), .val (.ref b13_7_1), .val (.ref b13_10_1), .val (.ref b3_13_1), .val (.ref b3), .unset, .unset] [(.int (2 : Int32))])) _
    refine XS.iconst X19.here hx rfl (hb hby at_192) ?_
    show Steps p.tables e below (T19.setTop (mkF m 193 #[.val (.int p1), .val (.int p2), .val (.int p3), .val (.int p4), .val (.int p5), .val (.int p6), .val (.int (3 : Int32)), .val (.int (2 : Int32)), .val (.ref b13_1_1), .val (.ref b13_4_1), .val (.ref b13_7_1), .val (.ref b13_10_1), .val (.ref b3_13_1), .val (.ref b3), .unset, .unset] [(.int (2 : Int32)), (.int (2 : Int32))])) _
    refine XS.icmpNo X19.here hx rfl (hb hby at_193) rfl (teq (rfl : (2 : Int32) = (2 : Int32))).2 ?_
    show Steps p.tables e below (T19.setTop (mkF m 196 #[.val (.int p1), .val (.int p2), .val (.int p3), .val (.int p4), .val (.int p5), .val (.int p6), .val (.int (3 : Int32)), .val (.int (2 : Int32)), .val (.ref b13_1_1), .val (.ref b13_4_1), .val (.ref b13_7_1), .val (.ref b13_10_1), .val (.ref b3_13_1), .val (.ref b3), .unset, .unset] [])) _
    refine XS.aload X19.here hx rfl (hb hby at_196) rfl rfl ?_
    show Steps p.tables e below (T19.setTop (mkF m 198 #[.val (.int p1), .val (.int p2), .val (.int p3), .val (.int p4), .val (.int p5), .val (.int p6), .val (.int (3 : Int32)), .val (.int (2 : Int32)), .val (.ref b13_1_1), .val (.ref b13_4_1), .val (.ref b13_7_1), .val (.ref b13_10_1), .val (.ref b3_13_1), .val (.ref b3), .unset, .unset] [(.ref b13_7_1)])) _
    refine XS.astore X19.here hx rfl (hb hby at_198) rfl rfl (l' := #[.val (.int p1), .val (.int p2), .val (.int p3), .val (.int p4), .val (.int p5), .val (.int p6), .val (.int (3 : Int32)), .val (.int (2 : Int32)), .val (.ref b13_1_1), .val (.ref b13_4_1), .val (.ref b13_7_1), .val (.ref b13_10_1), .val (.ref b3_13_1), .val (.ref b3), .val (.ref b13_7_1), .unset]) rfl ?_
    show Steps p.tables e below (T19.setTop (mkF m 200 #[.val (.int p1), .val (.int p2), .val (.int p3), .val (.int p4), .val (.int p5), .val (.int p6), .val (.int (3 : Int32)), .val (.int (2 : Int32)), .val (.ref b13_1_1), .val (.ref b13_4_1), .val (.ref b13_7_1), .val (.ref b13_10_1), .val (.ref b3_13_1), .val (.ref b3), .val (.ref b13_7_1), .unset] [])) _
    refine XS.goto X19.here hx rfl (pc0 := 200) (pc' := 207) rfl (hb hby at_200) (by decide) (by decide) ?_
    show Steps p.tables e below (T19.setTop (mkF m 207 #[.val (.int p1), .val (.int p2), .val (.int p3), .val (.int p4), .val (.int p5), .val (.int p6), .val (.int (3 : Int32)), .val (.int (2 : Int32)), .val (.ref b13_1_1), .val (.ref b13_4_1), .val (.ref b13_7_1), .val (.ref b13_10_1), .val (.ref b3_13_1), .val (.ref b3), .val (.ref b13_7_1), .unset] [])) _
    refine XS.aload X19.here hx rfl (hb hby at_207) rfl rfl ?_
    show Steps p.tables e below (T19.setTop (mkF m 209 #[.val (.int p1), .val (.int p2), .val (.int p3), .val (.int p4), .val (.int p5), .val (.int p6), .val (.int (3 : Int32)), .val (.int (2 : Int32)), .val (.ref b13_1_1), .val (.ref b13_4_1), .val (.ref b13_7_1), .val (.ref b13_10_1), .val (.ref b3_13_1), .val (.ref b3), .val (.ref b13_7_1), .unset] [(.ref b3)])) _
    refine XS.iload X19.here hx rfl (hb hby at_209) rfl ?_
    show Steps p.tables e below (T19.setTop (mkF m 211 #[.val (.int p1), .val (.int p2), .val (.int p3), .val (.int p4), .val (.int p5), .val (.int p6), .val (.int (3 : Int32)), .val (.int (2 : Int32)), .val (.ref b13_1_1), .val (.ref b13_4_1), .val (.ref b13_7_1), .val (.ref b13_10_1), .val (.ref b3_13_1), .val (.ref b3), .val (.ref b13_7_1), .unset] [(.int (2 : Int32)), (.ref b3)])) _
    refine XS.aload X19.here hx rfl (hb hby at_211) rfl rfl ?_
    show Steps p.tables e below (T19.setTop (mkF m 213 #[.val (.int p1), .val (.int p2), .val (.int p3), .val (.int p4), .val (.int p5), .val (.int p6), .val (.int (3 : Int32)), .val (.int (2 : Int32)), .val (.ref b13_1_1), .val (.ref b13_4_1), .val (.ref b13_7_1), .val (.ref b13_10_1), .val (.ref b3_13_1), .val (.ref b3), .val (.ref b13_7_1), .unset] [(.ref b3_13_1), (.int (2 : Int32)), (.ref b3)])) _
    refine st22 _ ?_
    show Steps p.tables e below (T22.setTop (mkF m 216 #[.val (.int p1), .val (.int p2), .val (.int p3), .val (.int p4), .val (.int p5), .val (.int p6), .val (.int (3 : Int32)), .val (.int (2 : Int32)), .val (.ref b13_1_1), .val (.ref b13_4_1), .val (.ref b13_7_1), .val (.ref b13_10_1), .val (.ref b3_13_1), .val (.ref b3), .val (.ref b13_7_1), .unset] [(.ref b13_7_1)])) _
    refine XS.astore X22.here hx rfl (hb hby at_216) rfl rfl (l' := #[.val (.int p1), .val (.int p2), .val (.int p3), .val (.int p4), .val (.int p5), .val (.int p6), .val (.int (3 : Int32)), .val (.int (2 : Int32)), .val (.ref b13_1_1), .val (.ref b13_4_1), .val (.ref b13_7_1), .val (.ref b13_10_1), .val (.ref b3_13_1), .val (.ref b3), .val (.ref b13_7_1), .val (.ref b13_7_1)]) rfl ?_
    show Steps p.tables e below (T22.setTop (mkF m 218 #[.val (.int p1), .val (.int p2), .val (.int p3), .val (.int p4), .val (.int p5), .val (.int p6), .val (.int (3 : Int32)), .val (.int (2 : Int32)), .val (.ref b13_1_1), .val (.ref b13_4_1), .val (.ref b13_7_1), .val (.ref b13_10_1), .val (.ref b3_13_1), .val (.ref b3), .val (.ref b13_7_1), .val (.ref b13_7_1)] [])) _
    refine XS.aload X22.here hx rfl (hb hby at_218) rfl rfl ?_
    show Steps p.tables e below (T22.setTop (mkF m 220 #[.val (.int p1), .val (.int p2), .val (.int p3), .val (.int p4), .val (.int p5), .val (.int p6), .val (.int (3 : Int32)), .val (.int (2 : Int32)), .val (.ref b13_1_1), .val (.ref b13_4_1), .val (.ref b13_7_1), .val (.ref b13_10_1), .val (.ref b3_13_1), .val (.ref b3), .val (.ref b13_7_1), .val (.ref b13_7_1)] [(.ref b13_7_1)])) _
    refine XS.aload X22.here hx rfl (hb hby at_220) rfl rfl ?_
    show Steps p.tables e below (T22.setTop (mkF m 222 #[.val (.int p1), .val (.int p2), .val (.int p3), .val (.int p4), .val (.int p5), .val (.int p6), .val (.int (3 : Int32)), .val (.int (2 : Int32)), .val (.ref b13_1_1), .val (.ref b13_4_1), .val (.ref b13_7_1), .val (.ref b13_10_1), .val (.ref b3_13_1), .val (.ref b3), .val (.ref b13_7_1), .val (.ref b13_7_1)] [(.ref b13_7_1), (.ref b13_7_1)])) _
    refine Jvm.RoadKit.acmp (g := (mkF m 222 #[.val (.int p1), .val (.int p2), .val (.int p3), .val (.int p4), .val (.int p5), .val (.int p6), .val (.int (3 : Int32)), .val (.int (2 : Int32)), .val (.ref b13_1_1), .val (.ref b13_4_1), .val (.ref b13_7_1), .val (.ref b13_10_1), .val (.ref b3_13_1), .val (.ref b3), .val (.ref b13_7_1), .val (.ref b13_7_1)] [(.ref b13_7_1), (.ref b13_7_1)])) X22 hx rfl rfl rfl (pc0 := 222) (pc' := 225) (same := true) rfl (hb hby at_222) rfl (decide_eq_true rfl) (by decide) (by decide) ?_
    show Steps p.tables e below (T22.setTop (mkF m 225 #[.val (.int p1), .val (.int p2), .val (.int p3), .val (.int p4), .val (.int p5), .val (.int p6), .val (.int (3 : Int32)), .val (.int (2 : Int32)), .val (.ref b13_1_1), .val (.ref b13_4_1), .val (.ref b13_7_1), .val (.ref b13_10_1), .val (.ref b3_13_1), .val (.ref b3), .val (.ref b13_7_1), .val (.ref b13_7_1)] [])) _
    refine XS.aload X22.here hx rfl (hb hby at_225) rfl rfl ?_
    show Steps p.tables e below (T22.setTop (mkF m 227 #[.val (.int p1), .val (.int p2), .val (.int p3), .val (.int p4), .val (.int p5), .val (.int p6), .val (.int (3 : Int32)), .val (.int (2 : Int32)), .val (.ref b13_1_1), .val (.ref b13_4_1), .val (.ref b13_7_1), .val (.ref b13_10_1), .val (.ref b3_13_1), .val (.ref b3), .val (.ref b13_7_1), .val (.ref b13_7_1)] [(.ref b3)])) _
    refine X22.arraylength hx (by rw [e22]; exact Ar23.1) (State.isArrayOf_alike hZ.alike Ar23.2.1) (g := (mkF m 227 #[.val (.int p1), .val (.int p2), .val (.int p3), .val (.int p4), .val (.int p5), .val (.int p6), .val (.int (3 : Int32)), .val (.int (2 : Int32)), .val (.ref b13_1_1), .val (.ref b13_4_1), .val (.ref b13_7_1), .val (.ref b13_10_1), .val (.ref b3_13_1), .val (.ref b3), .val (.ref b13_7_1), .val (.ref b13_7_1)] [(.ref b3)])) rfl rfl (hb hby at_227) _ ?_
    rw [len_of Sz23 Ng23]
    show Steps p.tables e below (T22.setTop (mkF m 228 #[.val (.int p1), .val (.int p2), .val (.int p3), .val (.int p4), .val (.int p5), .val (.int p6), .val (.int (3 : Int32)), .val (.int (2 : Int32)), .val (.ref b13_1_1), .val (.ref b13_4_1), .val (.ref b13_7_1), .val (.ref b13_10_1), .val (.ref b3_13_1), .val (.ref b3), .val (.ref b13_7_1), .val (.ref b13_7_1)] [(.int (3 : Int32))])) _
    refine XS.iload X22.here hx rfl (hb hby at_228) rfl ?_
    show Steps p.tables e below (T22.setTop (mkF m 230 #[.val (.int p1), .val (.int p2), .val (.int p3), .val (.int p4), .val (.int p5), .val (.int p6), .val (.int (3 : Int32)), .val (.int (2 : Int32)), .val (.ref b13_1_1), .val (.ref b13_4_1), .val (.ref b13_7_1), .val (.ref b13_10_1), .val (.ref b3_13_1), .val (.ref b3), .val (.ref b13_7_1), .val (.ref b13_7_1)] [(.int (3 : Int32)), (.int (3 : Int32))])) _
    refine XS.icmpNo X22.here hx rfl (hb hby at_230) rfl (teq (rfl : (3 : Int32) = (3 : Int32))).2 ?_
    show Steps p.tables e below (T22.setTop (mkF m 233 #[.val (.int p1), .val (.int p2), .val (.int p3), .val (.int p4), .val (.int p5), .val (.int p6), .val (.int (3 : Int32)), .val (.int (2 : Int32)), .val (.ref b13_1_1), .val (.ref b13_4_1), .val (.ref b13_7_1), .val (.ref b13_10_1), .val (.ref b3_13_1), .val (.ref b3), .val (.ref b13_7_1), .val (.ref b13_7_1)] [])) _
    refine XS.iconst X22.here hx rfl (hb hby at_233) ?_
    show Steps p.tables e below (T22.setTop (mkF m 234 #[.val (.int p1), .val (.int p2), .val (.int p3), .val (.int p4), .val (.int p5), .val (.int p6), .val (.int (3 : Int32)), .val (.int (2 : Int32)), .val (.ref b13_1_1), .val (.ref b13_4_1), .val (.ref b13_7_1), .val (.ref b13_10_1), .val (.ref b3_13_1), .val (.ref b3), .val (.ref b13_7_1), .val (.ref b13_7_1)] [(.int (1 : Int32))])) _
    refine XS.goto X22.here hx rfl (pc0 := 234) (pc' := 238) rfl (hb hby at_234) (by decide) (by decide) ?_
    show Steps p.tables e below (T22.setTop (mkF m 238 #[.val (.int p1), .val (.int p2), .val (.int p3), .val (.int p4), .val (.int p5), .val (.int p6), .val (.int (3 : Int32)), .val (.int (2 : Int32)), .val (.ref b13_1_1), .val (.ref b13_4_1), .val (.ref b13_7_1), .val (.ref b13_10_1), .val (.ref b3_13_1), .val (.ref b3), .val (.ref b13_7_1), .val (.ref b13_7_1)] [(.int (1 : Int32))])) _
    exact retN X22 hx (t := .boolean) Bd.returns (by simp) (hb hby at_238) hr
  · show own_Qlaw h0 n0 _ T22.heap _
    exact ⟨rfl, N22⟩
theorem own_eflaw40 (m : MethodId) (p1 : Int32) (p2 : Int32) (p3 : Int32) (p4 : Int32) (p5 : Int32) (p6 : Int32) : entryFrame m #[(.int p1), (.int p2), (.int p3), (.int p4), (.int p5), (.int p6)] maxLocals = mkF m 0 #[.val (.int p1), .val (.int p2), .val (.int p3), .val (.int p4), .val (.int p5), .val (.int p6), .unset, .unset, .unset, .unset, .unset, .unset, .unset, .unset, .unset, .unset] [] := by first | (simp [entryFrame, mkF, argsToLocals, Value.category, maxLocals]; done) | rfl
set_option maxRecDepth 65536 in
set_option maxHeartbeats 40000000 in
theorem own_law40 (l : Launch) (Z : State) (a0 : Array Value) (hw : ∀ d ∈ tables_1, d.before a0 Z = true) (ws : List Jvm.Cond) (G1 : Int32) (gl : own_Glob Z G1) (p1 : Int32) (p2 : Int32) (p3 : Int32) (p4 : Int32) (p5 : Int32) (p6 : Int32) (h0 : Heap) (n0 : Nat) (Z0 : n0 ≤ h0.size) (X00 : Old Z n0 h0) (hn : own_n p1 = 4) (hi : own_i p2 4 = 0) :
    MetFree l x (head1 (Jvm.Cond.code x code maxLocals ret :: ws) room_1) (fun a U => a = #[(.int p1), (.int p2), (.int p3), (.int p4), (.int p5), (.int p6)] ∧ Z.Warmed39 U.vm ∧ U.heap = h0) (fun _ _ _ _ _ => True) (fun _ U o U' => ∃ v L, o = .returned v ∧ own_Qlaw h0 n0 v U'.heap L ∧ FrameEnd U o U' L room_1.cells room_1.slots) := by
  refine MetFree.of_bodySF (plainFor_of_name own_pn6) hisR ?_
  intro p e s m args below meth c s₁ Bd hml0 hP hK
  obtain ⟨rfl, hZ, hh⟩ := hP
  obtain ⟨O_CS, P_CS⟩ := id gl
  have hx := Bd.exec
  have hby := Bd.bytes
  have hml : c.maxLocals = 16 := hml0
  have hown : s.vm.findClass "com/example/dagsverke/dagsverke/CommandLineValuePinLaw" = some m.cls := findClass_of_methodNamed Bd.named
  have hnm := (name_of_methodNamed Bd.named Bd.method).1
  have X0 : Stand p l e room_1 s m #[(.int p1), (.int p2), (.int p3), (.int p4), (.int p5), (.int p6)] below meth c s₁ [] 0 0 := Stand.of_body Bd
  have e0 : s₁.heap = h0 := by rw [← hh, Bd.state]; rfl
  have N0 := Fr.nil n0
  have pre0 : ∀ t, Steps p.tables e below (s₁.setTop (mkF m 0 #[.val (.int p1), .val (.int p2), .val (.int p3), .val (.int p4), .val (.int p5), .val (.int p6), .unset, .unset, .unset, .unset, .unset, .unset, .unset, .unset, .unset, .unset] [])) t → Steps p.tables e below (s₁.setTop (entryFrame m #[(.int p1), (.int p2), (.int p3), (.int p4), (.int p5), (.int p6)] maxLocals)) t := fun t k => castTop (own_eflaw40 m p1 p2 p3 p4 p5 p6) k
  obtain ⟨b13_1_1, b13_4_1, b13_7_1, b13_10_1, b3_13_1, t25_1_1, kb25_1_1, t25_4_1, kb25_4_1, t25_7_1, kb25_7_1, t25_10_1, kb25_10_1, b1_5_13_1, k1_5_13_1, T1, h1, L1, X1, e1, N1, Kq1, f1_0, f1_1, f1_2, f1_3, f1_4, f1_5, f1_6, f1_7, f1_8, f1_9, f1_10, f1_11, f1_12, f1_13, f1_14, f1_15, f1_16, f1_17, f1_18, f1_19, f1_20, f1_21, f1_22, f1_23, f1_24, f1_25, f1_26, f1_27, f1_28, f1_29, f1_30, f1_31, f1_32, f1_33, st1⟩ := own_seg hw G1 gl p1 p2 p3 p4 p5 p6 Z0 X00  X0 hx hZ hby hml hown e0
  have Kp2 : Keep h0 h1 [] := (Keep.refl h0 []).trans Kq1 all0
  obtain ⟨T3, h3, k3, X3, e3, E3, A3, O3, st3⟩ := newR X1 hx hZ hown (hw _ (List.mem_of_getElem? (i := 6) rfl)) (hw _ (List.mem_of_getElem? (i := 49) rfl)) e1 (g := (mkF m 140 #[.val (.int p1), .val (.int p2), .val (.int p3), .val (.int p4), .val (.int p5), .val (.int p6), .val (.int (4 : Int32)), .val (.int (own_i p2 (4 : Int32))), .val (.ref b13_1_1), .val (.ref b13_4_1), .val (.ref b13_7_1), .val (.ref b13_10_1), .val (.ref b3_13_1), .unset, .unset, .unset] [(.int (4 : Int32))])) rfl (hb hby at_140) rfl (by decide) (cap := 4) (by decide) (by decide) (by decide) (by decide)
  obtain ⟨b3, g3⟩ : ∃ z, z = h1.size := ⟨_, rfl⟩
  rw [← g3] at A3 st3
  have Kp4 : Keep h0 h3 [] := Kp2.ext E3
  have Vh5 : Arv Z h3 b3 k3 (.object "java/lang/String") (4 : Int32) [.null, .null, .null, .null] .null := (Arv.new A3 (by decide)).pad (pad_rep [] .null 4)
  obtain ⟨cl6, Ar6, qc6, Sz6, Ng6, Hs6, Gs6⟩ := id Vh5
  have hin6 : ¬ ((0 : Int32) < 0 ∨ cl6.slots.size ≤ ((0 : Int32)).toNatClampNeg) := inb_of Sz6 ⟨(by decide), (by decide)⟩
  have Eh7 : Exa Z h3 b13_1_1 "java/lang/String" := (f1_1.ext E3)
  obtain ⟨T8, h8, X8, e8, W8, st8⟩ := stR X3 hx hZ e3 Ar6 (j := (0 : Int32)) hin6 rfl (Sto.ofV Ar6 qc6 O3 (Ins.self Eh7)) (g := (mkF m 147 #[.val (.int p1), .val (.int p2), .val (.int p3), .val (.int p4), .val (.int p5), .val (.int p6), .val (.int (4 : Int32)), .val (.int (own_i p2 (4 : Int32))), .val (.ref b13_1_1), .val (.ref b13_4_1), .val (.ref b13_7_1), .val (.ref b13_10_1), .val (.ref b3_13_1), .unset, .unset, .unset] [(.ref b13_1_1), (.int (0 : Int32)), (.ref b3), (.ref b3)])) rfl rfl (hb hby at_147)
  have Kp9 : Keep h0 h8 [] := Kp4.wr W8 (Or.inr (Nat.le_trans Kp2.1 (Nat.le_of_eq g3.symm)))
  have gh10 : n0 ≤ b3 := Nat.le_trans (Nat.le_trans Z0 Kp2.1) (Nat.le_of_eq g3.symm)
  obtain ⟨Lp8, X8, N8⟩ := own_pack X8 (Fr.snoc X8 N1 gh10)
  have Vh11 : Arv Z h8 b3 k3 (.object "java/lang/String") (4 : Int32) [(.ref b13_1_1), .null, .null, .null] .null := (Arv.set Ar6 qc6 Sz6 Ng6 Hs6 Gs6 rfl W8 0 rfl (Nat.le_of_ble_eq_true rfl))
  obtain ⟨cl12, Ar12, qc12, Sz12, Ng12, Hs12, Gs12⟩ := id Vh11
  have hin12 : ¬ ((1 : Int32) < 0 ∨ cl12.slots.size ≤ ((1 : Int32)).toNatClampNeg) := inb_of Sz12 ⟨(by decide), (by decide)⟩
  have Eh13 : Exa Z h8 b13_4_1 "java/lang/String" := ((f1_5.ext E3).wr W8)
  obtain ⟨T14, h14, X14, e14, W14, st14⟩ := stR X8 hx hZ e8 Ar12 (j := (1 : Int32)) hin12 rfl (Sto.ofV Ar12 qc12 O3 (Ins.self Eh13)) (g := (mkF m 152 #[.val (.int p1), .val (.int p2), .val (.int p3), .val (.int p4), .val (.int p5), .val (.int p6), .val (.int (4 : Int32)), .val (.int (own_i p2 (4 : Int32))), .val (.ref b13_1_1), .val (.ref b13_4_1), .val (.ref b13_7_1), .val (.ref b13_10_1), .val (.ref b3_13_1), .unset, .unset, .unset] [(.ref b13_4_1), (.int (1 : Int32)), (.ref b3), (.ref b3)])) rfl rfl (hb hby at_152)
  have Kp15 : Keep h0 h14 [] := Kp9.wr W14 (Or.inr (Nat.le_trans Kp2.1 (Nat.le_of_eq g3.symm)))
  obtain ⟨Lp14, X14, N14⟩ := own_pack X14 (Fr.snoc X14 N8 gh10)
  have Vh16 : Arv Z h14 b3 k3 (.object "java/lang/String") (4 : Int32) [(.ref b13_1_1), (.ref b13_4_1), .null, .null] .null := (Arv.set Ar12 qc12 Sz12 Ng12 Hs12 Gs12 rfl W14 1 rfl (Nat.le_of_ble_eq_true rfl))
  obtain ⟨cl17, Ar17, qc17, Sz17, Ng17, Hs17, Gs17⟩ := id Vh16
  have hin17 : ¬ ((2 : Int32) < 0 ∨ cl17.slots.size ≤ ((2 : Int32)).toNatClampNeg) := inb_of Sz17 ⟨(by decide), (by decide)⟩
  have Eh18 : Exa Z h14 b13_7_1 "java/lang/String" := (((f1_9.ext E3).wr W8).wr W14)
  obtain ⟨T19, h19, X19, e19, W19, st19⟩ := stR X14 hx hZ e14 Ar17 (j := (2 : Int32)) hin17 rfl (Sto.ofV Ar17 qc17 O3 (Ins.self Eh18)) (g := (mkF m 157 #[.val (.int p1), .val (.int p2), .val (.int p3), .val (.int p4), .val (.int p5), .val (.int p6), .val (.int (4 : Int32)), .val (.int (own_i p2 (4 : Int32))), .val (.ref b13_1_1), .val (.ref b13_4_1), .val (.ref b13_7_1), .val (.ref b13_10_1), .val (.ref b3_13_1), .unset, .unset, .unset] [(.ref b13_7_1), (.int (2 : Int32)), (.ref b3), (.ref b3)])) rfl rfl (hb hby at_157)
  have Kp20 : Keep h0 h19 [] := Kp15.wr W19 (Or.inr (Nat.le_trans Kp2.1 (Nat.le_of_eq g3.symm)))
  obtain ⟨Lp19, X19, N19⟩ := own_pack X19 (Fr.snoc X19 N14 gh10)
  have Vh21 : Arv Z h19 b3 k3 (.object "java/lang/String") (4 : Int32) [(.ref b13_1_1), (.ref b13_4_1), (.ref b13_7_1), .null] .null := (Arv.set Ar17 qc17 Sz17 Ng17 Hs17 Gs17 rfl W19 2 rfl (Nat.le_of_ble_eq_true rfl))
  obtain ⟨cl22, Ar22, qc22, Sz22, Ng22, Hs22, Gs22⟩ := id Vh21
  have hin22 : ¬ ((3 : Int32) < 0 ∨ cl22.slots.size ≤ ((3 : Int32)).toNatClampNeg) := inb_of Sz22 ⟨(by decide), (by decide)⟩
  have Eh23 : Exa Z h19 b13_10_1 "java/lang/String" := ((((f1_13.ext E3).wr W8).wr W14).wr W19)
  obtain ⟨T24, h24, X24, e24, W24, st24⟩ := stR X19 hx hZ e19 Ar22 (j := (3 : Int32)) hin22 rfl (Sto.ofV Ar22 qc22 O3 (Ins.self Eh23)) (g := (mkF m 162 #[.val (.int p1), .val (.int p2), .val (.int p3), .val (.int p4), .val (.int p5), .val (.int p6), .val (.int (4 : Int32)), .val (.int (own_i p2 (4 : Int32))), .val (.ref b13_1_1), .val (.ref b13_4_1), .val (.ref b13_7_1), .val (.ref b13_10_1), .val (.ref b3_13_1), .unset, .unset, .unset] [(.ref b13_10_1), (.int (3 : Int32)), (.ref b3), (.ref b3)])) rfl rfl (hb hby at_162)
  have Kp25 : Keep h0 h24 [] := Kp20.wr W24 (Or.inr (Nat.le_trans Kp2.1 (Nat.le_of_eq g3.symm)))
  obtain ⟨Lp24, X24, N24⟩ := own_pack X24 (Fr.snoc X24 N19 gh10)
  have Vh26 : Arv Z h24 b3 k3 (.object "java/lang/String") (4 : Int32) [(.ref b13_1_1), (.ref b13_4_1), (.ref b13_7_1), (.ref b13_10_1)] .null := (Arv.set Ar22 qc22 Sz22 Ng22 Hs22 Gs22 rfl W24 3 rfl (Nat.le_of_ble_eq_true rfl))
  obtain ⟨_, _, ⟨T27, L27, k27, n27⟩, -, X27, ⟨Lc27, hQ27, l27, y27, z27⟩, st27⟩ := Jvm.LawKit.callS X24 hx (y := (⟨"com/example/dagsverke/dagsverke/CommandLine", "value", "([Ljava/lang/String;ILjava/lang/String;)Ljava/lang/String;"⟩ : MethodName)) hown (mvT hZ (hw _ (List.mem_of_getElem? (i := 50) rfl))) (mvT hZ (hw _ (List.mem_of_getElem? (i := 51) rfl))) (mvT hZ (hw _ (List.mem_of_getElem? (i := 52) rfl))) (mvT hZ (hw _ (List.mem_of_getElem? (i := 53) rfl))) (by decide) (backOf (W := 0) (own_rm_v40 l Z a0 hw [] G1 gl b3 b3_13_1 (k3) b13_1_1 b13_4_1 b13_7_1 b13_10_1 h24 n0 (Nat.le_trans Z0 Kp25.1) Vh26) hZ (hw _ (List.mem_of_getElem? (i := 53) rfl)) (hw _ (List.mem_of_getElem? (i := 52) rfl)) (by decide) (by decide)) (g := (mkF m 213 #[.val (.int p1), .val (.int p2), .val (.int p3), .val (.int p4), .val (.int p5), .val (.int p6), .val (.int (4 : Int32)), .val (.int (0 : Int32)), .val (.ref b13_1_1), .val (.ref b13_4_1), .val (.ref b13_7_1), .val (.ref b13_10_1), .val (.ref b3_13_1), .val (.ref b3), .val (.ref b13_1_1), .unset] [(.ref b3_13_1), (.int (0 : Int32)), (.ref b3)])) rfl (by rw [hml]; rfl) (argsL := [(.ref b3), (.int (0 : Int32)), (.ref b3_13_1)]) (rest := []) (lenOf own_pd10 rfl) rfl (by show 2 * 0 + _ ≤ _; exact Nat.le_of_eq rfl) (hb hby at_213) (fun _ _ => ⟨rfl, e24, (by decide : 15 + 0 ≤ _), (by decide : 41 + 0 ≤ _)⟩)
  dsimp only [Pt.U, Pt.locs, Pt.cells, Pt.slots] at X27 l27 y27 z27 st27 hQ27
  subst y27 z27
  obtain ⟨rfl, Nq27, e27⟩ := hQ27
  have N27 : Fr n0 L27 := by rw [l27]; exact Fr.app N24 Nq27
  obtain ⟨cl28, Ar28, -, Sz28, Ng28, -, -⟩ := id Vh26
  obtain ⟨fs, hr, hrun, hended, hW, hsame⟩ := X27.leave (v := some (.int (1 : Int32))) (fun h => by rw [Bd.returns] at h; cases h)
  refine ⟨_, _, pre0 _ ?_, hrun, hended, _, _, rfl, ?_, ⟨_, rfl⟩, hW, hsame.mono (by decide) (by decide)⟩
  · show Steps p.tables e below (s₁.setTop (mkF m 0 #[.val (.int p1), .val (.int p2), .val (.int p3), .val (.int p4), .val (.int p5), .val (.int p6), .unset, .unset, .unset, .unset, .unset, .unset, .unset, .unset, .unset, .unset] [])) _
    refine st1 _ ?_
    show Steps p.tables e below (T1.setTop (mkF m 64 #[.val (.int p1), .val (.int p2), .val (.int p3), .val (.int p4), .val (.int p5), .val (.int p6), .val (.int (own_n p1)), .val (.int (own_i p2 (own_n p1))), .val (.ref b13_1_1), .val (.ref b13_4_1), .val (.ref b13_7_1), .val (.ref b13_10_1), .val (.ref b3_13_1), .unset, .unset, .unset] [])) _
    refine XS.iload X1.here hx rfl (hb hby at_64) rfl ?_
    show Steps p.tables e below (T1.setTop (mkF m 66 #[.val (.int p1), .val (.int p2), .val (.int p3), .val (.int p4), .val (.int p5), .val (.int p6), .val (.int (own_n p1)), .val (.int (own_i p2 (own_n p1))), .val (.ref b13_1_1), .val (.ref b13_4_1), .val (.ref b13_7_1), .val (.ref b13_10_1), .val (.ref b3_13_1), .unset, .unset, .unset] [(.int (own_n p1))])) _
    rw [hn]
    show Steps p.tables e below (T1.setTop (mkF m 66 #[.val (.int p1), .val (.int p2), .val (.int p3), .val (.int p4), .val (.int p5), .val (.int p6), .val (.int (4 : Int32)), .val (.int (own_i p2 (4 : Int32))), .val (.ref b13_1_1), .val (.ref b13_4_1), .val (.ref b13_7_1), .val (.ref b13_10_1), .val (.ref b3_13_1), .unset, .unset, .unset] [(.int (4 : Int32))])) _
    refine XS.iconst X1.here hx rfl (hb hby at_66) ?_
    show Steps p.tables e below (T1.setTop (mkF m 67 #[.val (.int p1), .val (.int p2), .val (.int p3), .val (.int p4), .val (.int p5), .val (.int p6), .val (.int (4 : Int32)), .val (.int (own_i p2 (4 : Int32))), .val (.ref b13_1_1), .val (.ref b13_4_1), .val (.ref b13_7_1), .val (.ref b13_10_1), .val (.ref b3_13_1), .unset, .unset, .unset] [(.int (1 : Int32)), (.int (4 : Int32))])) _
    refine XS.icmpYes X1.here hx rfl (pc0 := 67) (pc' := 84) rfl (hb hby at_67) rfl (feq (by decide : ¬ ((4 : Int32) = (1 : Int32)))).2 (by decide) (by decide) ?_
    show Steps p.tables e below (T1.setTop (mkF m 84 #[.val (.int p1), .val (.int p2), .val (.int p3), .val (.int p4), .val (.int p5), .val (.int p6), .val (.int (4 : Int32)), .val (.int (own_i p2 (4 : Int32))), .val (.ref b13_1_1), .val (.ref b13_4_1), .val (.ref b13_7_1), .val (.ref b13_10_1), .val (.ref b3_13_1), .unset, .unset, .unset] [])) _
    refine XS.iload X1.here hx rfl (hb hby at_84) rfl ?_
    show Steps p.tables e below (T1.setTop (mkF m 86 #[.val (.int p1), .val (.int p2), .val (.int p3), .val (.int p4), .val (.int p5), .val (.int p6), .val (.int (4 : Int32)), .val (.int (own_i p2 (4 : Int32))), .val (.ref b13_1_1), .val (.ref b13_4_1), .val (.ref b13_7_1), .val (.ref b13_10_1), .val (.ref b3_13_1), .unset, .unset, .unset] [(.int (4 : Int32))])) _
    refine XS.iconst X1.here hx rfl (hb hby at_86) ?_
    show Steps p.tables e below (T1.setTop (mkF m 87 #[.val (.int p1), .val (.int p2), .val (.int p3), .val (.int p4), .val (.int p5), .val (.int p6), .val (.int (4 : Int32)), .val (.int (own_i p2 (4 : Int32))), .val (.ref b13_1_1), .val (.ref b13_4_1), .val (.ref b13_7_1), .val (.ref b13_10_1), .val (.ref b3_13_1), .unset, .unset, .unset] [(.int (2 : Int32)), (.int (4 : Int32))])) _
    refine XS.icmpYes X1.here hx rfl (pc0 := 87) (pc' := 109) rfl (hb hby at_87) rfl (feq (by decide : ¬ ((4 : Int32) = (2 : Int32)))).2 (by decide) (by decide) ?_
    show Steps p.tables e below (T1.setTop (mkF m 109 #[.val (.int p1), .val (.int p2), .val (.int p3), .val (.int p4), .val (.int p5), .val (.int p6), .val (.int (4 : Int32)), .val (.int (own_i p2 (4 : Int32))), .val (.ref b13_1_1), .val (.ref b13_4_1), .val (.ref b13_7_1), .val (.ref b13_10_1), .val (.ref b3_13_1), .unset, .unset, .unset] [])) _
    refine XS.iload X1.here hx rfl (hb hby at_109) rfl ?_
    show Steps p.tables e below (T1.setTop (mkF m 111 #[.val (.int p1), .val (.int p2), .val (.int p3), .val (.int p4), .val (.int p5), .val (.int p6), .val (.int (4 : Int32)), .val (.int (own_i p2 (4 : Int32))), .val (.ref b13_1_1), .val (.ref b13_4_1), .val (.ref b13_7_1), .val (.ref b13_10_1), .val (.ref b3_13_1), .unset, .unset, .unset] [(.int (4 : Int32))])) _
    refine XS.iconst X1.here hx rfl (hb hby at_111) ?_
    show Steps p.tables e below (T1.setTop (mkF m 112 #[.val (.int p1), .val (.int p2), .val (.int p3), .val (.int p4), .val (.int p5), .val (.int p6), .val (.int (4 : Int32)), .val (.int (own_i p2 (4 : Int32))), .val (.ref b13_1_1), .val (.ref b13_4_1), .val (.ref b13_7_1), .val (.ref b13_10_1), .val (.ref b3_13_1), .unset, .unset, .unset] [(.int (3 : Int32)), (.int (4 : Int32))])) _
    refine XS.icmpYes X1.here hx rfl (pc0 := 112) (pc' := 139) rfl (hb hby at_112) rfl (feq (by decide : ¬ ((4 : Int32) = (3 : Int32)))).2 (by decide) (by decide) ?_
    show Steps p.tables e below (T1.setTop (mkF m 139 #[.val (.int p1), .val (.int p2), .val (.int p3), .val (.int p4), .val (.int p5), .val (.int p6), .val (.int (4 : Int32)), .val (.int (own_i p2 (4 : Int32))), .val (.ref b13_1_1), .val (.ref b13_4_1), .val (.ref b13_7_1), .val (.ref b13_10_1), .val (.ref b3_13_1), .unset, .unset, .unset] [])) _
    refine XS.iconst X1.here hx rfl (hb hby at_139) ?_
    show Steps p.tables e below (T1.setTop (mkF m 140 #[.val (.int p1), .val (.int p2), .val (.int p3), .val (.int p4), .val (.int p5), .val (.int p6), .val (.int (4 : Int32)), .val (.int (own_i p2 (4 : Int32))), .val (.ref b13_1_1), .val (.ref b13_4_1), .val (.ref b13_7_1), .val (.ref b13_10_1), .val (.ref b3_13_1), .unset, .unset, .unset] [(.int (4 : Int32))])) _
    refine st3 _ ?_
    show Steps p.tables e below (T3.setTop (mkF m 143 #[.val (.int p1), .val (.int p2), .val (.int p3), .val (.int p4), .val (.int p5), .val (.int p6), .val (.int (4 : Int32)), .val (.int (own_i p2 (4 : Int32))), .val (.ref b13_1_1), .val (.ref b13_4_1), .val (.ref b13_7_1), .val (.ref b13_10_1), .val (.ref b3_13_1), .unset, .unset, .unset] [(.ref b3)])) _
    refine XS.dup X3.here hx rfl (hb hby at_143) rfl rfl ?_
    show Steps p.tables e below (T3.setTop (mkF m 144 #[.val (.int p1), .val (.int p2), .val (.int p3), .val (.int p4), .val (.int p5), .val (.int p6), .val (.int (4 : Int32)), .val (.int (own_i p2 (4 : Int32))), .val (.ref b13_1_1), .val (.ref b13_4_1), .val (.ref b13_7_1), .val (.ref b13_10_1), .val (.ref b3_13_1), .unset, .unset, .unset] [(.ref b3), (.ref b3)])) _
    refine XS.iconst X3.here hx rfl (hb hby at_144) ?_
    show Steps p.tables e below (T3.setTop (mkF m 145 #[.val (.int p1), .val (.int p2), .val (.int p3), .val (.int p4), .val (.int p5), .val (.int p6), .val (.int (4 : Int32)), .val (.int (own_i p2 (4 : Int32))), .val (.ref b13_1_1), .val (.ref b13_4_1), .val (.ref b13_7_1), .val (.ref b13_10_1), .val (.ref b3_13_1), .unset, .unset, .unset] [(.int (0 : Int32)), (.ref b3), (.ref b3)])) _
    refine XS.aload X3.here hx rfl (hb hby at_145) rfl rfl ?_
    show Steps p.tables e below (T3.setTop (mkF m 147 #[.val (.int p1), .val (.int p2), .val (.int p3), .val (.int p4), .val (.int p5), .val (.int p6), .val (.int (4 : Int32)), .val (.int (own_i p2 (4 : Int32))), .val (.ref b13_1_1), .val (.ref b13_4_1), .val (.ref b13_7_1), .val (.ref b13_10_1), .val (.ref b3_13_1), .unset, .unset, .unset] [(.ref b13_1_1), (.int (0 : Int32)), (.ref b3), (.ref b3)])) _
    refine st8 _ ?_
    show Steps p.tables e below (T8.setTop (mkF m 148 #[.val (.int p1), .val (.int p2), .val (.int p3), .val (.int p4), .val (.int p5), .val (.int p6), .val (.int (4 : Int32)), .val (.int (own_i p2 (4 : Int32))), .val (.ref b13_1_1), .val (.ref b13_4_1), .val (.ref b13_7_1), .val (.ref b13_10_1), .val (.ref b3_13_1), .unset, .unset, .unset] [(.ref b3)])) _
    refine XS.dup X8.here hx rfl (hb hby at_148) rfl rfl ?_
    show Steps p.tables e below (T8.setTop (mkF m 149 #[.val (.int p1), .val (.int p2), .val (.int p3), .val (.int p4), .val (.int p5), .val (.int p6), .val (.int (4 : Int32)), .val (.int (own_i p2 (4 : Int32))), .val (.ref b13_1_1), .val (.ref b13_4_1), .val (.ref b13_7_1), .val (.ref b13_10_1), .val (.ref b3_13_1), .unset, .unset, .unset] [(.ref b3), (.ref b3)])) _
    refine XS.iconst X8.here hx rfl (hb hby at_149) ?_
    show Steps p.tables e below (T8.setTop (mkF m 150 #[.val (.int p1), .val (.int p2), .val (.int p3), .val (.int p4), .val (.int p5), .val (.int p6), .val (.int (4 : Int32)), .val (.int (own_i p2 (4 : Int32))), .val (.ref b13_1_1), .val (.ref b13_4_1), .val (.ref b13_7_1), .val (.ref b13_10_1), .val (.ref b3_13_1), .unset, .unset, .unset] [(.int (1 : Int32)), (.ref b3), (.ref b3)])) _
    refine XS.aload X8.here hx rfl (hb hby at_150) rfl rfl ?_
    show Steps p.tables e below (T8.setTop (mkF m 152 #[.val (.int p1), .val (.int p2), .val (.int p3), .val (.int p4), .val (.int p5), .val (.int p6), .val (.int (4 : Int32)), .val (.int (own_i p2 (4 : Int32))), .val (.ref b13_1_1), .val (.ref b13_4_1), .val (.ref b13_7_1), .val (.ref b13_10_1), .val (.ref b3_13_1), .unset, .unset, .unset] [(.ref b13_4_1), (.int (1 : Int32)), (.ref b3), (.ref b3)])) _
    refine st14 _ ?_
    show Steps p.tables e below (T14.setTop (mkF m 153 #[.val (.int p1), .val (.int p2), .val (.int p3), .val (.int p4), .val (.int p5), .val (.int p6), .val (.int (4 : Int32)), .val (.int (own_i p2 (4 : Int32))), .val (.ref b13_1_1), .val (.ref b13_4_1), .val (.ref b13_7_1), .val (.ref b13_10_1), .val (.ref b3_13_1), .unset, .unset, .unset] [(.ref b3)])) _
    refine XS.dup X14.here hx rfl (hb hby at_153) rfl rfl ?_
    show Steps p.tables e below (T14.setTop (mkF m 154 #[.val (.int p1), .val (.int p2), .val (.int p3), .val (.int p4), .val (.int p5), .val (.int p6), .val (.int (4 : Int32)), .val (.int (own_i p2 (4 : Int32))), .val (.ref b13_1_1), .val (.ref b13_4_1), .val (.ref b13_7_1), .val (.ref b13_10_1), .val (.ref b3_13_1), .unset, .unset, .unset] [(.ref b3), (.ref b3)])) _
    refine XS.iconst X14.here hx rfl (hb hby at_154) ?_
    show Steps p.tables e below (T14.setTop (mkF m 155 #[.val (.int p1), .val (.int p2), .val (.int p3), .val (.int p4), .val (.int p5), .val (.int p6), .val (.int (4 : Int32)), .val (.int (own_i p2 (4 : Int32))), .val (.ref b13_1_1), .val (.ref b13_4_1), .val (.ref b13_7_1), .val (.ref b13_10_1), .val (.ref b3_13_1), .unset, .unset, .unset] [(.int (2 : Int32)), (.ref b3), (.ref b3)])) _
    refine XS.aload X14.here hx rfl (hb hby at_155) rfl rfl ?_
    show Steps p.tables e below (T14.setTop (mkF m 157 #[.val (.int p1), .val (.int p2), .val (.int p3), .val (.int p4), .val (.int p5), .val (.int p6), .val (.int (4 : Int32)), .val (.int (own_i p2 (4 : Int32))), .val (.ref b13_1_1), .val (.ref b13_4_1), .val (.ref b13_7_1), .val (.ref b13_10_1), .val (.ref b3_13_1), .unset, .unset, .unset] [(.ref b13_7_1), (.int (2 : Int32)), (.ref b3), (.ref b3)])) _
    refine st19 _ ?_
    show Steps p.tables e below (T19.setTop (mkF m 158 #[.val (.int p1), .val (.int p2), .val (.int p3), .val (.int p4), .val (.int p5), .val (.int p6), .val (.int (4 : Int32)), .val (.int (own_i p2 (4 : Int32))), .val (.ref b13_1_1), .val (.ref b13_4_1), .val (.ref b13_7_1), .val (.ref b13_10_1), .val (.ref b3_13_1), .unset, .unset, .unset] [(.ref b3)])) _
    refine XS.dup X19.here hx rfl (hb hby at_158) rfl rfl ?_
    show Steps p.tables e below (T19.setTop (mkF m 159 #[.val (.int p1), .val (.int p2), .val (.int p3), .val (.int p4), .val (.int p5), .val (.int p6), .val (.int (4 : Int32)), .val (.int (own_i p2 (4 : Int32))), .val (.ref b13_1_1), .val (.ref b13_4_1), .val (.ref b13_7_1), .val (.ref b13_10_1), .val (.ref b3_13_1), .unset, .unset, .unset] [(.ref b3), (.ref b3)])) _
    refine XS.iconst X19.here hx rfl (hb hby at_159) ?_
    show Steps p.tables e below (T19.setTop (mkF m 160 #[.val (.int p1), .val (.int p2), .val (.int p3), .val (.int p4), .val (.int p5), .val (.int p6), .val (.int (4 : Int32)), .val (.int (own_i p2 (4 : Int32))), .val (.ref b13_1_1), .val (.ref b13_4_1), .val (.ref b13_7_1), .val (.ref b13_10_1), .val (.ref b3_13_1), .unset, .unset, .unset] [(.int (3 : Int32)), (.ref b3), (.ref b3)])) _
    refine XS.aload X19.here hx rfl (hb hby at_160) rfl rfl ?_
    show Steps p.tables e below (T19.setTop (mkF m 162 #[.val (.int p1), .val (.int p2), .val (.int p3), .val (.int p4), .val (.int p5), .val (.int p6), .val (.int (4 : Int32)), .val (.int (own_i p2 (4 : Int32))), .val (.ref b13_1_1), .val (.ref b13_4_1), .val (.ref b13_7_1), .val (.ref b13_10_1), .val (.ref b3_13_1), .unset, .unset, .unset] [(.ref b13_10_1), (.int (3 : Int32)), (.ref b3), (.ref b3)])) _
    refine st24 _ ?_
    show Steps p.tables e below (T24.setTop (mkF m 163 #[.val (.int p1), .val (.int p2), .val (.int p3), .val (.int p4), .val (.int p5), .val (.int p6), .val (.int (4 : Int32)), .val (.int (own_i p2 (4 : Int32))), .val (.ref b13_1_1), .val (.ref b13_4_1), .val (.ref b13_7_1), .val (.ref b13_10_1), .val (.ref b3_13_1), .unset, .unset, .unset] [(.ref b3)])) _
    refine XS.astore X24.here hx rfl (hb hby at_163) rfl rfl (l' := #[.val (.int p1), .val (.int p2), .val (.int p3), .val (.int p4), .val (.int p5), .val (.int p6), .val (.int (4 : Int32)), .val (.int (own_i p2 (4 : Int32))), .val (.ref b13_1_1), .val (.ref b13_4_1), .val (.ref b13_7_1), .val (.ref b13_10_1), .val (.ref b3_13_1), .val (.ref b3), .unset, .unset]) rfl ?_
    show Steps p.tables e below (T24.setTop (mkF m 165 #[.val (.int p1), .val (.int p2), .val (.int p3), .val (.int p4), .val (.int p5), .val (.int p6), .val (.int (4 : Int32)), .val (.int (own_i p2 (4 : Int32))), .val (.ref b13_1_1), .val (.ref b13_4_1), .val (.ref b13_7_1), .val (.ref b13_10_1), .val (.ref b3_13_1), .val (.ref b3), .unset, .unset] [])) _
    refine XS.iload X24.here hx rfl (hb hby at_165) rfl ?_
    show Steps p.tables e below (T24.setTop (mkF m 167 #[.val (.int p1), .val (.int p2), .val (.int p3), .val (.int p4), .val (.int p5), .val (.int p6), .val (.int (4 : Int32)), .val (.int (own_i p2 (4 : Int32))), .val (.ref b13_1_1), .val (.ref b13_4_1), .val (.ref b13_7_1), .val (.ref b13_10_1), .val (.ref b3_13_1), .val (.ref b3), .unset, .unset] [(.int (own_i p2 (4 : Int32)))])) _
    rw [hi]
    show Steps p.tables e below (T24.setTop (mkF m 167 #[.val (.int p1), .val (.int p2), .val (.int p3), .val (.int p4), .val (.int p5), .val (.int p6), .val (.int (4 : Int32)), .val (.int (0 : Int32)), .val (.ref b13_1_1), .val (.ref b13_4_1), .val (.ref b13_7_1), .val (.ref b13_10_1), .val (.ref b3_13_1), .val (.ref b3), .unset, .unset] [(.int (0 : Int32))])) _
    refine XS.ifNo X24.here hx rfl (hb hby at_167) rfl ((if0 _ _).trans (teq (rfl : (0 : Int32) = (0 : Int32))).2) ?_
    show Steps p.tables e below (T24.setTop (mkF m 170 #[.val (.int p1), .val (.int p2), .val (.int p3), .val (.int p4), .val (.int p5), .val (.int p6), .val (.int (4 : Int32)), .val (.int (0 : Int32)), .val (.ref b13_1_1), .val (.ref b13_4_1), .val (.ref b13_7_1), .val (.ref b13_10_1), .val (.ref b3_13_1), .val (.ref b3), .unset, .unset] [])) _
    refine XS.aload X24.here hx rfl (hb hby at_170) rfl rfl ?_
    show Steps p.tables e below (T24.setTop (mkF m 172 #[.val (.int p1), .val (.int p2), .val (.int p3), .val (.int p4), .val (.int p5), .val (.int p6), .val (.int (4 : Int32)), .val (.int (0 : Int32)), .val (.ref b13_1_1), .val (.ref b13_4_1), .val (.ref b13_7_1), .val (.ref b13_10_1), .val (.ref b3_13_1), .val (.ref b3), .unset, .unset] [(.ref b13_1_1)])) _
    refine XS.astore X24.here hx rfl (hb hby at_172) rfl rfl (l' := #[.val (.int p1), .val (.int p2), .val (.int p3), .val (.int p4), .val (.int p5), .val (.int p6), .val (.int (4 : Int32)), .val (.int (0 : Int32)), .val (.ref b13_1_1), .val (.ref b13_4_1), .val (.ref b13_7_1), .val (.ref b13_10_1), .val (.ref b3_13_1), .val (.ref b3), .val (.ref b13_1_1), .unset]) rfl ?_
    show Steps p.tables e below (T24.setTop (mkF m 174 #[.val (.int p1), .val (.int p2), .val (.int p3), .val (.int p4), .val (.int p5), .val (.int p6), .val (.int (4 : Int32)), .val (.int (0 : Int32)), .val (.ref b13_1_1), .val (.ref b13_4_1), .val (.ref b13_7_1), .val (.ref b13_10_1), .val (.ref b3_13_1), .val (.ref b3), .val (.ref b13_1_1), .unset] [])) _
    refine XS.goto X24.here hx rfl (pc0 := 174) (pc' := 207) rfl (hb hby at_174) (by decide) (by decide) ?_
    show Steps p.tables e below (T24.setTop (mkF m 207 #[.val (.int p1), .val (.int p2), .val (.int p3), .val (.int p4), .val (.int p5), .val (.int p6), .val (.int (4 : Int32)), .val (.int (0 : Int32)), .val (.ref b13_1_1), .val (.ref b13_4_1), .val (.ref b13_7_1), .val (.ref b13_10_1), .val (.ref b3_13_1), .val (.ref b3), .val (.ref b13_1_1), .unset] [])) _
    refine XS.aload X24.here hx rfl (hb hby at_207) rfl rfl ?_
    show Steps p.tables e below (T24.setTop (mkF m 209 #[.val (.int p1), .val (.int p2), .val (.int p3), .val (.int p4), .val (.int p5), .val (.int p6), .val (.int (4 : Int32)), .val (.int (0 : Int32)), .val (.ref b13_1_1), .val (.ref b13_4_1), .val (.ref b13_7_1), .val (.ref b13_10_1), .val (.ref b3_13_1), .val (.ref b3), .val (.ref b13_1_1), .unset] [(.ref b3)])) _
    refine XS.iload X24.here hx rfl (hb hby at_209) rfl ?_
    show Steps p.tables e below (T24.setTop (mkF m 211 #[.val (.int p1), .val (.int p2), .val (.int p3), .val (.int p4), .val (.int p5), .val (.int p6), .val (.int (4 : Int32)), .val (.int (0 : Int32)), .val (.ref b13_1_1), .val (.ref b13_4_1), .val (.ref b13_7_1), .val (.ref b13_10_1), .val (.ref b3_13_1), .val (.ref b3), .val (.ref b13_1_1), .unset] [(.int (0 : Int32)), (.ref b3)])) _
    refine XS.aload X24.here hx rfl (hb hby at_211) rfl rfl ?_
    show Steps p.tables e below (T24.setTop (mkF m 213 #[.val (.int p1), .val (.int p2), .val (.int p3), .val (.int p4), .val (.int p5), .val (.int p6), .val (.int (4 : Int32)), .val (.int (0 : Int32)), .val (.ref b13_1_1), .val (.ref b13_4_1), .val (.ref b13_7_1), .val (.ref b13_10_1), .val (.ref b3_13_1), .val (.ref b3), .val (.ref b13_1_1), .unset] [(.ref b3_13_1), (.int (0 : Int32)), (.ref b3)])) _
    refine st27 _ ?_
    show Steps p.tables e below (T27.setTop (mkF m 216 #[.val (.int p1), .val (.int p2), .val (.int p3), .val (.int p4), .val (.int p5), .val (.int p6), .val (.int (4 : Int32)), .val (.int (0 : Int32)), .val (.ref b13_1_1), .val (.ref b13_4_1), .val (.ref b13_7_1), .val (.ref b13_10_1), .val (.ref b3_13_1), .val (.ref b3), .val (.ref b13_1_1), .unset] [(.ref b13_1_1)])) _
    refine XS.astore X27.here hx rfl (hb hby at_216) rfl rfl (l' := #[.val (.int p1), .val (.int p2), .val (.int p3), .val (.int p4), .val (.int p5), .val (.int p6), .val (.int (4 : Int32)), .val (.int (0 : Int32)), .val (.ref b13_1_1), .val (.ref b13_4_1), .val (.ref b13_7_1), .val (.ref b13_10_1), .val (.ref b3_13_1), .val (.ref b3), .val (.ref b13_1_1), .val (.ref b13_1_1)]) rfl ?_
    show Steps p.tables e below (T27.setTop (mkF m 218 #[.val (.int p1), .val (.int p2), .val (.int p3), .val (.int p4), .val (.int p5), .val (.int p6), .val (.int (4 : Int32)), .val (.int (0 : Int32)), .val (.ref b13_1_1), .val (.ref b13_4_1), .val (.ref b13_7_1), .val (.ref b13_10_1), .val (.ref b3_13_1), .val (.ref b3), .val (.ref b13_1_1), .val (.ref b13_1_1)] [])) _
    refine XS.aload X27.here hx rfl (hb hby at_218) rfl rfl ?_
    show Steps p.tables e below (T27.setTop (mkF m 220 #[.val (.int p1), .val (.int p2), .val (.int p3), .val (.int p4), .val (.int p5), .val (.int p6), .val (.int (4 : Int32)), .val (.int (0 : Int32)), .val (.ref b13_1_1), .val (.ref b13_4_1), .val (.ref b13_7_1), .val (.ref b13_10_1), .val (.ref b3_13_1), .val (.ref b3), .val (.ref b13_1_1), .val (.ref b13_1_1)] [(.ref b13_1_1)])) _
    refine XS.aload X27.here hx rfl (hb hby at_220) rfl rfl ?_
    show Steps p.tables e below (T27.setTop (mkF m 222 #[.val (.int p1), .val (.int p2), .val (.int p3), .val (.int p4), .val (.int p5), .val (.int p6), .val (.int (4 : Int32)), .val (.int (0 : Int32)), .val (.ref b13_1_1), .val (.ref b13_4_1), .val (.ref b13_7_1), .val (.ref b13_10_1), .val (.ref b3_13_1), .val (.ref b3), .val (.ref b13_1_1), .val (.ref b13_1_1)] [(.ref b13_1_1), (.ref b13_1_1)])) _
    refine Jvm.RoadKit.acmp (g := (mkF m 222 #[.val (.int p1), .val (.int p2), .val (.int p3), .val (.int p4), .val (.int p5), .val (.int p6), .val (.int (4 : Int32)), .val (.int (0 : Int32)), .val (.ref b13_1_1), .val (.ref b13_4_1), .val (.ref b13_7_1), .val (.ref b13_10_1), .val (.ref b3_13_1), .val (.ref b3), .val (.ref b13_1_1), .val (.ref b13_1_1)] [(.ref b13_1_1), (.ref b13_1_1)])) X27 hx rfl rfl rfl (pc0 := 222) (pc' := 225) (same := true) rfl (hb hby at_222) rfl (decide_eq_true rfl) (by decide) (by decide) ?_
    show Steps p.tables e below (T27.setTop (mkF m 225 #[.val (.int p1), .val (.int p2), .val (.int p3), .val (.int p4), .val (.int p5), .val (.int p6), .val (.int (4 : Int32)), .val (.int (0 : Int32)), .val (.ref b13_1_1), .val (.ref b13_4_1), .val (.ref b13_7_1), .val (.ref b13_10_1), .val (.ref b3_13_1), .val (.ref b3), .val (.ref b13_1_1), .val (.ref b13_1_1)] [])) _
    refine XS.aload X27.here hx rfl (hb hby at_225) rfl rfl ?_
    show Steps p.tables e below (T27.setTop (mkF m 227 #[.val (.int p1), .val (.int p2), .val (.int p3), .val (.int p4), .val (.int p5), .val (.int p6), .val (.int (4 : Int32)), .val (.int (0 : Int32)), .val (.ref b13_1_1), .val (.ref b13_4_1), .val (.ref b13_7_1), .val (.ref b13_10_1), .val (.ref b3_13_1), .val (.ref b3), .val (.ref b13_1_1), .val (.ref b13_1_1)] [(.ref b3)])) _
    refine X27.arraylength hx (by rw [e27]; exact Ar28.1) (State.isArrayOf_alike hZ.alike Ar28.2.1) (g := (mkF m 227 #[.val (.int p1), .val (.int p2), .val (.int p3), .val (.int p4), .val (.int p5), .val (.int p6), .val (.int (4 : Int32)), .val (.int (0 : Int32)), .val (.ref b13_1_1), .val (.ref b13_4_1), .val (.ref b13_7_1), .val (.ref b13_10_1), .val (.ref b3_13_1), .val (.ref b3), .val (.ref b13_1_1), .val (.ref b13_1_1)] [(.ref b3)])) rfl rfl (hb hby at_227) _ ?_
    rw [len_of Sz28 Ng28]
    show Steps p.tables e below (T27.setTop (mkF m 228 #[.val (.int p1), .val (.int p2), .val (.int p3), .val (.int p4), .val (.int p5), .val (.int p6), .val (.int (4 : Int32)), .val (.int (0 : Int32)), .val (.ref b13_1_1), .val (.ref b13_4_1), .val (.ref b13_7_1), .val (.ref b13_10_1), .val (.ref b3_13_1), .val (.ref b3), .val (.ref b13_1_1), .val (.ref b13_1_1)] [(.int (4 : Int32))])) _
    refine XS.iload X27.here hx rfl (hb hby at_228) rfl ?_
    show Steps p.tables e below (T27.setTop (mkF m 230 #[.val (.int p1), .val (.int p2), .val (.int p3), .val (.int p4), .val (.int p5), .val (.int p6), .val (.int (4 : Int32)), .val (.int (0 : Int32)), .val (.ref b13_1_1), .val (.ref b13_4_1), .val (.ref b13_7_1), .val (.ref b13_10_1), .val (.ref b3_13_1), .val (.ref b3), .val (.ref b13_1_1), .val (.ref b13_1_1)] [(.int (4 : Int32)), (.int (4 : Int32))])) _
    refine XS.icmpNo X27.here hx rfl (hb hby at_230) rfl (teq (rfl : (4 : Int32) = (4 : Int32))).2 ?_
    show Steps p.tables e below (T27.setTop (mkF m 233 #[.val (.int p1), .val (.int p2), .val (.int p3), .val (.int p4), .val (.int p5), .val (.int p6), .val (.int (4 : Int32)), .val (.int (0 : Int32)), .val (.ref b13_1_1), .val (.ref b13_4_1), .val (.ref b13_7_1), .val (.ref b13_10_1), .val (.ref b3_13_1), .val (.ref b3), .val (.ref b13_1_1), .val (.ref b13_1_1)] [])) _
    refine XS.iconst X27.here hx rfl (hb hby at_233) ?_
    show Steps p.tables e below (T27.setTop (mkF m 234 #[.val (.int p1), .val (.int p2), .val (.int p3), .val (.int p4), .val (.int p5), .val (.int p6), .val (.int (4 : Int32)), .val (.int (0 : Int32)), .val (.ref b13_1_1), .val (.ref b13_4_1), .val (.ref b13_7_1), .val (.ref b13_10_1), .val (.ref b3_13_1), .val (.ref b3), .val (.ref b13_1_1), .val (.ref b13_1_1)] [(.int (1 : Int32))])) _
    refine XS.goto X27.here hx rfl (pc0 := 234) (pc' := 238) rfl (hb hby at_234) (by decide) (by decide) ?_
    show Steps p.tables e below (T27.setTop (mkF m 238 #[.val (.int p1), .val (.int p2), .val (.int p3), .val (.int p4), .val (.int p5), .val (.int p6), .val (.int (4 : Int32)), .val (.int (0 : Int32)), .val (.ref b13_1_1), .val (.ref b13_4_1), .val (.ref b13_7_1), .val (.ref b13_10_1), .val (.ref b3_13_1), .val (.ref b3), .val (.ref b13_1_1), .val (.ref b13_1_1)] [(.int (1 : Int32))])) _
    exact retN X27 hx (t := .boolean) Bd.returns (by simp) (hb hby at_238) hr
  · show own_Qlaw h0 n0 _ T27.heap _
    exact ⟨rfl, N27⟩
theorem own_eflaw41 (m : MethodId) (p1 : Int32) (p2 : Int32) (p3 : Int32) (p4 : Int32) (p5 : Int32) (p6 : Int32) : entryFrame m #[(.int p1), (.int p2), (.int p3), (.int p4), (.int p5), (.int p6)] maxLocals = mkF m 0 #[.val (.int p1), .val (.int p2), .val (.int p3), .val (.int p4), .val (.int p5), .val (.int p6), .unset, .unset, .unset, .unset, .unset, .unset, .unset, .unset, .unset, .unset] [] := by first | (simp [entryFrame, mkF, argsToLocals, Value.category, maxLocals]; done) | rfl
set_option maxRecDepth 65536 in
set_option maxHeartbeats 40000000 in
theorem own_law41 (l : Launch) (Z : State) (a0 : Array Value) (hw : ∀ d ∈ tables_1, d.before a0 Z = true) (ws : List Jvm.Cond) (G1 : Int32) (gl : own_Glob Z G1) (p1 : Int32) (p2 : Int32) (p3 : Int32) (p4 : Int32) (p5 : Int32) (p6 : Int32) (h0 : Heap) (n0 : Nat) (Z0 : n0 ≤ h0.size) (X00 : Old Z n0 h0) (hn : own_n p1 = 4) (hi : own_i p2 4 = 1) :
    MetFree l x (head1 (Jvm.Cond.code x code maxLocals ret :: ws) room_1) (fun a U => a = #[(.int p1), (.int p2), (.int p3), (.int p4), (.int p5), (.int p6)] ∧ Z.Warmed39 U.vm ∧ U.heap = h0) (fun _ _ _ _ _ => True) (fun _ U o U' => ∃ v L, o = .returned v ∧ own_Qlaw h0 n0 v U'.heap L ∧ FrameEnd U o U' L room_1.cells room_1.slots) := by
  refine MetFree.of_bodySF (plainFor_of_name own_pn6) hisR ?_
  intro p e s m args below meth c s₁ Bd hml0 hP hK
  obtain ⟨rfl, hZ, hh⟩ := hP
  obtain ⟨O_CS, P_CS⟩ := id gl
  have hx := Bd.exec
  have hby := Bd.bytes
  have hml : c.maxLocals = 16 := hml0
  have hown : s.vm.findClass "com/example/dagsverke/dagsverke/CommandLineValuePinLaw" = some m.cls := findClass_of_methodNamed Bd.named
  have hnm := (name_of_methodNamed Bd.named Bd.method).1
  have X0 : Stand p l e room_1 s m #[(.int p1), (.int p2), (.int p3), (.int p4), (.int p5), (.int p6)] below meth c s₁ [] 0 0 := Stand.of_body Bd
  have e0 : s₁.heap = h0 := by rw [← hh, Bd.state]; rfl
  have N0 := Fr.nil n0
  have pre0 : ∀ t, Steps p.tables e below (s₁.setTop (mkF m 0 #[.val (.int p1), .val (.int p2), .val (.int p3), .val (.int p4), .val (.int p5), .val (.int p6), .unset, .unset, .unset, .unset, .unset, .unset, .unset, .unset, .unset, .unset] [])) t → Steps p.tables e below (s₁.setTop (entryFrame m #[(.int p1), (.int p2), (.int p3), (.int p4), (.int p5), (.int p6)] maxLocals)) t := fun t k => castTop (own_eflaw41 m p1 p2 p3 p4 p5 p6) k
  obtain ⟨b13_1_1, b13_4_1, b13_7_1, b13_10_1, b3_13_1, t25_1_1, kb25_1_1, t25_4_1, kb25_4_1, t25_7_1, kb25_7_1, t25_10_1, kb25_10_1, b1_5_13_1, k1_5_13_1, T1, h1, L1, X1, e1, N1, Kq1, f1_0, f1_1, f1_2, f1_3, f1_4, f1_5, f1_6, f1_7, f1_8, f1_9, f1_10, f1_11, f1_12, f1_13, f1_14, f1_15, f1_16, f1_17, f1_18, f1_19, f1_20, f1_21, f1_22, f1_23, f1_24, f1_25, f1_26, f1_27, f1_28, f1_29, f1_30, f1_31, f1_32, f1_33, st1⟩ := own_seg hw G1 gl p1 p2 p3 p4 p5 p6 Z0 X00  X0 hx hZ hby hml hown e0
  have Kp2 : Keep h0 h1 [] := (Keep.refl h0 []).trans Kq1 all0
  obtain ⟨T3, h3, k3, X3, e3, E3, A3, O3, st3⟩ := newR X1 hx hZ hown (hw _ (List.mem_of_getElem? (i := 6) rfl)) (hw _ (List.mem_of_getElem? (i := 49) rfl)) e1 (g := (mkF m 140 #[.val (.int p1), .val (.int p2), .val (.int p3), .val (.int p4), .val (.int p5), .val (.int p6), .val (.int (4 : Int32)), .val (.int (own_i p2 (4 : Int32))), .val (.ref b13_1_1), .val (.ref b13_4_1), .val (.ref b13_7_1), .val (.ref b13_10_1), .val (.ref b3_13_1), .unset, .unset, .unset] [(.int (4 : Int32))])) rfl (hb hby at_140) rfl (by decide) (cap := 4) (by decide) (by decide) (by decide) (by decide)
  obtain ⟨b3, g3⟩ : ∃ z, z = h1.size := ⟨_, rfl⟩
  rw [← g3] at A3 st3
  have Kp4 : Keep h0 h3 [] := Kp2.ext E3
  have Vh5 : Arv Z h3 b3 k3 (.object "java/lang/String") (4 : Int32) [.null, .null, .null, .null] .null := (Arv.new A3 (by decide)).pad (pad_rep [] .null 4)
  obtain ⟨cl6, Ar6, qc6, Sz6, Ng6, Hs6, Gs6⟩ := id Vh5
  have hin6 : ¬ ((0 : Int32) < 0 ∨ cl6.slots.size ≤ ((0 : Int32)).toNatClampNeg) := inb_of Sz6 ⟨(by decide), (by decide)⟩
  have Eh7 : Exa Z h3 b13_1_1 "java/lang/String" := (f1_1.ext E3)
  obtain ⟨T8, h8, X8, e8, W8, st8⟩ := stR X3 hx hZ e3 Ar6 (j := (0 : Int32)) hin6 rfl (Sto.ofV Ar6 qc6 O3 (Ins.self Eh7)) (g := (mkF m 147 #[.val (.int p1), .val (.int p2), .val (.int p3), .val (.int p4), .val (.int p5), .val (.int p6), .val (.int (4 : Int32)), .val (.int (own_i p2 (4 : Int32))), .val (.ref b13_1_1), .val (.ref b13_4_1), .val (.ref b13_7_1), .val (.ref b13_10_1), .val (.ref b3_13_1), .unset, .unset, .unset] [(.ref b13_1_1), (.int (0 : Int32)), (.ref b3), (.ref b3)])) rfl rfl (hb hby at_147)
  have Kp9 : Keep h0 h8 [] := Kp4.wr W8 (Or.inr (Nat.le_trans Kp2.1 (Nat.le_of_eq g3.symm)))
  have gh10 : n0 ≤ b3 := Nat.le_trans (Nat.le_trans Z0 Kp2.1) (Nat.le_of_eq g3.symm)
  obtain ⟨Lp8, X8, N8⟩ := own_pack X8 (Fr.snoc X8 N1 gh10)
  have Vh11 : Arv Z h8 b3 k3 (.object "java/lang/String") (4 : Int32) [(.ref b13_1_1), .null, .null, .null] .null := (Arv.set Ar6 qc6 Sz6 Ng6 Hs6 Gs6 rfl W8 0 rfl (Nat.le_of_ble_eq_true rfl))
  obtain ⟨cl12, Ar12, qc12, Sz12, Ng12, Hs12, Gs12⟩ := id Vh11
  have hin12 : ¬ ((1 : Int32) < 0 ∨ cl12.slots.size ≤ ((1 : Int32)).toNatClampNeg) := inb_of Sz12 ⟨(by decide), (by decide)⟩
  have Eh13 : Exa Z h8 b13_4_1 "java/lang/String" := ((f1_5.ext E3).wr W8)
  obtain ⟨T14, h14, X14, e14, W14, st14⟩ := stR X8 hx hZ e8 Ar12 (j := (1 : Int32)) hin12 rfl (Sto.ofV Ar12 qc12 O3 (Ins.self Eh13)) (g := (mkF m 152 #[.val (.int p1), .val (.int p2), .val (.int p3), .val (.int p4), .val (.int p5), .val (.int p6), .val (.int (4 : Int32)), .val (.int (own_i p2 (4 : Int32))), .val (.ref b13_1_1), .val (.ref b13_4_1), .val (.ref b13_7_1), .val (.ref b13_10_1), .val (.ref b3_13_1), .unset, .unset, .unset] [(.ref b13_4_1), (.int (1 : Int32)), (.ref b3), (.ref b3)])) rfl rfl (hb hby at_152)
  have Kp15 : Keep h0 h14 [] := Kp9.wr W14 (Or.inr (Nat.le_trans Kp2.1 (Nat.le_of_eq g3.symm)))
  obtain ⟨Lp14, X14, N14⟩ := own_pack X14 (Fr.snoc X14 N8 gh10)
  have Vh16 : Arv Z h14 b3 k3 (.object "java/lang/String") (4 : Int32) [(.ref b13_1_1), (.ref b13_4_1), .null, .null] .null := (Arv.set Ar12 qc12 Sz12 Ng12 Hs12 Gs12 rfl W14 1 rfl (Nat.le_of_ble_eq_true rfl))
  obtain ⟨cl17, Ar17, qc17, Sz17, Ng17, Hs17, Gs17⟩ := id Vh16
  have hin17 : ¬ ((2 : Int32) < 0 ∨ cl17.slots.size ≤ ((2 : Int32)).toNatClampNeg) := inb_of Sz17 ⟨(by decide), (by decide)⟩
  have Eh18 : Exa Z h14 b13_7_1 "java/lang/String" := (((f1_9.ext E3).wr W8).wr W14)
  obtain ⟨T19, h19, X19, e19, W19, st19⟩ := stR X14 hx hZ e14 Ar17 (j := (2 : Int32)) hin17 rfl (Sto.ofV Ar17 qc17 O3 (Ins.self Eh18)) (g := (mkF m 157 #[.val (.int p1), .val (.int p2), .val (.int p3), .val (.int p4), .val (.int p5), .val (.int p6), .val (.int (4 : Int32)), .val (.int (own_i p2 (4 : Int32))), .val (.ref b13_1_1), .val (.ref b13_4_1), .val (.ref b13_7_1), .val (.ref b13_10_1), .val (.ref b3_13_1), .unset, .unset, .unset] [(.ref b13_7_1), (.int (2 : Int32)), (.ref b3), (.ref b3)])) rfl rfl (hb hby at_157)
  have Kp20 : Keep h0 h19 [] := Kp15.wr W19 (Or.inr (Nat.le_trans Kp2.1 (Nat.le_of_eq g3.symm)))
  obtain ⟨Lp19, X19, N19⟩ := own_pack X19 (Fr.snoc X19 N14 gh10)
  have Vh21 : Arv Z h19 b3 k3 (.object "java/lang/String") (4 : Int32) [(.ref b13_1_1), (.ref b13_4_1), (.ref b13_7_1), .null] .null := (Arv.set Ar17 qc17 Sz17 Ng17 Hs17 Gs17 rfl W19 2 rfl (Nat.le_of_ble_eq_true rfl))
  obtain ⟨cl22, Ar22, qc22, Sz22, Ng22, Hs22, Gs22⟩ := id Vh21
  have hin22 : ¬ ((3 : Int32) < 0 ∨ cl22.slots.size ≤ ((3 : Int32)).toNatClampNeg) := inb_of Sz22 ⟨(by decide), (by decide)⟩
  have Eh23 : Exa Z h19 b13_10_1 "java/lang/String" := ((((f1_13.ext E3).wr W8).wr W14).wr W19)
  obtain ⟨T24, h24, X24, e24, W24, st24⟩ := stR X19 hx hZ e19 Ar22 (j := (3 : Int32)) hin22 rfl (Sto.ofV Ar22 qc22 O3 (Ins.self Eh23)) (g := (mkF m 162 #[.val (.int p1), .val (.int p2), .val (.int p3), .val (.int p4), .val (.int p5), .val (.int p6), .val (.int (4 : Int32)), .val (.int (own_i p2 (4 : Int32))), .val (.ref b13_1_1), .val (.ref b13_4_1), .val (.ref b13_7_1), .val (.ref b13_10_1), .val (.ref b3_13_1), .unset, .unset, .unset] [(.ref b13_10_1), (.int (3 : Int32)), (.ref b3), (.ref b3)])) rfl rfl (hb hby at_162)
  have Kp25 : Keep h0 h24 [] := Kp20.wr W24 (Or.inr (Nat.le_trans Kp2.1 (Nat.le_of_eq g3.symm)))
  obtain ⟨Lp24, X24, N24⟩ := own_pack X24 (Fr.snoc X24 N19 gh10)
  have Vh26 : Arv Z h24 b3 k3 (.object "java/lang/String") (4 : Int32) [(.ref b13_1_1), (.ref b13_4_1), (.ref b13_7_1), (.ref b13_10_1)] .null := (Arv.set Ar22 qc22 Sz22 Ng22 Hs22 Gs22 rfl W24 3 rfl (Nat.le_of_ble_eq_true rfl))
  obtain ⟨_, _, ⟨T27, L27, k27, n27⟩, -, X27, ⟨Lc27, hQ27, l27, y27, z27⟩, st27⟩ := Jvm.LawKit.callS X24 hx (y := (⟨"com/example/dagsverke/dagsverke/CommandLine", "value", "([Ljava/lang/String;ILjava/lang/String;)Ljava/lang/String;"⟩ : MethodName)) hown (mvT hZ (hw _ (List.mem_of_getElem? (i := 50) rfl))) (mvT hZ (hw _ (List.mem_of_getElem? (i := 51) rfl))) (mvT hZ (hw _ (List.mem_of_getElem? (i := 52) rfl))) (mvT hZ (hw _ (List.mem_of_getElem? (i := 53) rfl))) (by decide) (backOf (W := 0) (own_rm_v41 l Z a0 hw [] G1 gl b3 b3_13_1 (k3) b13_1_1 b13_4_1 b13_7_1 b13_10_1 h24 n0 (Nat.le_trans Z0 Kp25.1) Vh26) hZ (hw _ (List.mem_of_getElem? (i := 53) rfl)) (hw _ (List.mem_of_getElem? (i := 52) rfl)) (by decide) (by decide)) (g := (mkF m 213 #[.val (.int p1), .val (.int p2), .val (.int p3), .val (.int p4), .val (.int p5), .val (.int p6), .val (.int (4 : Int32)), .val (.int (1 : Int32)), .val (.ref b13_1_1), .val (.ref b13_4_1), .val (.ref b13_7_1), .val (.ref b13_10_1), .val (.ref b3_13_1), .val (.ref b3), .val (.ref b13_4_1), .unset] [(.ref b3_13_1), (.int (1 : Int32)), (.ref b3)])) rfl (by rw [hml]; rfl) (argsL := [(.ref b3), (.int (1 : Int32)), (.ref b3_13_1)]) (rest := []) (lenOf own_pd10 rfl) rfl (by show 2 * 0 + _ ≤ _; exact Nat.le_of_eq rfl) (hb hby at_213) (fun _ _ => ⟨rfl, e24, (by decide : 15 + 0 ≤ _), (by decide : 41 + 0 ≤ _)⟩)
  dsimp only [Pt.U, Pt.locs, Pt.cells, Pt.slots] at X27 l27 y27 z27 st27 hQ27
  subst y27 z27
  obtain ⟨rfl, Nq27, e27⟩ := hQ27
  have N27 : Fr n0 L27 := by rw [l27]; exact Fr.app N24 Nq27
  obtain ⟨cl28, Ar28, -, Sz28, Ng28, -, -⟩ := id Vh26
  obtain ⟨fs, hr, hrun, hended, hW, hsame⟩ := X27.leave (v := some (.int (1 : Int32))) (fun h => by rw [Bd.returns] at h; cases h)
  refine ⟨_, _, pre0 _ ?_, hrun, hended, _, _, rfl, ?_, ⟨_, rfl⟩, hW, hsame.mono (by decide) (by decide)⟩
  · show Steps p.tables e below (s₁.setTop (mkF m 0 #[.val (.int p1), .val (.int p2), .val (.int p3), .val (.int p4), .val (.int p5), .val (.int p6), .unset, .unset, .unset, .unset, .unset, .unset, .unset, .unset, .unset, .unset] [])) _
    refine st1 _ ?_
    show Steps p.tables e below (T1.setTop (mkF m 64 #[.val (.int p1), .val (.int p2), .val (.int p3), .val (.int p4), .val (.int p5), .val (.int p6), .val (.int (own_n p1)), .val (.int (own_i p2 (own_n p1))), .val (.ref b13_1_1), .val (.ref b13_4_1), .val (.ref b13_7_1), .val (.ref b13_10_1), .val (.ref b3_13_1), .unset, .unset, .unset] [])) _
    refine XS.iload X1.here hx rfl (hb hby at_64) rfl ?_
    show Steps p.tables e below (T1.setTop (mkF m 66 #[.val (.int p1), .val (.int p2), .val (.int p3), .val (.int p4), .val (.int p5), .val (.int p6), .val (.int (own_n p1)), .val (.int (own_i p2 (own_n p1))), .val (.ref b13_1_1), .val (.ref b13_4_1), .val (.ref b13_7_1), .val (.ref b13_10_1), .val (.ref b3_13_1), .unset, .unset, .unset] [(.int (own_n p1))])) _
    rw [hn]
    show Steps p.tables e below (T1.setTop (mkF m 66 #[.val (.int p1), .val (.int p2), .val (.int p3), .val (.int p4), .val (.int p5), .val (.int p6), .val (.int (4 : Int32)), .val (.int (own_i p2 (4 : Int32))), .val (.ref b13_1_1), .val (.ref b13_4_1), .val (.ref b13_7_1), .val (.ref b13_10_1), .val (.ref b3_13_1), .unset, .unset, .unset] [(.int (4 : Int32))])) _
    refine XS.iconst X1.here hx rfl (hb hby at_66) ?_
    show Steps p.tables e below (T1.setTop (mkF m 67 #[.val (.int p1), .val (.int p2), .val (.int p3), .val (.int p4), .val (.int p5), .val (.int p6), .val (.int (4 : Int32)), .val (.int (own_i p2 (4 : Int32))), .val (.ref b13_1_1), .val (.ref b13_4_1), .val (.ref b13_7_1), .val (.ref b13_10_1), .val (.ref b3_13_1), .unset, .unset, .unset] [(.int (1 : Int32)), (.int (4 : Int32))])) _
    refine XS.icmpYes X1.here hx rfl (pc0 := 67) (pc' := 84) rfl (hb hby at_67) rfl (feq (by decide : ¬ ((4 : Int32) = (1 : Int32)))).2 (by decide) (by decide) ?_
    show Steps p.tables e below (T1.setTop (mkF m 84 #[.val (.int p1), .val (.int p2), .val (.int p3), .val (.int p4), .val (.int p5), .val (.int p6), .val (.int (4 : Int32)), .val (.int (own_i p2 (4 : Int32))), .val (.ref b13_1_1), .val (.ref b13_4_1), .val (.ref b13_7_1), .val (.ref b13_10_1), .val (.ref b3_13_1), .unset, .unset, .unset] [])) _
    refine XS.iload X1.here hx rfl (hb hby at_84) rfl ?_
    show Steps p.tables e below (T1.setTop (mkF m 86 #[.val (.int p1), .val (.int p2), .val (.int p3), .val (.int p4), .val (.int p5), .val (.int p6), .val (.int (4 : Int32)), .val (.int (own_i p2 (4 : Int32))), .val (.ref b13_1_1), .val (.ref b13_4_1), .val (.ref b13_7_1), .val (.ref b13_10_1), .val (.ref b3_13_1), .unset, .unset, .unset] [(.int (4 : Int32))])) _
    refine XS.iconst X1.here hx rfl (hb hby at_86) ?_
    show Steps p.tables e below (T1.setTop (mkF m 87 #[.val (.int p1), .val (.int p2), .val (.int p3), .val (.int p4), .val (.int p5), .val (.int p6), .val (.int (4 : Int32)), .val (.int (own_i p2 (4 : Int32))), .val (.ref b13_1_1), .val (.ref b13_4_1), .val (.ref b13_7_1), .val (.ref b13_10_1), .val (.ref b3_13_1), .unset, .unset, .unset] [(.int (2 : Int32)), (.int (4 : Int32))])) _
    refine XS.icmpYes X1.here hx rfl (pc0 := 87) (pc' := 109) rfl (hb hby at_87) rfl (feq (by decide : ¬ ((4 : Int32) = (2 : Int32)))).2 (by decide) (by decide) ?_
    show Steps p.tables e below (T1.setTop (mkF m 109 #[.val (.int p1), .val (.int p2), .val (.int p3), .val (.int p4), .val (.int p5), .val (.int p6), .val (.int (4 : Int32)), .val (.int (own_i p2 (4 : Int32))), .val (.ref b13_1_1), .val (.ref b13_4_1), .val (.ref b13_7_1), .val (.ref b13_10_1), .val (.ref b3_13_1), .unset, .unset, .unset] [])) _
    refine XS.iload X1.here hx rfl (hb hby at_109) rfl ?_
    show Steps p.tables e below (T1.setTop (mkF m 111 #[.val (.int p1), .val (.int p2), .val (.int p3), .val (.int p4), .val (.int p5), .val (.int p6), .val (.int (4 : Int32)), .val (.int (own_i p2 (4 : Int32))), .val (.ref b13_1_1), .val (.ref b13_4_1), .val (.ref b13_7_1), .val (.ref b13_10_1), .val (.ref b3_13_1), .unset, .unset, .unset] [(.int (4 : Int32))])) _
    refine XS.iconst X1.here hx rfl (hb hby at_111) ?_
    show Steps p.tables e below (T1.setTop (mkF m 112 #[.val (.int p1), .val (.int p2), .val (.int p3), .val (.int p4), .val (.int p5), .val (.int p6), .val (.int (4 : Int32)), .val (.int (own_i p2 (4 : Int32))), .val (.ref b13_1_1), .val (.ref b13_4_1), .val (.ref b13_7_1), .val (.ref b13_10_1), .val (.ref b3_13_1), .unset, .unset, .unset] [(.int (3 : Int32)), (.int (4 : Int32))])) _
    refine XS.icmpYes X1.here hx rfl (pc0 := 112) (pc' := 139) rfl (hb hby at_112) rfl (feq (by decide : ¬ ((4 : Int32) = (3 : Int32)))).2 (by decide) (by decide) ?_
    show Steps p.tables e below (T1.setTop (mkF m 139 #[.val (.int p1), .val (.int p2), .val (.int p3), .val (.int p4), .val (.int p5), .val (.int p6), .val (.int (4 : Int32)), .val (.int (own_i p2 (4 : Int32))), .val (.ref b13_1_1), .val (.ref b13_4_1), .val (.ref b13_7_1), .val (.ref b13_10_1), .val (.ref b3_13_1), .unset, .unset, .unset] [])) _
    refine XS.iconst X1.here hx rfl (hb hby at_139) ?_
    show Steps p.tables e below (T1.setTop (mkF m 140 #[.val (.int p1), .val (.int p2), .val (.int p3), .val (.int p4), .val (.int p5), .val (.int p6), .val (.int (4 : Int32)), .val (.int (own_i p2 (4 : Int32))), .val (.ref b13_1_1), .val (.ref b13_4_1), .val (.ref b13_7_1), .val (.ref b13_10_1), .val (.ref b3_13_1), .unset, .unset, .unset] [(.int (4 : Int32))])) _
    refine st3 _ ?_
    show Steps p.tables e below (T3.setTop (mkF m 143 #[.val (.int p1), .val (.int p2), .val (.int p3), .val (.int p4), .val (.int p5), .val (.int p6), .val (.int (4 : Int32)), .val (.int (own_i p2 (4 : Int32))), .val (.ref b13_1_1), .val (.ref b13_4_1), .val (.ref b13_7_1), .val (.ref b13_10_1), .val (.ref b3_13_1), .unset, .unset, .unset] [(.ref b3)])) _
    refine XS.dup X3.here hx rfl (hb hby at_143) rfl rfl ?_
    show Steps p.tables e below (T3.setTop (mkF m 144 #[.val (.int p1), .val (.int p2), .val (.int p3), .val (.int p4), .val (.int p5), .val (.int p6), .val (.int (4 : Int32)), .val (.int (own_i p2 (4 : Int32))), .val (.ref b13_1_1), .val (.ref b13_4_1), .val (.ref b13_7_1), .val (.ref b13_10_1), .val (.ref b3_13_1), .unset, .unset, .unset] [(.ref b3), (.ref b3)])) _
    refine XS.iconst X3.here hx rfl (hb hby at_144) ?_
    show Steps p.tables e below (T3.setTop (mkF m 145 #[.val (.int p1), .val (.int p2), .val (.int p3), .val (.int p4), .val (.int p5), .val (.int p6), .val (.int (4 : Int32)), .val (.int (own_i p2 (4 : Int32))), .val (.ref b13_1_1), .val (.ref b13_4_1), .val (.ref b13_7_1), .val (.ref b13_10_1), .val (.ref b3_13_1), .unset, .unset, .unset] [(.int (0 : Int32)), (.ref b3), (.ref b3)])) _
    refine XS.aload X3.here hx rfl (hb hby at_145) rfl rfl ?_
    show Steps p.tables e below (T3.setTop (mkF m 147 #[.val (.int p1), .val (.int p2), .val (.int p3), .val (.int p4), .val (.int p5), .val (.int p6), .val (.int (4 : Int32)), .val (.int (own_i p2 (4 : Int32))), .val (.ref b13_1_1), .val (.ref b13_4_1), .val (.ref b13_7_1), .val (.ref b13_10_1), .val (.ref b3_13_1), .unset, .unset, .unset] [(.ref b13_1_1), (.int (0 : Int32)), (.ref b3), (.ref b3)])) _
    refine st8 _ ?_
    show Steps p.tables e below (T8.setTop (mkF m 148 #[.val (.int p1), .val (.int p2), .val (.int p3), .val (.int p4), .val (.int p5), .val (.int p6), .val (.int (4 : Int32)), .val (.int (own_i p2 (4 : Int32))), .val (.ref b13_1_1), .val (.ref b13_4_1), .val (.ref b13_7_1), .val (.ref b13_10_1), .val (.ref b3_13_1), .unset, .unset, .unset] [(.ref b3)])) _
    refine XS.dup X8.here hx rfl (hb hby at_148) rfl rfl ?_
    show Steps p.tables e below (T8.setTop (mkF m 149 #[.val (.int p1), .val (.int p2), .val (.int p3), .val (.int p4), .val (.int p5), .val (.int p6), .val (.int (4 : Int32)), .val (.int (own_i p2 (4 : Int32))), .val (.ref b13_1_1), .val (.ref b13_4_1), .val (.ref b13_7_1), .val (.ref b13_10_1), .val (.ref b3_13_1), .unset, .unset, .unset] [(.ref b3), (.ref b3)])) _
    refine XS.iconst X8.here hx rfl (hb hby at_149) ?_
    show Steps p.tables e below (T8.setTop (mkF m 150 #[.val (.int p1), .val (.int p2), .val (.int p3), .val (.int p4), .val (.int p5), .val (.int p6), .val (.int (4 : Int32)), .val (.int (own_i p2 (4 : Int32))), .val (.ref b13_1_1), .val (.ref b13_4_1), .val (.ref b13_7_1), .val (.ref b13_10_1), .val (.ref b3_13_1), .unset, .unset, .unset] [(.int (1 : Int32)), (.ref b3), (.ref b3)])) _
    refine XS.aload X8.here hx rfl (hb hby at_150) rfl rfl ?_
    show Steps p.tables e below (T8.setTop (mkF m 152 #[.val (.int p1), .val (.int p2), .val (.int p3), .val (.int p4), .val (.int p5), .val (.int p6), .val (.int (4 : Int32)), .val (.int (own_i p2 (4 : Int32))), .val (.ref b13_1_1), .val (.ref b13_4_1), .val (.ref b13_7_1), .val (.ref b13_10_1), .val (.ref b3_13_1), .unset, .unset, .unset] [(.ref b13_4_1), (.int (1 : Int32)), (.ref b3), (.ref b3)])) _
    refine st14 _ ?_
    show Steps p.tables e below (T14.setTop (mkF m 153 #[.val (.int p1), .val (.int p2), .val (.int p3), .val (.int p4), .val (.int p5), .val (.int p6), .val (.int (4 : Int32)), .val (.int (own_i p2 (4 : Int32))), .val (.ref b13_1_1), .val (.ref b13_4_1), .val (.ref b13_7_1), .val (.ref b13_10_1), .val (.ref b3_13_1), .unset, .unset, .unset] [(.ref b3)])) _
    refine XS.dup X14.here hx rfl (hb hby at_153) rfl rfl ?_
    show Steps p.tables e below (T14.setTop (mkF m 154 #[.val (.int p1), .val (.int p2), .val (.int p3), .val (.int p4), .val (.int p5), .val (.int p6), .val (.int (4 : Int32)), .val (.int (own_i p2 (4 : Int32))), .val (.ref b13_1_1), .val (.ref b13_4_1), .val (.ref b13_7_1), .val (.ref b13_10_1), .val (.ref b3_13_1), .unset, .unset, .unset] [(.ref b3), (.ref b3)])) _
    refine XS.iconst X14.here hx rfl (hb hby at_154) ?_
    show Steps p.tables e below (T14.setTop (mkF m 155 #[.val (.int p1), .val (.int p2), .val (.int p3), .val (.int p4), .val (.int p5), .val (.int p6), .val (.int (4 : Int32)), .val (.int (own_i p2 (4 : Int32))), .val (.ref b13_1_1), .val (.ref b13_4_1), .val (.ref b13_7_1), .val (.ref b13_10_1), .val (.ref b3_13_1), .unset, .unset, .unset] [(.int (2 : Int32)), (.ref b3), (.ref b3)])) _
    refine XS.aload X14.here hx rfl (hb hby at_155) rfl rfl ?_
    show Steps p.tables e below (T14.setTop (mkF m 157 #[.val (.int p1), .val (.int p2), .val (.int p3), .val (.int p4), .val (.int p5), .val (.int p6), .val (.int (4 : Int32)), .val (.int (own_i p2 (4 : Int32))), .val (.ref b13_1_1), .val (.ref b13_4_1), .val (.ref b13_7_1), .val (.ref b13_10_1), .val (.ref b3_13_1), .unset, .unset, .unset] [(.ref b13_7_1), (.int (2 : Int32)), (.ref b3), (.ref b3)])) _
    refine st19 _ ?_
    show Steps p.tables e below (T19.setTop (mkF m 158 #[.val (.int p1), .val (.int p2), .val (.int p3), .val (.int p4), .val (.int p5), .val (.int p6), .val (.int (4 : Int32)), .val (.int (own_i p2 (4 : Int32))), .val (.ref b13_1_1), .val (.ref b13_4_1), .val (.ref b13_7_1), .val (.ref b13_10_1), .val (.ref b3_13_1), .unset, .unset, .unset] [(.ref b3)])) _
    refine XS.dup X19.here hx rfl (hb hby at_158) rfl rfl ?_
    show Steps p.tables e below (T19.setTop (mkF m 159 #[.val (.int p1), .val (.int p2), .val (.int p3), .val (.int p4), .val (.int p5), .val (.int p6), .val (.int (4 : Int32)), .val (.int (own_i p2 (4 : Int32))), .val (.ref b13_1_1), .val (.ref b13_4_1), .val (.ref b13_7_1), .val (.ref b13_10_1), .val (.ref b3_13_1), .unset, .unset, .unset] [(.ref b3), (.ref b3)])) _
    refine XS.iconst X19.here hx rfl (hb hby at_159) ?_
    show Steps p.tables e below (T19.setTop (mkF m 160 #[.val (.int p1), .val (.int p2), .val (.int p3), .val (.int p4), .val (.int p5), .val (.int p6), .val (.int (4 : Int32)), .val (.int (own_i p2 (4 : Int32))), .val (.ref b13_1_1), .val (.ref b13_4_1), .val (.ref b13_7_1), .val (.ref b13_10_1), .val (.ref b3_13_1), .unset, .unset, .unset] [(.int (3 : Int32)), (.ref b3), (.ref b3)])) _
    refine XS.aload X19.here hx rfl (hb hby at_160) rfl rfl ?_
    show Steps p.tables e below (T19.setTop (mkF m 162 #[.val (.int p1), .val (.int p2), .val (.int p3), .val (.int p4), .val (.int p5), .val (.int p6), .val (.int (4 : Int32)), .val (.int (own_i p2 (4 : Int32))), .val (.ref b13_1_1), .val (.ref b13_4_1), .val (.ref b13_7_1), .val (.ref b13_10_1), .val (.ref b3_13_1), .unset, .unset, .unset] [(.ref b13_10_1), (.int (3 : Int32)), (.ref b3), (.ref b3)])) _
    refine st24 _ ?_
    show Steps p.tables e below (T24.setTop (mkF m 163 #[.val (.int p1), .val (.int p2), .val (.int p3), .val (.int p4), .val (.int p5), .val (.int p6), .val (.int (4 : Int32)), .val (.int (own_i p2 (4 : Int32))), .val (.ref b13_1_1), .val (.ref b13_4_1), .val (.ref b13_7_1), .val (.ref b13_10_1), .val (.ref b3_13_1), .unset, .unset, .unset] [(.ref b3)])) _
    refine XS.astore X24.here hx rfl (hb hby at_163) rfl rfl (l' := #[.val (.int p1), .val (.int p2), .val (.int p3), .val (.int p4), .val (.int p5), .val (.int p6), .val (.int (4 : Int32)), .val (.int (own_i p2 (4 : Int32))), .val (.ref b13_1_1), .val (.ref b13_4_1), .val (.ref b13_7_1), .val (.ref b13_10_1), .val (.ref b3_13_1), .val (.ref b3), .unset, .unset]) rfl ?_
    show Steps p.tables e below (T24.setTop (mkF m 165 #[.val (.int p1), .val (.int p2), .val (.int p3), .val (.int p4), .val (.int p5), .val (.int p6), .val (.int (4 : Int32)), .val (.int (own_i p2 (4 : Int32))), .val (.ref b13_1_1), .val (.ref b13_4_1), .val (.ref b13_7_1), .val (.ref b13_10_1), .val (.ref b3_13_1), .val (.ref b3), .unset, .unset] [])) _
    refine XS.iload X24.here hx rfl (hb hby at_165) rfl ?_
    show Steps p.tables e below (T24.setTop (mkF m 167 #[.val (.int p1), .val (.int p2), .val (.int p3), .val (.int p4), .val (.int p5), .val (.int p6), .val (.int (4 : Int32)), .val (.int (own_i p2 (4 : Int32))), .val (.ref b13_1_1), .val (.ref b13_4_1), .val (.ref b13_7_1), .val (.ref b13_10_1), .val (.ref b3_13_1), .val (.ref b3), .unset, .unset] [(.int (own_i p2 (4 : Int32)))])) _
    rw [hi]
    show Steps p.tables e below (T24.setTop (mkF m 167 #[.val (.int p1), .val (.int p2), .val (.int p3), .val (.int p4), .val (.int p5), .val (.int p6), .val (.int (4 : Int32)), .val (.int (1 : Int32)), .val (.ref b13_1_1), .val (.ref b13_4_1), .val (.ref b13_7_1), .val (.ref b13_10_1), .val (.ref b3_13_1), .val (.ref b3), .unset, .unset] [(.int (1 : Int32))])) _
    refine XS.ifYes X24.here hx rfl (pc0 := 167) (pc' := 177) rfl (hb hby at_167) rfl ((if0 _ _).trans (feq (by decide : ¬ ((1 : Int32) = (0 : Int32)))).2) (by decide) (by decide) ?_
    show Steps p.tables e below (T24.setTop (mkF m 177 #[.val (.int p1), .val (.int p2), .val (.int p3), .val (.int p4), .val (.int p5), .val (.int p6), .val (.int (4 : Int32)), .val (.int (1 : Int32)), .val (.ref b13_1_1), .val (.ref b13_4_1), .val (.ref b13_7_1), .val (.ref b13_10_1), .val (.ref b3_13_1), .val (.ref b3), .unset, .unset] [])) _
    refine XS.iload X24.here hx rfl (hb hby at_177) rfl ?_
    show Steps p.tables e below (T24.setTop (mkF m 179 #[.val (.int p1), .val (.int p2), .val (.int p3), .val (.int p4), .val (.int p5), .val (.int p6), .val (.int (4 : Int32)), .val (.int (1 : Int32)), .val (.ref b13_1_1), .val (.ref b13_4_1), .val (.ref b13_7_1), .val (.ref b13_10_1), .val (.ref b3_13_1), .val (.ref b3), .unset, .unset] [(.int (1 : Int32))])) _
    refine XS.iconst X24.here hx rfl (hb hby at_179) ?_
    show Steps p.tables e below (T24.setTop (mkF m 180 #[.val (.int p1), .val (.int p2), .val (.int p3), .val (.int p4), .val (.int p5), .val (.int p6), .val (.int (4 : Int32)), .val (.int (1 : Int32)), .val (.ref b13_1_1), .val (.ref b13_4_1), .val (.ref b13_7_1), .val (.ref b13_10_1), .val (.ref b3_13_1), .val (.ref b3), .unset, .unset] [(.int (1 : Int32)), (.int (1 : Int32))])) _
    refine XS.icmpNo X24.here hx rfl (hb hby at_180) rfl (teq (rfl : (1 : Int32) = (1 : Int32))).2 ?_
    show Steps p.tables e below (T24.setTop (mkF m 183 #[.val (.int p1), .val (.int p2), .val (.int p3), .val (.int p4), .val (.int p5), .val (.int p6), .val (.int (4 : Int32)), .val (.int (1 : Int32)), .val (.ref b13_1_1), .val (.ref b13_4_1), .val (.ref b13_7_1), .val (.ref b13_10_1), .val (.ref b3_13_1), .val (.ref b3), .unset, .unset] [])) _
    refine XS.aload X24.here hx rfl (hb hby at_183) rfl rfl ?_
    show Steps p.tables e below (T24.setTop (mkF m 185 #[.val (.int p1), .val (.int p2), .val (.int p3), .val (.int p4), .val (.int p5), .val (.int p6), .val (.int (4 : Int32)), .val (.int (1 : Int32)), .val (.ref b13_1_1), .val (.ref b13_4_1), .val (.ref b13_7_1), .val (.ref b13_10_1), .val (.ref b3_13_1), .val (.ref b3), .unset, .unset] [(.ref b13_4_1)])) _
    refine XS.astore X24.here hx rfl (hb hby at_185) rfl rfl (l' := #[.val (.int p1), .val (.int p2), .val (.int p3), .val (.int p4), .val (.int p5), .val (.int p6), .val (.int (4 : Int32)), .val (.int (1 : Int32)), .val (.ref b13_1_1), .val (.ref b13_4_1), .val (.ref b13_7_1), .val (.ref b13_10_1), .val (.ref b3_13_1), .val (.ref b3), .val (.ref b13_4_1), .unset]) rfl ?_
    show Steps p.tables e below (T24.setTop (mkF m 187 #[.val (.int p1), .val (.int p2), .val (.int p3), .val (.int p4), .val (.int p5), .val (.int p6), .val (.int (4 : Int32)), .val (.int (1 : Int32)), .val (.ref b13_1_1), .val (.ref b13_4_1), .val (.ref b13_7_1), .val (.ref b13_10_1), .val (.ref b3_13_1), .val (.ref b3), .val (.ref b13_4_1), .unset] [])) _
    refine XS.goto X24.here hx rfl (pc0 := 187) (pc' := 207) rfl (hb hby at_187) (by decide) (by decide) ?_
    show Steps p.tables e below (T24.setTop (mkF m 207 #[.val (.int p1), .val (.int p2), .val (.int p3), .val (.int p4), .val (.int p5), .val (.int p6), .val (.int (4 : Int32)), .val (.int (1 : Int32)), .val (.ref b13_1_1), .val (.ref b13_4_1), .val (.ref b13_7_1), .val (.ref b13_10_1), .val (.ref b3_13_1), .val (.ref b3), .val (.ref b13_4_1), .unset] [])) _
    refine XS.aload X24.here hx rfl (hb hby at_207) rfl rfl ?_
    show Steps p.tables e below (T24.setTop (mkF m 209 #[.val (.int p1), .val (.int p2), .val (.int p3), .val (.int p4), .val (.int p5), .val (.int p6), .val (.int (4 : Int32)), .val (.int (1 : Int32)), .val (.ref b13_1_1), .val (.ref b13_4_1), .val (.ref b13_7_1), .val (.ref b13_10_1), .val (.ref b3_13_1), .val (.ref b3), .val (.ref b13_4_1), .unset] [(.ref b3)])) _
    refine XS.iload X24.here hx rfl (hb hby at_209) rfl ?_
    show Steps p.tables e below (T24.setTop (mkF m 211 #[.val (.int p1), .val (.int p2), .val (.int p3), .val (.int p4), .val (.int p5), .val (.int p6), .val (.int (4 : Int32)), .val (.int (1 : Int32)), .val (.ref b13_1_1), .val (.ref b13_4_1), .val (.ref b13_7_1), .val (.ref b13_10_1), .val (.ref b3_13_1), .val (.ref b3), .val (.ref b13_4_1), .unset] [(.int (1 : Int32)), (.ref b3)])) _
    refine XS.aload X24.here hx rfl (hb hby at_211) rfl rfl ?_
    show Steps p.tables e below (T24.setTop (mkF m 213 #[.val (.int p1), .val (.int p2), .val (.int p3), .val (.int p4), .val (.int p5), .val (.int p6), .val (.int (4 : Int32)), .val (.int (1 : Int32)), .val (.ref b13_1_1), .val (.ref b13_4_1), .val (.ref b13_7_1), .val (.ref b13_10_1), .val (.ref b3_13_1), .val (.ref b3), .val (.ref b13_4_1), .unset] [(.ref b3_13_1), (.int (1 : Int32)), (.ref b3)])) _
    refine st27 _ ?_
    show Steps p.tables e below (T27.setTop (mkF m 216 #[.val (.int p1), .val (.int p2), .val (.int p3), .val (.int p4), .val (.int p5), .val (.int p6), .val (.int (4 : Int32)), .val (.int (1 : Int32)), .val (.ref b13_1_1), .val (.ref b13_4_1), .val (.ref b13_7_1), .val (.ref b13_10_1), .val (.ref b3_13_1), .val (.ref b3), .val (.ref b13_4_1), .unset] [(.ref b13_4_1)])) _
    refine XS.astore X27.here hx rfl (hb hby at_216) rfl rfl (l' := #[.val (.int p1), .val (.int p2), .val (.int p3), .val (.int p4), .val (.int p5), .val (.int p6), .val (.int (4 : Int32)), .val (.int (1 : Int32)), .val (.ref b13_1_1), .val (.ref b13_4_1), .val (.ref b13_7_1), .val (.ref b13_10_1), .val (.ref b3_13_1), .val (.ref b3), .val (.ref b13_4_1), .val (.ref b13_4_1)]) rfl ?_
    show Steps p.tables e below (T27.setTop (mkF m 218 #[.val (.int p1), .val (.int p2), .val (.int p3), .val (.int p4), .val (.int p5), .val (.int p6), .val (.int (4 : Int32)), .val (.int (1 : Int32)), .val (.ref b13_1_1), .val (.ref b13_4_1), .val (.ref b13_7_1), .val (.ref b13_10_1), .val (.ref b3_13_1), .val (.ref b3), .val (.ref b13_4_1), .val (.ref b13_4_1)] [])) _
    refine XS.aload X27.here hx rfl (hb hby at_218) rfl rfl ?_
    show Steps p.tables e below (T27.setTop (mkF m 220 #[.val (.int p1), .val (.int p2), .val (.int p3), .val (.int p4), .val (.int p5), .val (.int p6), .val (.int (4 : Int32)), .val (.int (1 : Int32)), .val (.ref b13_1_1), .val (.ref b13_4_1), .val (.ref b13_7_1), .val (.ref b13_10_1), .val (.ref b3_13_1), .val (.ref b3), .val (.ref b13_4_1), .val (.ref b13_4_1)] [(.ref b13_4_1)])) _
    refine XS.aload X27.here hx rfl (hb hby at_220) rfl rfl ?_
    show Steps p.tables e below (T27.setTop (mkF m 222 #[.val (.int p1), .val (.int p2), .val (.int p3), .val (.int p4), .val (.int p5), .val (.int p6), .val (.int (4 : Int32)), .val (.int (1 : Int32)), .val (.ref b13_1_1), .val (.ref b13_4_1), .val (.ref b13_7_1), .val (.ref b13_10_1), .val (.ref b3_13_1), .val (.ref b3), .val (.ref b13_4_1), .val (.ref b13_4_1)] [(.ref b13_4_1), (.ref b13_4_1)])) _
    refine Jvm.RoadKit.acmp (g := (mkF m 222 #[.val (.int p1), .val (.int p2), .val (.int p3), .val (.int p4), .val (.int p5), .val (.int p6), .val (.int (4 : Int32)), .val (.int (1 : Int32)), .val (.ref b13_1_1), .val (.ref b13_4_1), .val (.ref b13_7_1), .val (.ref b13_10_1), .val (.ref b3_13_1), .val (.ref b3), .val (.ref b13_4_1), .val (.ref b13_4_1)] [(.ref b13_4_1), (.ref b13_4_1)])) X27 hx rfl rfl rfl (pc0 := 222) (pc' := 225) (same := true) rfl (hb hby at_222) rfl (decide_eq_true rfl) (by decide) (by decide) ?_
    show Steps p.tables e below (T27.setTop (mkF m 225 #[.val (.int p1), .val (.int p2), .val (.int p3), .val (.int p4), .val (.int p5), .val (.int p6), .val (.int (4 : Int32)), .val (.int (1 : Int32)), .val (.ref b13_1_1), .val (.ref b13_4_1), .val (.ref b13_7_1), .val (.ref b13_10_1), .val (.ref b3_13_1), .val (.ref b3), .val (.ref b13_4_1), .val (.ref b13_4_1)] [])) _
    refine XS.aload X27.here hx rfl (hb hby at_225) rfl rfl ?_
    show Steps p.tables e below (T27.setTop (mkF m 227 #[.val (.int p1), .val (.int p2), .val (.int p3), .val (.int p4), .val (.int p5), .val (.int p6), .val (.int (4 : Int32)), .val (.int (1 : Int32)), .val (.ref b13_1_1), .val (.ref b13_4_1), .val (.ref b13_7_1), .val (.ref b13_10_1), .val (.ref b3_13_1), .val (.ref b3), .val (.ref b13_4_1), .val (.ref b13_4_1)] [(.ref b3)])) _
    refine X27.arraylength hx (by rw [e27]; exact Ar28.1) (State.isArrayOf_alike hZ.alike Ar28.2.1) (g := (mkF m 227 #[.val (.int p1), .val (.int p2), .val (.int p3), .val (.int p4), .val (.int p5), .val (.int p6), .val (.int (4 : Int32)), .val (.int (1 : Int32)), .val (.ref b13_1_1), .val (.ref b13_4_1), .val (.ref b13_7_1), .val (.ref b13_10_1), .val (.ref b3_13_1), .val (.ref b3), .val (.ref b13_4_1), .val (.ref b13_4_1)] [(.ref b3)])) rfl rfl (hb hby at_227) _ ?_
    rw [len_of Sz28 Ng28]
    show Steps p.tables e below (T27.setTop (mkF m 228 #[.val (.int p1), .val (.int p2), .val (.int p3), .val (.int p4), .val (.int p5), .val (.int p6), .val (.int (4 : Int32)), .val (.int (1 : Int32)), .val (.ref b13_1_1), .val (.ref b13_4_1), .val (.ref b13_7_1), .val (.ref b13_10_1), .val (.ref b3_13_1), .val (.ref b3), .val (.ref b13_4_1), .val (.ref b13_4_1)] [(.int (4 : Int32))])) _
    refine XS.iload X27.here hx rfl (hb hby at_228) rfl ?_
    show Steps p.tables e below (T27.setTop (mkF m 230 #[.val (.int p1), .val (.int p2), .val (.int p3), .val (.int p4), .val (.int p5), .val (.int p6), .val (.int (4 : Int32)), .val (.int (1 : Int32)), .val (.ref b13_1_1), .val (.ref b13_4_1), .val (.ref b13_7_1), .val (.ref b13_10_1), .val (.ref b3_13_1), .val (.ref b3), .val (.ref b13_4_1), .val (.ref b13_4_1)] [(.int (4 : Int32)), (.int (4 : Int32))])) _
    refine XS.icmpNo X27.here hx rfl (hb hby at_230) rfl (teq (rfl : (4 : Int32) = (4 : Int32))).2 ?_
    show Steps p.tables e below (T27.setTop (mkF m 233 #[.val (.int p1), .val (.int p2), .val (.int p3), .val (.int p4), .val (.int p5), .val (.int p6), .val (.int (4 : Int32)), .val (.int (1 : Int32)), .val (.ref b13_1_1), .val (.ref b13_4_1), .val (.ref b13_7_1), .val (.ref b13_10_1), .val (.ref b3_13_1), .val (.ref b3), .val (.ref b13_4_1), .val (.ref b13_4_1)] [])) _
    refine XS.iconst X27.here hx rfl (hb hby at_233) ?_
    show Steps p.tables e below (T27.setTop (mkF m 234 #[.val (.int p1), .val (.int p2), .val (.int p3), .val (.int p4), .val (.int p5), .val (.int p6), .val (.int (4 : Int32)), .val (.int (1 : Int32)), .val (.ref b13_1_1), .val (.ref b13_4_1), .val (.ref b13_7_1), .val (.ref b13_10_1), .val (.ref b3_13_1), .val (.ref b3), .val (.ref b13_4_1), .val (.ref b13_4_1)] [(.int (1 : Int32))])) _
    refine XS.goto X27.here hx rfl (pc0 := 234) (pc' := 238) rfl (hb hby at_234) (by decide) (by decide) ?_
    show Steps p.tables e below (T27.setTop (mkF m 238 #[.val (.int p1), .val (.int p2), .val (.int p3), .val (.int p4), .val (.int p5), .val (.int p6), .val (.int (4 : Int32)), .val (.int (1 : Int32)), .val (.ref b13_1_1), .val (.ref b13_4_1), .val (.ref b13_7_1), .val (.ref b13_10_1), .val (.ref b3_13_1), .val (.ref b3), .val (.ref b13_4_1), .val (.ref b13_4_1)] [(.int (1 : Int32))])) _
    exact retN X27 hx (t := .boolean) Bd.returns (by simp) (hb hby at_238) hr
  · show own_Qlaw h0 n0 _ T27.heap _
    exact ⟨rfl, N27⟩
theorem own_eflaw42 (m : MethodId) (p1 : Int32) (p2 : Int32) (p3 : Int32) (p4 : Int32) (p5 : Int32) (p6 : Int32) : entryFrame m #[(.int p1), (.int p2), (.int p3), (.int p4), (.int p5), (.int p6)] maxLocals = mkF m 0 #[.val (.int p1), .val (.int p2), .val (.int p3), .val (.int p4), .val (.int p5), .val (.int p6), .unset, .unset, .unset, .unset, .unset, .unset, .unset, .unset, .unset, .unset] [] := by first | (simp [entryFrame, mkF, argsToLocals, Value.category, maxLocals]; done) | rfl
set_option maxRecDepth 65536 in
set_option maxHeartbeats 40000000 in
theorem own_law42 (l : Launch) (Z : State) (a0 : Array Value) (hw : ∀ d ∈ tables_1, d.before a0 Z = true) (ws : List Jvm.Cond) (G1 : Int32) (gl : own_Glob Z G1) (p1 : Int32) (p2 : Int32) (p3 : Int32) (p4 : Int32) (p5 : Int32) (p6 : Int32) (h0 : Heap) (n0 : Nat) (Z0 : n0 ≤ h0.size) (X00 : Old Z n0 h0) (hn : own_n p1 = 4) (hi : own_i p2 4 = 2) :
    MetFree l x (head1 (Jvm.Cond.code x code maxLocals ret :: ws) room_1) (fun a U => a = #[(.int p1), (.int p2), (.int p3), (.int p4), (.int p5), (.int p6)] ∧ Z.Warmed39 U.vm ∧ U.heap = h0) (fun _ _ _ _ _ => True) (fun _ U o U' => ∃ v L, o = .returned v ∧ own_Qlaw h0 n0 v U'.heap L ∧ FrameEnd U o U' L room_1.cells room_1.slots) := by
  refine MetFree.of_bodySF (plainFor_of_name own_pn6) hisR ?_
  intro p e s m args below meth c s₁ Bd hml0 hP hK
  obtain ⟨rfl, hZ, hh⟩ := hP
  obtain ⟨O_CS, P_CS⟩ := id gl
  have hx := Bd.exec
  have hby := Bd.bytes
  have hml : c.maxLocals = 16 := hml0
  have hown : s.vm.findClass "com/example/dagsverke/dagsverke/CommandLineValuePinLaw" = some m.cls := findClass_of_methodNamed Bd.named
  have hnm := (name_of_methodNamed Bd.named Bd.method).1
  have X0 : Stand p l e room_1 s m #[(.int p1), (.int p2), (.int p3), (.int p4), (.int p5), (.int p6)] below meth c s₁ [] 0 0 := Stand.of_body Bd
  have e0 : s₁.heap = h0 := by rw [← hh, Bd.state]; rfl
  have N0 := Fr.nil n0
  have pre0 : ∀ t, Steps p.tables e below (s₁.setTop (mkF m 0 #[.val (.int p1), .val (.int p2), .val (.int p3), .val (.int p4), .val (.int p5), .val (.int p6), .unset, .unset, .unset, .unset, .unset, .unset, .unset, .unset, .unset, .unset] [])) t → Steps p.tables e below (s₁.setTop (entryFrame m #[(.int p1), (.int p2), (.int p3), (.int p4), (.int p5), (.int p6)] maxLocals)) t := fun t k => castTop (own_eflaw42 m p1 p2 p3 p4 p5 p6) k
  obtain ⟨b13_1_1, b13_4_1, b13_7_1, b13_10_1, b3_13_1, t25_1_1, kb25_1_1, t25_4_1, kb25_4_1, t25_7_1, kb25_7_1, t25_10_1, kb25_10_1, b1_5_13_1, k1_5_13_1, T1, h1, L1, X1, e1, N1, Kq1, f1_0, f1_1, f1_2, f1_3, f1_4, f1_5, f1_6, f1_7, f1_8, f1_9, f1_10, f1_11, f1_12, f1_13, f1_14, f1_15, f1_16, f1_17, f1_18, f1_19, f1_20, f1_21, f1_22, f1_23, f1_24, f1_25, f1_26, f1_27, f1_28, f1_29, f1_30, f1_31, f1_32, f1_33, st1⟩ := own_seg hw G1 gl p1 p2 p3 p4 p5 p6 Z0 X00  X0 hx hZ hby hml hown e0
  have Kp2 : Keep h0 h1 [] := (Keep.refl h0 []).trans Kq1 all0
  obtain ⟨T3, h3, k3, X3, e3, E3, A3, O3, st3⟩ := newR X1 hx hZ hown (hw _ (List.mem_of_getElem? (i := 6) rfl)) (hw _ (List.mem_of_getElem? (i := 49) rfl)) e1 (g := (mkF m 140 #[.val (.int p1), .val (.int p2), .val (.int p3), .val (.int p4), .val (.int p5), .val (.int p6), .val (.int (4 : Int32)), .val (.int (own_i p2 (4 : Int32))), .val (.ref b13_1_1), .val (.ref b13_4_1), .val (.ref b13_7_1), .val (.ref b13_10_1), .val (.ref b3_13_1), .unset, .unset, .unset] [(.int (4 : Int32))])) rfl (hb hby at_140) rfl (by decide) (cap := 4) (by decide) (by decide) (by decide) (by decide)
  obtain ⟨b3, g3⟩ : ∃ z, z = h1.size := ⟨_, rfl⟩
  rw [← g3] at A3 st3
  have Kp4 : Keep h0 h3 [] := Kp2.ext E3
  have Vh5 : Arv Z h3 b3 k3 (.object "java/lang/String") (4 : Int32) [.null, .null, .null, .null] .null := (Arv.new A3 (by decide)).pad (pad_rep [] .null 4)
  obtain ⟨cl6, Ar6, qc6, Sz6, Ng6, Hs6, Gs6⟩ := id Vh5
  have hin6 : ¬ ((0 : Int32) < 0 ∨ cl6.slots.size ≤ ((0 : Int32)).toNatClampNeg) := inb_of Sz6 ⟨(by decide), (by decide)⟩
  have Eh7 : Exa Z h3 b13_1_1 "java/lang/String" := (f1_1.ext E3)
  obtain ⟨T8, h8, X8, e8, W8, st8⟩ := stR X3 hx hZ e3 Ar6 (j := (0 : Int32)) hin6 rfl (Sto.ofV Ar6 qc6 O3 (Ins.self Eh7)) (g := (mkF m 147 #[.val (.int p1), .val (.int p2), .val (.int p3), .val (.int p4), .val (.int p5), .val (.int p6), .val (.int (4 : Int32)), .val (.int (own_i p2 (4 : Int32))), .val (.ref b13_1_1), .val (.ref b13_4_1), .val (.ref b13_7_1), .val (.ref b13_10_1), .val (.ref b3_13_1), .unset, .unset, .unset] [(.ref b13_1_1), (.int (0 : Int32)), (.ref b3), (.ref b3)])) rfl rfl (hb hby at_147)
  have Kp9 : Keep h0 h8 [] := Kp4.wr W8 (Or.inr (Nat.le_trans Kp2.1 (Nat.le_of_eq g3.symm)))
  have gh10 : n0 ≤ b3 := Nat.le_trans (Nat.le_trans Z0 Kp2.1) (Nat.le_of_eq g3.symm)
  obtain ⟨Lp8, X8, N8⟩ := own_pack X8 (Fr.snoc X8 N1 gh10)
  have Vh11 : Arv Z h8 b3 k3 (.object "java/lang/String") (4 : Int32) [(.ref b13_1_1), .null, .null, .null] .null := (Arv.set Ar6 qc6 Sz6 Ng6 Hs6 Gs6 rfl W8 0 rfl (Nat.le_of_ble_eq_true rfl))
  obtain ⟨cl12, Ar12, qc12, Sz12, Ng12, Hs12, Gs12⟩ := id Vh11
  have hin12 : ¬ ((1 : Int32) < 0 ∨ cl12.slots.size ≤ ((1 : Int32)).toNatClampNeg) := inb_of Sz12 ⟨(by decide), (by decide)⟩
  have Eh13 : Exa Z h8 b13_4_1 "java/lang/String" := ((f1_5.ext E3).wr W8)
  obtain ⟨T14, h14, X14, e14, W14, st14⟩ := stR X8 hx hZ e8 Ar12 (j := (1 : Int32)) hin12 rfl (Sto.ofV Ar12 qc12 O3 (Ins.self Eh13)) (g := (mkF m 152 #[.val (.int p1), .val (.int p2), .val (.int p3), .val (.int p4), .val (.int p5), .val (.int p6), .val (.int (4 : Int32)), .val (.int (own_i p2 (4 : Int32))), .val (.ref b13_1_1), .val (.ref b13_4_1), .val (.ref b13_7_1), .val (.ref b13_10_1), .val (.ref b3_13_1), .unset, .unset, .unset] [(.ref b13_4_1), (.int (1 : Int32)), (.ref b3), (.ref b3)])) rfl rfl (hb hby at_152)
  have Kp15 : Keep h0 h14 [] := Kp9.wr W14 (Or.inr (Nat.le_trans Kp2.1 (Nat.le_of_eq g3.symm)))
  obtain ⟨Lp14, X14, N14⟩ := own_pack X14 (Fr.snoc X14 N8 gh10)
  have Vh16 : Arv Z h14 b3 k3 (.object "java/lang/String") (4 : Int32) [(.ref b13_1_1), (.ref b13_4_1), .null, .null] .null := (Arv.set Ar12 qc12 Sz12 Ng12 Hs12 Gs12 rfl W14 1 rfl (Nat.le_of_ble_eq_true rfl))
  obtain ⟨cl17, Ar17, qc17, Sz17, Ng17, Hs17, Gs17⟩ := id Vh16
  have hin17 : ¬ ((2 : Int32) < 0 ∨ cl17.slots.size ≤ ((2 : Int32)).toNatClampNeg) := inb_of Sz17 ⟨(by decide), (by decide)⟩
  have Eh18 : Exa Z h14 b13_7_1 "java/lang/String" := (((f1_9.ext E3).wr W8).wr W14)
  obtain ⟨T19, h19, X19, e19, W19, st19⟩ := stR X14 hx hZ e14 Ar17 (j := (2 : Int32)) hin17 rfl (Sto.ofV Ar17 qc17 O3 (Ins.self Eh18)) (g := (mkF m 157 #[.val (.int p1), .val (.int p2), .val (.int p3), .val (.int p4), .val (.int p5), .val (.int p6), .val (.int (4 : Int32)), .val (.int (own_i p2 (4 : Int32))), .val (.ref b13_1_1), .val (.ref b13_4_1), .val (.ref b13_7_1), .val (.ref b13_10_1), .val (.ref b3_13_1), .unset, .unset, .unset] [(.ref b13_7_1), (.int (2 : Int32)), (.ref b3), (.ref b3)])) rfl rfl (hb hby at_157)
  have Kp20 : Keep h0 h19 [] := Kp15.wr W19 (Or.inr (Nat.le_trans Kp2.1 (Nat.le_of_eq g3.symm)))
  obtain ⟨Lp19, X19, N19⟩ := own_pack X19 (Fr.snoc X19 N14 gh10)
  have Vh21 : Arv Z h19 b3 k3 (.object "java/lang/String") (4 : Int32) [(.ref b13_1_1), (.ref b13_4_1), (.ref b13_7_1), .null] .null := (Arv.set Ar17 qc17 Sz17 Ng17 Hs17 Gs17 rfl W19 2 rfl (Nat.le_of_ble_eq_true rfl))
  obtain ⟨cl22, Ar22, qc22, Sz22, Ng22, Hs22, Gs22⟩ := id Vh21
  have hin22 : ¬ ((3 : Int32) < 0 ∨ cl22.slots.size ≤ ((3 : Int32)).toNatClampNeg) := inb_of Sz22 ⟨(by decide), (by decide)⟩
  have Eh23 : Exa Z h19 b13_10_1 "java/lang/String" := ((((f1_13.ext E3).wr W8).wr W14).wr W19)
  obtain ⟨T24, h24, X24, e24, W24, st24⟩ := stR X19 hx hZ e19 Ar22 (j := (3 : Int32)) hin22 rfl (Sto.ofV Ar22 qc22 O3 (Ins.self Eh23)) (g := (mkF m 162 #[.val (.int p1), .val (.int p2), .val (.int p3), .val (.int p4), .val (.int p5), .val (.int p6), .val (.int (4 : Int32)), .val (.int (own_i p2 (4 : Int32))), .val (.ref b13_1_1), .val (.ref b13_4_1), .val (.ref b13_7_1), .val (.ref b13_10_1), .val (.ref b3_13_1), .unset, .unset, .unset] [(.ref b13_10_1), (.int (3 : Int32)), (.ref b3), (.ref b3)])) rfl rfl (hb hby at_162)
  have Kp25 : Keep h0 h24 [] := Kp20.wr W24 (Or.inr (Nat.le_trans Kp2.1 (Nat.le_of_eq g3.symm)))
  obtain ⟨Lp24, X24, N24⟩ := own_pack X24 (Fr.snoc X24 N19 gh10)
  have Vh26 : Arv Z h24 b3 k3 (.object "java/lang/String") (4 : Int32) [(.ref b13_1_1), (.ref b13_4_1), (.ref b13_7_1), (.ref b13_10_1)] .null := (Arv.set Ar22 qc22 Sz22 Ng22 Hs22 Gs22 rfl W24 3 rfl (Nat.le_of_ble_eq_true rfl))
  obtain ⟨_, _, ⟨T27, L27, k27, n27⟩, -, X27, ⟨Lc27, hQ27, l27, y27, z27⟩, st27⟩ := Jvm.LawKit.callS X24 hx (y := (⟨"com/example/dagsverke/dagsverke/CommandLine", "value", "([Ljava/lang/String;ILjava/lang/String;)Ljava/lang/String;"⟩ : MethodName)) hown (mvT hZ (hw _ (List.mem_of_getElem? (i := 50) rfl))) (mvT hZ (hw _ (List.mem_of_getElem? (i := 51) rfl))) (mvT hZ (hw _ (List.mem_of_getElem? (i := 52) rfl))) (mvT hZ (hw _ (List.mem_of_getElem? (i := 53) rfl))) (by decide) (backOf (W := 0) (own_rm_v42 l Z a0 hw [] G1 gl b3 b3_13_1 (k3) b13_1_1 b13_4_1 b13_7_1 b13_10_1 h24 n0 (Nat.le_trans Z0 Kp25.1) Vh26) hZ (hw _ (List.mem_of_getElem? (i := 53) rfl)) (hw _ (List.mem_of_getElem? (i := 52) rfl)) (by decide) (by decide)) (g := (mkF m 213 #[.val (.int p1), .val (.int p2), .val (.int p3), .val (.int p4), .val (.int p5), .val (.int p6), .val (.int (4 : Int32)), .val (.int (2 : Int32)), .val (.ref b13_1_1), .val (.ref b13_4_1), .val (.ref b13_7_1), .val (.ref b13_10_1), .val (.ref b3_13_1), .val (.ref b3), .val (.ref b13_7_1), .unset] [(.ref b3_13_1), (.int (2 : Int32)), (.ref b3)])) rfl (by rw [hml]; rfl) (argsL := [(.ref b3), (.int (2 : Int32)), (.ref b3_13_1)]) (rest := []) (lenOf own_pd10 rfl) rfl (by show 2 * 0 + _ ≤ _; exact Nat.le_of_eq rfl) (hb hby at_213) (fun _ _ => ⟨rfl, e24, (by decide : 15 + 0 ≤ _), (by decide : 41 + 0 ≤ _)⟩)
  dsimp only [Pt.U, Pt.locs, Pt.cells, Pt.slots] at X27 l27 y27 z27 st27 hQ27
  subst y27 z27
  obtain ⟨rfl, Nq27, e27⟩ := hQ27
  have N27 : Fr n0 L27 := by rw [l27]; exact Fr.app N24 Nq27
  obtain ⟨cl28, Ar28, -, Sz28, Ng28, -, -⟩ := id Vh26
  obtain ⟨fs, hr, hrun, hended, hW, hsame⟩ := X27.leave (v := some (.int (1 : Int32))) (fun h => by rw [Bd.returns] at h; cases h)
  refine ⟨_, _, pre0 _ ?_, hrun, hended, _, _, rfl, ?_, ⟨_, rfl⟩, hW, hsame.mono (by decide) (by decide)⟩
  · show Steps p.tables e below (s₁.setTop (mkF m 0 #[.val (.int p1), .val (.int p2), .val (.int p3), .val (.int p4), .val (.int p5), .val (.int p6), .unset, .unset, .unset, .unset, .unset, .unset, .unset, .unset, .unset, .unset] [])) _
    refine st1 _ ?_
    show Steps p.tables e below (T1.setTop (mkF m 64 #[.val (.int p1), .val (.int p2), .val (.int p3), .val (.int p4), .val (.int p5), .val (.int p6), .val (.int (own_n p1)), .val (.int (own_i p2 (own_n p1))), .val (.ref b13_1_1), .val (.ref b13_4_1), .val (.ref b13_7_1), .val (.ref b13_10_1), .val (.ref b3_13_1), .unset, .unset, .unset] [])) _
    refine XS.iload X1.here hx rfl (hb hby at_64) rfl ?_
    show Steps p.tables e below (T1.setTop (mkF m 66 #[.val (.int p1), .val (.int p2), .val (.int p3), .val (.int p4), .val (.int p5), .val (.int p6), .val (.int (own_n p1)), .val (.int (own_i p2 (own_n p1))), .val (.ref b13_1_1), .val (.ref b13_4_1), .val (.ref b13_7_1), .val (.ref b13_10_1), .val (.ref b3_13_1), .unset, .unset, .unset] [(.int (own_n p1))])) _
    rw [hn]
    show Steps p.tables e below (T1.setTop (mkF m 66 #[.val (.int p1), .val (.int p2), .val (.int p3), .val (.int p4), .val (.int p5), .val (.int p6), .val (.int (4 : Int32)), .val (.int (own_i p2 (4 : Int32))), .val (.ref b13_1_1), .val (.ref b13_4_1), .val (.ref b13_7_1), .val (.ref b13_10_1), .val (.ref b3_13_1), .unset, .unset, .unset] [(.int (4 : Int32))])) _
    refine XS.iconst X1.here hx rfl (hb hby at_66) ?_
    show Steps p.tables e below (T1.setTop (mkF m 67 #[.val (.int p1), .val (.int p2), .val (.int p3), .val (.int p4), .val (.int p5), .val (.int p6), .val (.int (4 : Int32)), .val (.int (own_i p2 (4 : Int32))), .val (.ref b13_1_1), .val (.ref b13_4_1), .val (.ref b13_7_1), .val (.ref b13_10_1), .val (.ref b3_13_1), .unset, .unset, .unset] [(.int (1 : Int32)), (.int (4 : Int32))])) _
    refine XS.icmpYes X1.here hx rfl (pc0 := 67) (pc' := 84) rfl (hb hby at_67) rfl (feq (by decide : ¬ ((4 : Int32) = (1 : Int32)))).2 (by decide) (by decide) ?_
    show Steps p.tables e below (T1.setTop (mkF m 84 #[.val (.int p1), .val (.int p2), .val (.int p3), .val (.int p4), .val (.int p5), .val (.int p6), .val (.int (4 : Int32)), .val (.int (own_i p2 (4 : Int32))), .val (.ref b13_1_1), .val (.ref b13_4_1), .val (.ref b13_7_1), .val (.ref b13_10_1), .val (.ref b3_13_1), .unset, .unset, .unset] [])) _
    refine XS.iload X1.here hx rfl (hb hby at_84) rfl ?_
    show Steps p.tables e below (T1.setTop (mkF m 86 #[.val (.int p1), .val (.int p2), .val (.int p3), .val (.int p4), .val (.int p5), .val (.int p6), .val (.int (4 : Int32)), .val (.int (own_i p2 (4 : Int32))), .val (.ref b13_1_1), .val (.ref b13_4_1), .val (.ref b13_7_1), .val (.ref b13_10_1), .val (.ref b3_13_1), .unset, .unset, .unset] [(.int (4 : Int32))])) _
    refine XS.iconst X1.here hx rfl (hb hby at_86) ?_
    show Steps p.tables e below (T1.setTop (mkF m 87 #[.val (.int p1), .val (.int p2), .val (.int p3), .val (.int p4), .val (.int p5), .val (.int p6), .val (.int (4 : Int32)), .val (.int (own_i p2 (4 : Int32))), .val (.ref b13_1_1), .val (.ref b13_4_1), .val (.ref b13_7_1), .val (.ref b13_10_1), .val (.ref b3_13_1), .unset, .unset, .unset] [(.int (2 : Int32)), (.int (4 : Int32))])) _
    refine XS.icmpYes X1.here hx rfl (pc0 := 87) (pc' := 109) rfl (hb hby at_87) rfl (feq (by decide : ¬ ((4 : Int32) = (2 : Int32)))).2 (by decide) (by decide) ?_
    show Steps p.tables e below (T1.setTop (mkF m 109 #[.val (.int p1), .val (.int p2), .val (.int p3), .val (.int p4), .val (.int p5), .val (.int p6), .val (.int (4 : Int32)), .val (.int (own_i p2 (4 : Int32))), .val (.ref b13_1_1), .val (.ref b13_4_1), .val (.ref b13_7_1), .val (.ref b13_10_1), .val (.ref b3_13_1), .unset, .unset, .unset] [])) _
    refine XS.iload X1.here hx rfl (hb hby at_109) rfl ?_
    show Steps p.tables e below (T1.setTop (mkF m 111 #[.val (.int p1), .val (.int p2), .val (.int p3), .val (.int p4), .val (.int p5), .val (.int p6), .val (.int (4 : Int32)), .val (.int (own_i p2 (4 : Int32))), .val (.ref b13_1_1), .val (.ref b13_4_1), .val (.ref b13_7_1), .val (.ref b13_10_1), .val (.ref b3_13_1), .unset, .unset, .unset] [(.int (4 : Int32))])) _
    refine XS.iconst X1.here hx rfl (hb hby at_111) ?_
    show Steps p.tables e below (T1.setTop (mkF m 112 #[.val (.int p1), .val (.int p2), .val (.int p3), .val (.int p4), .val (.int p5), .val (.int p6), .val (.int (4 : Int32)), .val (.int (own_i p2 (4 : Int32))), .val (.ref b13_1_1), .val (.ref b13_4_1), .val (.ref b13_7_1), .val (.ref b13_10_1), .val (.ref b3_13_1), .unset, .unset, .unset] [(.int (3 : Int32)), (.int (4 : Int32))])) _
    refine XS.icmpYes X1.here hx rfl (pc0 := 112) (pc' := 139) rfl (hb hby at_112) rfl (feq (by decide : ¬ ((4 : Int32) = (3 : Int32)))).2 (by decide) (by decide) ?_
    show Steps p.tables e below (T1.setTop (mkF m 139 #[.val (.int p1), .val (.int p2), .val (.int p3), .val (.int p4), .val (.int p5), .val (.int p6), .val (.int (4 : Int32)), .val (.int (own_i p2 (4 : Int32))), .val (.ref b13_1_1), .val (.ref b13_4_1), .val (.ref b13_7_1), .val (.ref b13_10_1), .val (.ref b3_13_1), .unset, .unset, .unset] [])) _
    refine XS.iconst X1.here hx rfl (hb hby at_139) ?_
    show Steps p.tables e below (T1.setTop (mkF m 140 #[.val (.int p1), .val (.int p2), .val (.int p3), .val (.int p4), .val (.int p5), .val (.int p6), .val (.int (4 : Int32)), .val (.int (own_i p2 (4 : Int32))), .val (.ref b13_1_1), .val (.ref b13_4_1), .val (.ref b13_7_1), .val (.ref b13_10_1), .val (.ref b3_13_1), .unset, .unset, .unset] [(.int (4 : Int32))])) _
    refine st3 _ ?_
    show Steps p.tables e below (T3.setTop (mkF m 143 #[.val (.int p1), .val (.int p2), .val (.int p3), .val (.int p4), .val (.int p5), .val (.int p6), .val (.int (4 : Int32)), .val (.int (own_i p2 (4 : Int32))), .val (.ref b13_1_1), .val (.ref b13_4_1), .val (.ref b13_7_1), .val (.ref b13_10_1), .val (.ref b3_13_1), .unset, .unset, .unset] [(.ref b3)])) _
    refine XS.dup X3.here hx rfl (hb hby at_143) rfl rfl ?_
    show Steps p.tables e below (T3.setTop (mkF m 144 #[.val (.int p1), .val (.int p2), .val (.int p3), .val (.int p4), .val (.int p5), .val (.int p6), .val (.int (4 : Int32)), .val (.int (own_i p2 (4 : Int32))), .val (.ref b13_1_1), .val (.ref b13_4_1), .val (.ref b13_7_1), .val (.ref b13_10_1), .val (.ref b3_13_1), .unset, .unset, .unset] [(.ref b3), (.ref b3)])) _
    refine XS.iconst X3.here hx rfl (hb hby at_144) ?_
    show Steps p.tables e below (T3.setTop (mkF m 145 #[.val (.int p1), .val (.int p2), .val (.int p3), .val (.int p4), .val (.int p5), .val (.int p6), .val (.int (4 : Int32)), .val (.int (own_i p2 (4 : Int32))), .val (.ref b13_1_1), .val (.ref b13_4_1), .val (.ref b13_7_1), .val (.ref b13_10_1), .val (.ref b3_13_1), .unset, .unset, .unset] [(.int (0 : Int32)), (.ref b3), (.ref b3)])) _
    refine XS.aload X3.here hx rfl (hb hby at_145) rfl rfl ?_
    show Steps p.tables e below (T3.setTop (mkF m 147 #[.val (.int p1), .val (.int p2), .val (.int p3), .val (.int p4), .val (.int p5), .val (.int p6), .val (.int (4 : Int32)), .val (.int (own_i p2 (4 : Int32))), .val (.ref b13_1_1), .val (.ref b13_4_1), .val (.ref b13_7_1), .val (.ref b13_10_1), .val (.ref b3_13_1), .unset, .unset, .unset] [(.ref b13_1_1), (.int (0 : Int32)), (.ref b3), (.ref b3)])) _
    refine st8 _ ?_
    show Steps p.tables e below (T8.setTop (mkF m 148 #[.val (.int p1), .val (.int p2), .val (.int p3), .val (.int p4), .val (.int p5), .val (.int p6), .val (.int (4 : Int32)), .val (.int (own_i p2 (4 : Int32))), .val (.ref b13_1_1), .val (.ref b13_4_1), .val (.ref b13_7_1), .val (.ref b13_10_1), .val (.ref b3_13_1), .unset, .unset, .unset] [(.ref b3)])) _
    refine XS.dup X8.here hx rfl (hb hby at_148) rfl rfl ?_
    show Steps p.tables e below (T8.setTop (mkF m 149 #[.val (.int p1), .val (.int p2), .val (.int p3), .val (.int p4), .val (.int p5), .val (.int p6), .val (.int (4 : Int32)), .val (.int (own_i p2 (4 : Int32))), .val (.ref b13_1_1), .val (.ref b13_4_1), .val (.ref b13_7_1), .val (.ref b13_10_1), .val (.ref b3_13_1), .unset, .unset, .unset] [(.ref b3), (.ref b3)])) _
    refine XS.iconst X8.here hx rfl (hb hby at_149) ?_
    show Steps p.tables e below (T8.setTop (mkF m 150 #[.val (.int p1), .val (.int p2), .val (.int p3), .val (.int p4), .val (.int p5), .val (.int p6), .val (.int (4 : Int32)), .val (.int (own_i p2 (4 : Int32))), .val (.ref b13_1_1), .val (.ref b13_4_1), .val (.ref b13_7_1), .val (.ref b13_10_1), .val (.ref b3_13_1), .unset, .unset, .unset] [(.int (1 : Int32)), (.ref b3), (.ref b3)])) _
    refine XS.aload X8.here hx rfl (hb hby at_150) rfl rfl ?_
    show Steps p.tables e below (T8.setTop (mkF m 152 #[.val (.int p1), .val (.int p2), .val (.int p3), .val (.int p4), .val (.int p5), .val (.int p6), .val (.int (4 : Int32)), .val (.int (own_i p2 (4 : Int32))), .val (.ref b13_1_1), .val (.ref b13_4_1), .val (.ref b13_7_1), .val (.ref b13_10_1), .val (.ref b3_13_1), .unset, .unset, .unset] [(.ref b13_4_1), (.int (1 : Int32)), (.ref b3), (.ref b3)])) _
    refine st14 _ ?_
    show Steps p.tables e below (T14.setTop (mkF m 153 #[.val (.int p1), .val (.int p2), .val (.int p3), .val (.int p4), .val (.int p5), .val (.int p6), .val (.int (4 : Int32)), .val (.int (own_i p2 (4 : Int32))), .val (.ref b13_1_1), .val (.ref b13_4_1), .val (.ref b13_7_1), .val (.ref b13_10_1), .val (.ref b3_13_1), .unset, .unset, .unset] [(.ref b3)])) _
    refine XS.dup X14.here hx rfl (hb hby at_153) rfl rfl ?_
    show Steps p.tables e below (T14.setTop (mkF m 154 #[.val (.int p1), .val (.int p2), .val (.int p3), .val (.int p4), .val (.int p5), .val (.int p6), .val (.int (4 : Int32)), .val (.int (own_i p2 (4 : Int32))), .val (.ref b13_1_1), .val (.ref b13_4_1), .val (.ref b13_7_1), .val (.ref b13_10_1), .val (.ref b3_13_1), .unset, .unset, .unset] [(.ref b3), (.ref b3)])) _
    refine XS.iconst X14.here hx rfl (hb hby at_154) ?_
    show Steps p.tables e below (T14.setTop (mkF m 155 #[.val (.int p1), .val (.int p2), .val (.int p3), .val (.int p4), .val (.int p5), .val (.int p6), .val (.int (4 : Int32)), .val (.int (own_i p2 (4 : Int32))), .val (.ref b13_1_1), .val (.ref b13_4_1), .val (.ref b13_7_1), .val (.ref b13_10_1), .val (.ref b3_13_1), .unset, .unset, .unset] [(.int (2 : Int32)), (.ref b3), (.ref b3)])) _
    refine XS.aload X14.here hx rfl (hb hby at_155) rfl rfl ?_
    show Steps p.tables e below (T14.setTop (mkF m 157 #[.val (.int p1), .val (.int p2), .val (.int p3), .val (.int p4), .val (.int p5), .val (.int p6), .val (.int (4 : Int32)), .val (.int (own_i p2 (4 : Int32))), .val (.ref b13_1_1), .val (.ref b13_4_1), .val (.ref b13_7_1), .val (.ref b13_10_1), .val (.ref b3_13_1), .unset, .unset, .unset] [(.ref b13_7_1), (.int (2 : Int32)), (.ref b3), (.ref b3)])) _
    refine st19 _ ?_
    show Steps p.tables e below (T19.setTop (mkF m 158 #[.val (.int p1), .val (.int p2), .val (.int p3), .val (.int p4), .val (.int p5), .val (.int p6), .val (.int (4 : Int32)), .val (.int (own_i p2 (4 : Int32))), .val (.ref b13_1_1), .val (.ref b13_4_1), .val (.ref b13_7_1), .val (.ref b13_10_1), .val (.ref b3_13_1), .unset, .unset, .unset] [(.ref b3)])) _
    refine XS.dup X19.here hx rfl (hb hby at_158) rfl rfl ?_
    show Steps p.tables e below (T19.setTop (mkF m 159 #[.val (.int p1), .val (.int p2), .val (.int p3), .val (.int p4), .val (.int p5), .val (.int p6), .val (.int (4 : Int32)), .val (.int (own_i p2 (4 : Int32))), .val (.ref b13_1_1), .val (.ref b13_4_1), .val (.ref b13_7_1), .val (.ref b13_10_1), .val (.ref b3_13_1), .unset, .unset, .unset] [(.ref b3), (.ref b3)])) _
    refine XS.iconst X19.here hx rfl (hb hby at_159) ?_
    show Steps p.tables e below (T19.setTop (mkF m 160 #[.val (.int p1), .val (.int p2), .val (.int p3), .val (.int p4), .val (.int p5), .val (.int p6), .val (.int (4 : Int32)), .val (.int (own_i p2 (4 : Int32))), .val (.ref b13_1_1), .val (.ref b13_4_1), .val (.ref b13_7_1), .val (.ref b13_10_1), .val (.ref b3_13_1), .unset, .unset, .unset] [(.int (3 : Int32)), (.ref b3), (.ref b3)])) _
    refine XS.aload X19.here hx rfl (hb hby at_160) rfl rfl ?_
    show Steps p.tables e below (T19.setTop (mkF m 162 #[.val (.int p1), .val (.int p2), .val (.int p3), .val (.int p4), .val (.int p5), .val (.int p6), .val (.int (4 : Int32)), .val (.int (own_i p2 (4 : Int32))), .val (.ref b13_1_1), .val (.ref b13_4_1), .val (.ref b13_7_1), .val (.ref b13_10_1), .val (.ref b3_13_1), .unset, .unset, .unset] [(.ref b13_10_1), (.int (3 : Int32)), (.ref b3), (.ref b3)])) _
    refine st24 _ ?_
    show Steps p.tables e below (T24.setTop (mkF m 163 #[.val (.int p1), .val (.int p2), .val (.int p3), .val (.int p4), .val (.int p5), .val (.int p6), .val (.int (4 : Int32)), .val (.int (own_i p2 (4 : Int32))), .val (.ref b13_1_1), .val (.ref b13_4_1), .val (.ref b13_7_1), .val (.ref b13_10_1), .val (.ref b3_13_1), .unset, .unset, .unset] [(.ref b3)])) _
    refine XS.astore X24.here hx rfl (hb hby at_163) rfl rfl (l' := #[.val (.int p1), .val (.int p2), .val (.int p3), .val (.int p4), .val (.int p5), .val (.int p6), .val (.int (4 : Int32)), .val (.int (own_i p2 (4 : Int32))), .val (.ref b13_1_1), .val (.ref b13_4_1), .val (.ref b13_7_1), .val (.ref b13_10_1), .val (.ref b3_13_1), .val (.ref b3), .unset, .unset]) rfl ?_
    show Steps p.tables e below (T24.setTop (mkF m 165 #[.val (.int p1), .val (.int p2), .val (.int p3), .val (.int p4), .val (.int p5), .val (.int p6), .val (.int (4 : Int32)), .val (.int (own_i p2 (4 : Int32))), .val (.ref b13_1_1), .val (.ref b13_4_1), .val (.ref b13_7_1), .val (.ref b13_10_1), .val (.ref b3_13_1), .val (.ref b3), .unset, .unset] [])) _
    refine XS.iload X24.here hx rfl (hb hby at_165) rfl ?_
    show Steps p.tables e below (T24.setTop (mkF m 167 #[.val (.int p1), .val (.int p2), .val (.int p3), .val (.int p4), .val (.int p5), .val (.int p6), .val (.int (4 : Int32)), .val (.int (own_i p2 (4 : Int32))), .val (.ref b13_1_1), .val (.ref b13_4_1), .val (.ref b13_7_1), .val (.ref b13_10_1), .val (.ref b3_13_1), .val (.ref b3), .unset, .unset] [(.int (own_i p2 (4 : Int32)))])) _
    rw [hi]
    show Steps p.tables e below (T24.setTop (mkF m 167 #[.val (.int p1), .val (.int p2), .val (.int p3), .val (.int p4), .val (.int p5), .val (.int p6), .val (.int (4 : Int32)), .val (.int (2 : Int32)), .val (.ref b13_1_1), .val (.ref b13_4_1), .val (.ref b13_7_1), .val (.ref b13_10_1), .val (.ref b3_13_1), .val (.ref b3), .unset, .unset] [(.int (2 : Int32))])) _
    refine XS.ifYes X24.here hx rfl (pc0 := 167) (pc' := 177) rfl (hb hby at_167) rfl ((if0 _ _).trans (feq (by decide : ¬ ((2 : Int32) = (0 : Int32)))).2) (by decide) (by decide) ?_
    show Steps p.tables e below (T24.setTop (mkF m 177 #[.val (.int p1), .val (.int p2), .val (.int p3), .val (.int p4), .val (.int p5), .val (.int p6), .val (.int (4 : Int32)), .val (.int (2 : Int32)), .val (.ref b13_1_1), .val (.ref b13_4_1), .val (.ref b13_7_1), .val (.ref b13_10_1), .val (.ref b3_13_1), .val (.ref b3), .unset, .unset] [])) _
    refine XS.iload X24.here hx rfl (hb hby at_177) rfl ?_
    show Steps p.tables e below (T24.setTop (mkF m 179 #[.val (.int p1), .val (.int p2), .val (.int p3), .val (.int p4), .val (.int p5), .val (.int p6), .val (.int (4 : Int32)), .val (.int (2 : Int32)), .val (.ref b13_1_1), .val (.ref b13_4_1), .val (.ref b13_7_1), .val (.ref b13_10_1), .val (.ref b3_13_1), .val (.ref b3), .unset, .unset] [(.int (2 : Int32))])) _
    refine XS.iconst X24.here hx rfl (hb hby at_179) ?_
    show Steps p.tables e below (T24.setTop (mkF m 180 #[.val (.int p1), .val (.int p2), .val (.int p3), .val (.int p4), .val (.int p5), .val (.int p6), .val (.int (4 : Int32)), .val (.int (2 : Int32)), .val (.ref b13_1_1), .val (.ref b13_4_1), .val (.ref b13_7_1), .val (.ref b13_10_1), .val (.ref b3_13_1), .val (.ref b3), .unset, .unset] [(.int (1 : Int32)), (.int (2 : Int32))])) _
    refine XS.icmpYes X24.here hx rfl (pc0 := 180) (pc' := 190) rfl (hb hby at_180) rfl (feq (by decide : ¬ ((2 : Int32) = (1 : Int32)))).2 (by decide) (by decide) ?_
    show Steps p.tables e below (T24.setTop (mkF m 190 #[.val (.int p1), .val (.int p2), .val (.int p3), .val (.int p4), .val (.int p5), .val (.int p6), .val (.int (4 : Int32)), .val (.int (2 : Int32)), .val (.ref b13_1_1), .val (.ref b13_4_1), .val (.ref b13_7_1), .val (.ref b13_10_1), .val (.ref b3_13_1), .val (.ref b3), .unset, .unset] [])) _
    refine XS.iload X24.here hx rfl (hb hby at_190) rfl ?_
    show Steps p.tables e below (T24.setTop (mkF m 192 #[.val (.int p1), .val (.int p2), .val (.int p3), .val (.int p4), .val (.int p5), .val (.int p6), .val (.int (4 : Int32)), .val (.int (2 : Int32)), .val (.ref b13_1_1), .val (.ref b13_4_1), .val (.ref b13_7_1), .val (.ref b13_10_1), .val (.ref b3_13_1), .val (.ref b3), .unset, .unset] [(.int (2 : Int32))])) _
    refine XS.iconst X24.here hx rfl (hb hby at_192) ?_
    show Steps p.tables e below (T24.setTop (mkF m 193 #[.val (.int p1), .val (.int p2), .val (.int p3), .val (.int p4), .val (.int p5), .val (.int p6), .val (.int (4 : Int32)), .val (.int (2 : Int32)), .val (.ref b13_1_1), .val (.ref b13_4_1), .val (.ref b13_7_1), .val (.ref b13_10_1), .val (.ref b3_13_1), .val (.ref b3), .unset, .unset] [(.int (2 : Int32)), (.int (2 : Int32))])) _
    refine XS.icmpNo X24.here hx rfl (hb hby at_193) rfl (teq (rfl : (2 : Int32) = (2 : Int32))).2 ?_
    show Steps p.tables e below (T24.setTop (mkF m 196 #[.val (.int p1), .val (.int p2), .val (.int p3), .val (.int p4), .val (.int p5), .val (.int p6), .val (.int (4 : Int32)), .val (.int (2 : Int32)), .val (.ref b13_1_1), .val (.ref b13_4_1), .val (.ref b13_7_1), .val (.ref b13_10_1), .val (.ref b3_13_1), .val (.ref b3), .unset, .unset] [])) _
    refine XS.aload X24.here hx rfl (hb hby at_196) rfl rfl ?_
    show Steps p.tables e below (T24.setTop (mkF m 198 #[.val (.int p1), .val (.int p2), .val (.int p3), .val (.int p4), .val (.int p5), .val (.int p6), .val (.int (4 : Int32)), .val (.int (2 : Int32)), .val (.ref b13_1_1), .val (.ref b13_4_1), .val (.ref b13_7_1), .val (.ref b13_10_1), .val (.ref b3_13_1), .val (.ref b3), .unset, .unset] [(.ref b13_7_1)])) _
    refine XS.astore X24.here hx rfl (hb hby at_198) rfl rfl (l' := #[.val (.int p1), .val (.int p2), .val (.int p3), .val (.int p4), .val (.int p5), .val (.int p6), .val (.int (4 : Int32)), .val (.int (2 : Int32)), .val (.ref b13_1_1), .val (.ref b13_4_1), .val (.ref b13_7_1), .val (.ref b13_10_1), .val (.ref b3_13_1), .val (.ref b3), .val (.ref b13_7_1), .unset]) rfl ?_
    show Steps p.tables e below (T24.setTop (mkF m 200 #[.val (.int p1), .val (.int p2), .val (.int p3), .val (.int p4), .val (.int p5), .val (.int p6), .val (.int (4 : Int32)), .val (.int (2 : Int32)), .val (.ref b13_1_1), .val (.ref b13_4_1), .val (.ref b13_7_1), .val (.ref b13_10_1), .val (.ref b3_13_1), .val (.ref b3), .val (.ref b13_7_1), .unset] [])) _
    refine XS.goto X24.here hx rfl (pc0 := 200) (pc' := 207) rfl (hb hby at_200) (by decide) (by decide) ?_
    show Steps p.tables e below (T24.setTop (mkF m 207 #[.val (.int p1), .val (.int p2), .val (.int p3), .val (.int p4), .val (.int p5), .val (.int p6), .val (.int (4 : Int32)), .val (.int (2 : Int32)), .val (.ref b13_1_1), .val (.ref b13_4_1), .val (.ref b13_7_1), .val (.ref b13_10_1), .val (.ref b3_13_1), .val (.ref b3), .val (.ref b13_7_1), .unset] [])) _
    refine XS.aload X24.here hx rfl (hb hby at_207) rfl rfl ?_
    show Steps p.tables e below (T24.setTop (mkF m 209 #[.val (.int p1), .val (.int p2), .val (.int p3), .val (.int p4), .val (.int p5), .val (.int p6), .val (.int (4 : Int32)), .val (.int (2 : Int32)), .val (.ref b13_1_1), .val (.ref b13_4_1), .val (.ref b13_7_1), .val (.ref b13_10_1), .val (.ref b3_13_1), .val (.ref b3), .val (.ref b13_7_1), .unset] [(.ref b3)])) _
    refine XS.iload X24.here hx rfl (hb hby at_209) rfl ?_
    show Steps p.tables e below (T24.setTop (mkF m 211 #[.val (.int p1), .val (.int p2), .val (.int p3), .val (.int p4), .val (.int p5), .val (.int p6), .val (.int (4 : Int32)), .val (.int (2 : Int32)), .val (.ref b13_1_1), .val (.ref b13_4_1), .val (.ref b13_7_1), .val (.ref b13_10_1), .val (.ref b3_13_1), .val (.ref b3), .val (.ref b13_7_1), .unset] [(.int (2 : Int32)), (.ref b3)])) _
    refine XS.aload X24.here hx rfl (hb hby at_211) rfl rfl ?_
    show Steps p.tables e below (T24.setTop (mkF m 213 #[.val (.int p1), .val (.int p2), .val (.int p3), .val (.int p4), .val (.int p5), .val (.int p6), .val (.int (4 : Int32)), .val (.int (2 : Int32)), .val (.ref b13_1_1), .val (.ref b13_4_1), .val (.ref b13_7_1), .val (.ref b13_10_1), .val (.ref b3_13_1), .val (.ref b3), .val (.ref b13_7_1), .unset] [(.ref b3_13_1), (.int (2 : Int32)), (.ref b3)])) _
    refine st27 _ ?_
    show Steps p.tables e below (T27.setTop (mkF m 216 #[.val (.int p1), .val (.int p2), .val (.int p3), .val (.int p4), .val (.int p5), .val (.int p6), .val (.int (4 : Int32)), .val (.int (2 : Int32)), .val (.ref b13_1_1), .val (.ref b13_4_1), .val (.ref b13_7_1), .val (.ref b13_10_1), .val (.ref b3_13_1), .val (.ref b3), .val (.ref b13_7_1), .unset] [(.ref b13_7_1)])) _
    refine XS.astore X27.here hx rfl (hb hby at_216) rfl rfl (l' := #[.val (.int p1), .val (.int p2), .val (.int p3), .val (.int p4), .val (.int p5), .val (.int p6), .val (.int (4 : Int32)), .val (.int (2 : Int32)), .val (.ref b13_1_1), .val (.ref b13_4_1), .val (.ref b13_7_1), .val (.ref b13_10_1), .val (.ref b3_13_1), .val (.ref b3), .val (.ref b13_7_1), .val (.ref b13_7_1)]) rfl ?_
    show Steps p.tables e below (T27.setTop (mkF m 218 #[.val (.int p1), .val (.int p2), .val (.int p3), .val (.int p4), .val (.int p5), .val (.int p6), .val (.int (4 : Int32)), .val (.int (2 : Int32)), .val (.ref b13_1_1), .val (.ref b13_4_1), .val (.ref b13_7_1), .val (.ref b13_10_1), .val (.ref b3_13_1), .val (.ref b3), .val (.ref b13_7_1), .val (.ref b13_7_1)] [])) _
    refine XS.aload X27.here hx rfl (hb hby at_218) rfl rfl ?_
    show Steps p.tables e below (T27.setTop (mkF m 220 #[.val (.int p1), .val (.int p2), .val (.int p3), .val (.int p4), .val (.int p5), .val (.int p6), .val (.int (4 : Int32)), .val (.int (2 : Int32)), .val (.ref b13_1_1), .val (.ref b13_4_1), .val (.ref b13_7_1), .val (.ref b13_10_1), .val (.ref b3_13_1), .val (.ref b3), .val (.ref b13_7_1), .val (.ref b13_7_1)] [(.ref b13_7_1)])) _
    refine XS.aload X27.here hx rfl (hb hby at_220) rfl rfl ?_
    show Steps p.tables e below (T27.setTop (mkF m 222 #[.val (.int p1), .val (.int p2), .val (.int p3), .val (.int p4), .val (.int p5), .val (.int p6), .val (.int (4 : Int32)), .val (.int (2 : Int32)), .val (.ref b13_1_1), .val (.ref b13_4_1), .val (.ref b13_7_1), .val (.ref b13_10_1), .val (.ref b3_13_1), .val (.ref b3), .val (.ref b13_7_1), .val (.ref b13_7_1)] [(.ref b13_7_1), (.ref b13_7_1)])) _
    refine Jvm.RoadKit.acmp (g := (mkF m 222 #[.val (.int p1), .val (.int p2), .val (.int p3), .val (.int p4), .val (.int p5), .val (.int p6), .val (.int (4 : Int32)), .val (.int (2 : Int32)), .val (.ref b13_1_1), .val (.ref b13_4_1), .val (.ref b13_7_1), .val (.ref b13_10_1), .val (.ref b3_13_1), .val (.ref b3), .val (.ref b13_7_1), .val (.ref b13_7_1)] [(.ref b13_7_1), (.ref b13_7_1)])) X27 hx rfl rfl rfl (pc0 := 222) (pc' := 225) (same := true) rfl (hb hby at_222) rfl (decide_eq_true rfl) (by decide) (by decide) ?_
    show Steps p.tables e below (T27.setTop (mkF m 225 #[.val (.int p1), .val (.int p2), .val (.int p3), .val (.int p4), .val (.int p5), .val (.int p6), .val (.int (4 : Int32)), .val (.int (2 : Int32)), .val (.ref b13_1_1), .val (.ref b13_4_1), .val (.ref b13_7_1), .val (.ref b13_10_1), .val (.ref b3_13_1), .val (.ref b3), .val (.ref b13_7_1), .val (.ref b13_7_1)] [])) _
    refine XS.aload X27.here hx rfl (hb hby at_225) rfl rfl ?_
    show Steps p.tables e below (T27.setTop (mkF m 227 #[.val (.int p1), .val (.int p2), .val (.int p3), .val (.int p4), .val (.int p5), .val (.int p6), .val (.int (4 : Int32)), .val (.int (2 : Int32)), .val (.ref b13_1_1), .val (.ref b13_4_1), .val (.ref b13_7_1), .val (.ref b13_10_1), .val (.ref b3_13_1), .val (.ref b3), .val (.ref b13_7_1), .val (.ref b13_7_1)] [(.ref b3)])) _
    refine X27.arraylength hx (by rw [e27]; exact Ar28.1) (State.isArrayOf_alike hZ.alike Ar28.2.1) (g := (mkF m 227 #[.val (.int p1), .val (.int p2), .val (.int p3), .val (.int p4), .val (.int p5), .val (.int p6), .val (.int (4 : Int32)), .val (.int (2 : Int32)), .val (.ref b13_1_1), .val (.ref b13_4_1), .val (.ref b13_7_1), .val (.ref b13_10_1), .val (.ref b3_13_1), .val (.ref b3), .val (.ref b13_7_1), .val (.ref b13_7_1)] [(.ref b3)])) rfl rfl (hb hby at_227) _ ?_
    rw [len_of Sz28 Ng28]
    show Steps p.tables e below (T27.setTop (mkF m 228 #[.val (.int p1), .val (.int p2), .val (.int p3), .val (.int p4), .val (.int p5), .val (.int p6), .val (.int (4 : Int32)), .val (.int (2 : Int32)), .val (.ref b13_1_1), .val (.ref b13_4_1), .val (.ref b13_7_1), .val (.ref b13_10_1), .val (.ref b3_13_1), .val (.ref b3), .val (.ref b13_7_1), .val (.ref b13_7_1)] [(.int (4 : Int32))])) _
    refine XS.iload X27.here hx rfl (hb hby at_228) rfl ?_
    show Steps p.tables e below (T27.setTop (mkF m 230 #[.val (.int p1), .val (.int p2), .val (.int p3), .val (.int p4), .val (.int p5), .val (.int p6), .val (.int (4 : Int32)), .val (.int (2 : Int32)), .val (.ref b13_1_1), .val (.ref b13_4_1), .val (.ref b13_7_1), .val (.ref b13_10_1), .val (.ref b3_13_1), .val (.ref b3), .val (.ref b13_7_1), .val (.ref b13_7_1)] [(.int (4 : Int32)), (.int (4 : Int32))])) _
    refine XS.icmpNo X27.here hx rfl (hb hby at_230) rfl (teq (rfl : (4 : Int32) = (4 : Int32))).2 ?_
    show Steps p.tables e below (T27.setTop (mkF m 233 #[.val (.int p1), .val (.int p2), .val (.int p3), .val (.int p4), .val (.int p5), .val (.int p6), .val (.int (4 : Int32)), .val (.int (2 : Int32)), .val (.ref b13_1_1), .val (.ref b13_4_1), .val (.ref b13_7_1), .val (.ref b13_10_1), .val (.ref b3_13_1), .val (.ref b3), .val (.ref b13_7_1), .val (.ref b13_7_1)] [])) _
    refine XS.iconst X27.here hx rfl (hb hby at_233) ?_
    show Steps p.tables e below (T27.setTop (mkF m 234 #[.val (.int p1), .val (.int p2), .val (.int p3), .val (.int p4), .val (.int p5), .val (.int p6), .val (.int (4 : Int32)), .val (.int (2 : Int32)), .val (.ref b13_1_1), .val (.ref b13_4_1), .val (.ref b13_7_1), .val (.ref b13_10_1), .val (.ref b3_13_1), .val (.ref b3), .val (.ref b13_7_1), .val (.ref b13_7_1)] [(.int (1 : Int32))])) _
    refine XS.goto X27.here hx rfl (pc0 := 234) (pc' := 238) rfl (hb hby at_234) (by decide) (by decide) ?_
    show Steps p.tables e below (T27.setTop (mkF m 238 #[.val (.int p1), .val (.int p2), .val (.int p3), .val (.int p4), .val (.int p5), .val (.int p6), .val (.int (4 : Int32)), .val (.int (2 : Int32)), .val (.ref b13_1_1), .val (.ref b13_4_1), .val (.ref b13_7_1), .val (.ref b13_10_1), .val (.ref b3_13_1), .val (.ref b3), .val (.ref b13_7_1), .val (.ref b13_7_1)] [(.int (1 : Int32))])) _
    exact retN X27 hx (t := .boolean) Bd.returns (by simp) (hb hby at_238) hr
  · show own_Qlaw h0 n0 _ T27.heap _
    exact ⟨rfl, N27⟩
theorem own_eflaw43 (m : MethodId) (p1 : Int32) (p2 : Int32) (p3 : Int32) (p4 : Int32) (p5 : Int32) (p6 : Int32) : entryFrame m #[(.int p1), (.int p2), (.int p3), (.int p4), (.int p5), (.int p6)] maxLocals = mkF m 0 #[.val (.int p1), .val (.int p2), .val (.int p3), .val (.int p4), .val (.int p5), .val (.int p6), .unset, .unset, .unset, .unset, .unset, .unset, .unset, .unset, .unset, .unset] [] := by first | (simp [entryFrame, mkF, argsToLocals, Value.category, maxLocals]; done) | rfl
set_option maxRecDepth 65536 in
set_option maxHeartbeats 40000000 in
theorem own_law43 (l : Launch) (Z : State) (a0 : Array Value) (hw : ∀ d ∈ tables_1, d.before a0 Z = true) (ws : List Jvm.Cond) (G1 : Int32) (gl : own_Glob Z G1) (p1 : Int32) (p2 : Int32) (p3 : Int32) (p4 : Int32) (p5 : Int32) (p6 : Int32) (h0 : Heap) (n0 : Nat) (Z0 : n0 ≤ h0.size) (X00 : Old Z n0 h0) (hn : own_n p1 = 4) (hi : own_i p2 4 = 3) :
    MetFree l x (head1 (Jvm.Cond.code x code maxLocals ret :: ws) room_1) (fun a U => a = #[(.int p1), (.int p2), (.int p3), (.int p4), (.int p5), (.int p6)] ∧ Z.Warmed39 U.vm ∧ U.heap = h0) (fun _ _ _ _ _ => True) (fun _ U o U' => ∃ v L, o = .returned v ∧ own_Qlaw h0 n0 v U'.heap L ∧ FrameEnd U o U' L room_1.cells room_1.slots) := by
  refine MetFree.of_bodySF (plainFor_of_name own_pn6) hisR ?_
  intro p e s m args below meth c s₁ Bd hml0 hP hK
  obtain ⟨rfl, hZ, hh⟩ := hP
  obtain ⟨O_CS, P_CS⟩ := id gl
  have hx := Bd.exec
  have hby := Bd.bytes
  have hml : c.maxLocals = 16 := hml0
  have hown : s.vm.findClass "com/example/dagsverke/dagsverke/CommandLineValuePinLaw" = some m.cls := findClass_of_methodNamed Bd.named
  have hnm := (name_of_methodNamed Bd.named Bd.method).1
  have X0 : Stand p l e room_1 s m #[(.int p1), (.int p2), (.int p3), (.int p4), (.int p5), (.int p6)] below meth c s₁ [] 0 0 := Stand.of_body Bd
  have e0 : s₁.heap = h0 := by rw [← hh, Bd.state]; rfl
  have N0 := Fr.nil n0
  have pre0 : ∀ t, Steps p.tables e below (s₁.setTop (mkF m 0 #[.val (.int p1), .val (.int p2), .val (.int p3), .val (.int p4), .val (.int p5), .val (.int p6), .unset, .unset, .unset, .unset, .unset, .unset, .unset, .unset, .unset, .unset] [])) t → Steps p.tables e below (s₁.setTop (entryFrame m #[(.int p1), (.int p2), (.int p3), (.int p4), (.int p5), (.int p6)] maxLocals)) t := fun t k => castTop (own_eflaw43 m p1 p2 p3 p4 p5 p6) k
  obtain ⟨b13_1_1, b13_4_1, b13_7_1, b13_10_1, b3_13_1, t25_1_1, kb25_1_1, t25_4_1, kb25_4_1, t25_7_1, kb25_7_1, t25_10_1, kb25_10_1, b1_5_13_1, k1_5_13_1, T1, h1, L1, X1, e1, N1, Kq1, f1_0, f1_1, f1_2, f1_3, f1_4, f1_5, f1_6, f1_7, f1_8, f1_9, f1_10, f1_11, f1_12, f1_13, f1_14, f1_15, f1_16, f1_17, f1_18, f1_19, f1_20, f1_21, f1_22, f1_23, f1_24, f1_25, f1_26, f1_27, f1_28, f1_29, f1_30, f1_31, f1_32, f1_33, st1⟩ := own_seg hw G1 gl p1 p2 p3 p4 p5 p6 Z0 X00  X0 hx hZ hby hml hown e0
  have Kp2 : Keep h0 h1 [] := (Keep.refl h0 []).trans Kq1 all0
  obtain ⟨T3, h3, k3, X3, e3, E3, A3, O3, st3⟩ := newR X1 hx hZ hown (hw _ (List.mem_of_getElem? (i := 6) rfl)) (hw _ (List.mem_of_getElem? (i := 49) rfl)) e1 (g := (mkF m 140 #[.val (.int p1), .val (.int p2), .val (.int p3), .val (.int p4), .val (.int p5), .val (.int p6), .val (.int (4 : Int32)), .val (.int (own_i p2 (4 : Int32))), .val (.ref b13_1_1), .val (.ref b13_4_1), .val (.ref b13_7_1), .val (.ref b13_10_1), .val (.ref b3_13_1), .unset, .unset, .unset] [(.int (4 : Int32))])) rfl (hb hby at_140) rfl (by decide) (cap := 4) (by decide) (by decide) (by decide) (by decide)
  obtain ⟨b3, g3⟩ : ∃ z, z = h1.size := ⟨_, rfl⟩
  rw [← g3] at A3 st3
  have Kp4 : Keep h0 h3 [] := Kp2.ext E3
  have Vh5 : Arv Z h3 b3 k3 (.object "java/lang/String") (4 : Int32) [.null, .null, .null, .null] .null := (Arv.new A3 (by decide)).pad (pad_rep [] .null 4)
  obtain ⟨cl6, Ar6, qc6, Sz6, Ng6, Hs6, Gs6⟩ := id Vh5
  have hin6 : ¬ ((0 : Int32) < 0 ∨ cl6.slots.size ≤ ((0 : Int32)).toNatClampNeg) := inb_of Sz6 ⟨(by decide), (by decide)⟩
  have Eh7 : Exa Z h3 b13_1_1 "java/lang/String" := (f1_1.ext E3)
  obtain ⟨T8, h8, X8, e8, W8, st8⟩ := stR X3 hx hZ e3 Ar6 (j := (0 : Int32)) hin6 rfl (Sto.ofV Ar6 qc6 O3 (Ins.self Eh7)) (g := (mkF m 147 #[.val (.int p1), .val (.int p2), .val (.int p3), .val (.int p4), .val (.int p5), .val (.int p6), .val (.int (4 : Int32)), .val (.int (own_i p2 (4 : Int32))), .val (.ref b13_1_1), .val (.ref b13_4_1), .val (.ref b13_7_1), .val (.ref b13_10_1), .val (.ref b3_13_1), .unset, .unset, .unset] [(.ref b13_1_1), (.int (0 : Int32)), (.ref b3), (.ref b3)])) rfl rfl (hb hby at_147)
  have Kp9 : Keep h0 h8 [] := Kp4.wr W8 (Or.inr (Nat.le_trans Kp2.1 (Nat.le_of_eq g3.symm)))
  have gh10 : n0 ≤ b3 := Nat.le_trans (Nat.le_trans Z0 Kp2.1) (Nat.le_of_eq g3.symm)
  obtain ⟨Lp8, X8, N8⟩ := own_pack X8 (Fr.snoc X8 N1 gh10)
  have Vh11 : Arv Z h8 b3 k3 (.object "java/lang/String") (4 : Int32) [(.ref b13_1_1), .null, .null, .null] .null := (Arv.set Ar6 qc6 Sz6 Ng6 Hs6 Gs6 rfl W8 0 rfl (Nat.le_of_ble_eq_true rfl))
  obtain ⟨cl12, Ar12, qc12, Sz12, Ng12, Hs12, Gs12⟩ := id Vh11
  have hin12 : ¬ ((1 : Int32) < 0 ∨ cl12.slots.size ≤ ((1 : Int32)).toNatClampNeg) := inb_of Sz12 ⟨(by decide), (by decide)⟩
  have Eh13 : Exa Z h8 b13_4_1 "java/lang/String" := ((f1_5.ext E3).wr W8)
  obtain ⟨T14, h14, X14, e14, W14, st14⟩ := stR X8 hx hZ e8 Ar12 (j := (1 : Int32)) hin12 rfl (Sto.ofV Ar12 qc12 O3 (Ins.self Eh13)) (g := (mkF m 152 #[.val (.int p1), .val (.int p2), .val (.int p3), .val (.int p4), .val (.int p5), .val (.int p6), .val (.int (4 : Int32)), .val (.int (own_i p2 (4 : Int32))), .val (.ref b13_1_1), .val (.ref b13_4_1), .val (.ref b13_7_1), .val (.ref b13_10_1), .val (.ref b3_13_1), .unset, .unset, .unset] [(.ref b13_4_1), (.int (1 : Int32)), (.ref b3), (.ref b3)])) rfl rfl (hb hby at_152)
  have Kp15 : Keep h0 h14 [] := Kp9.wr W14 (Or.inr (Nat.le_trans Kp2.1 (Nat.le_of_eq g3.symm)))
  obtain ⟨Lp14, X14, N14⟩ := own_pack X14 (Fr.snoc X14 N8 gh10)
  have Vh16 : Arv Z h14 b3 k3 (.object "java/lang/String") (4 : Int32) [(.ref b13_1_1), (.ref b13_4_1), .null, .null] .null := (Arv.set Ar12 qc12 Sz12 Ng12 Hs12 Gs12 rfl W14 1 rfl (Nat.le_of_ble_eq_true rfl))
  obtain ⟨cl17, Ar17, qc17, Sz17, Ng17, Hs17, Gs17⟩ := id Vh16
  have hin17 : ¬ ((2 : Int32) < 0 ∨ cl17.slots.size ≤ ((2 : Int32)).toNatClampNeg) := inb_of Sz17 ⟨(by decide), (by decide)⟩
  have Eh18 : Exa Z h14 b13_7_1 "java/lang/String" := (((f1_9.ext E3).wr W8).wr W14)
  obtain ⟨T19, h19, X19, e19, W19, st19⟩ := stR X14 hx hZ e14 Ar17 (j := (2 : Int32)) hin17 rfl (Sto.ofV Ar17 qc17 O3 (Ins.self Eh18)) (g := (mkF m 157 #[.val (.int p1), .val (.int p2), .val (.int p3), .val (.int p4), .val (.int p5), .val (.int p6), .val (.int (4 : Int32)), .val (.int (own_i p2 (4 : Int32))), .val (.ref b13_1_1), .val (.ref b13_4_1), .val (.ref b13_7_1), .val (.ref b13_10_1), .val (.ref b3_13_1), .unset, .unset, .unset] [(.ref b13_7_1), (.int (2 : Int32)), (.ref b3), (.ref b3)])) rfl rfl (hb hby at_157)
  have Kp20 : Keep h0 h19 [] := Kp15.wr W19 (Or.inr (Nat.le_trans Kp2.1 (Nat.le_of_eq g3.symm)))
  obtain ⟨Lp19, X19, N19⟩ := own_pack X19 (Fr.snoc X19 N14 gh10)
  have Vh21 : Arv Z h19 b3 k3 (.object "java/lang/String") (4 : Int32) [(.ref b13_1_1), (.ref b13_4_1), (.ref b13_7_1), .null] .null := (Arv.set Ar17 qc17 Sz17 Ng17 Hs17 Gs17 rfl W19 2 rfl (Nat.le_of_ble_eq_true rfl))
  obtain ⟨cl22, Ar22, qc22, Sz22, Ng22, Hs22, Gs22⟩ := id Vh21
  have hin22 : ¬ ((3 : Int32) < 0 ∨ cl22.slots.size ≤ ((3 : Int32)).toNatClampNeg) := inb_of Sz22 ⟨(by decide), (by decide)⟩
  have Eh23 : Exa Z h19 b13_10_1 "java/lang/String" := ((((f1_13.ext E3).wr W8).wr W14).wr W19)
  obtain ⟨T24, h24, X24, e24, W24, st24⟩ := stR X19 hx hZ e19 Ar22 (j := (3 : Int32)) hin22 rfl (Sto.ofV Ar22 qc22 O3 (Ins.self Eh23)) (g := (mkF m 162 #[.val (.int p1), .val (.int p2), .val (.int p3), .val (.int p4), .val (.int p5), .val (.int p6), .val (.int (4 : Int32)), .val (.int (own_i p2 (4 : Int32))), .val (.ref b13_1_1), .val (.ref b13_4_1), .val (.ref b13_7_1), .val (.ref b13_10_1), .val (.ref b3_13_1), .unset, .unset, .unset] [(.ref b13_10_1), (.int (3 : Int32)), (.ref b3), (.ref b3)])) rfl rfl (hb hby at_162)
  have Kp25 : Keep h0 h24 [] := Kp20.wr W24 (Or.inr (Nat.le_trans Kp2.1 (Nat.le_of_eq g3.symm)))
  obtain ⟨Lp24, X24, N24⟩ := own_pack X24 (Fr.snoc X24 N19 gh10)
  have Vh26 : Arv Z h24 b3 k3 (.object "java/lang/String") (4 : Int32) [(.ref b13_1_1), (.ref b13_4_1), (.ref b13_7_1), (.ref b13_10_1)] .null := (Arv.set Ar22 qc22 Sz22 Ng22 Hs22 Gs22 rfl W24 3 rfl (Nat.le_of_ble_eq_true rfl))
  obtain ⟨_, _, ⟨T27, L27, k27, n27⟩, -, X27, ⟨Lc27, hQ27, l27, y27, z27⟩, st27⟩ := Jvm.LawKit.callS X24 hx (y := (⟨"com/example/dagsverke/dagsverke/CommandLine", "value", "([Ljava/lang/String;ILjava/lang/String;)Ljava/lang/String;"⟩ : MethodName)) hown (mvT hZ (hw _ (List.mem_of_getElem? (i := 50) rfl))) (mvT hZ (hw _ (List.mem_of_getElem? (i := 51) rfl))) (mvT hZ (hw _ (List.mem_of_getElem? (i := 52) rfl))) (mvT hZ (hw _ (List.mem_of_getElem? (i := 53) rfl))) (by decide) (backOf (W := 0) (own_rm_v43 l Z a0 hw [] G1 gl b3 b3_13_1 (k3) b13_1_1 b13_4_1 b13_7_1 b13_10_1 h24 n0 (Nat.le_trans Z0 Kp25.1) Vh26) hZ (hw _ (List.mem_of_getElem? (i := 53) rfl)) (hw _ (List.mem_of_getElem? (i := 52) rfl)) (by decide) (by decide)) (g := (mkF m 213 #[.val (.int p1), .val (.int p2), .val (.int p3), .val (.int p4), .val (.int p5), .val (.int p6), .val (.int (4 : Int32)), .val (.int (3 : Int32)), .val (.ref b13_1_1), .val (.ref b13_4_1), .val (.ref b13_7_1), .val (.ref b13_10_1), .val (.ref b3_13_1), .val (.ref b3), .val (.ref b13_10_1), .unset] [(.ref b3_13_1), (.int (3 : Int32)), (.ref b3)])) rfl (by rw [hml]; rfl) (argsL := [(.ref b3), (.int (3 : Int32)), (.ref b3_13_1)]) (rest := []) (lenOf own_pd10 rfl) rfl (by show 2 * 0 + _ ≤ _; exact Nat.le_of_eq rfl) (hb hby at_213) (fun _ _ => ⟨rfl, e24, (by decide : 15 + 0 ≤ _), (by decide : 41 + 0 ≤ _)⟩)
  dsimp only [Pt.U, Pt.locs, Pt.cells, Pt.slots] at X27 l27 y27 z27 st27 hQ27
  subst y27 z27
  obtain ⟨rfl, Nq27, e27⟩ := hQ27
  have N27 : Fr n0 L27 := by rw [l27]; exact Fr.app N24 Nq27
  obtain ⟨cl28, Ar28, -, Sz28, Ng28, -, -⟩ := id Vh26
  obtain ⟨fs, hr, hrun, hended, hW, hsame⟩ := X27.leave (v := some (.int (1 : Int32))) (fun h => by rw [Bd.returns] at h; cases h)
  refine ⟨_, _, pre0 _ ?_, hrun, hended, _, _, rfl, ?_, ⟨_, rfl⟩, hW, hsame.mono (by decide) (by decide)⟩
  · show Steps p.tables e below (s₁.setTop (mkF m 0 #[.val (.int p1), .val (.int p2), .val (.int p3), .val (.int p4), .val (.int p5), .val (.int p6), .unset, .unset, .unset, .unset, .unset, .unset, .unset, .unset, .unset, .unset] [])) _
    refine st1 _ ?_
    show Steps p.tables e below (T1.setTop (mkF m 64 #[.val (.int p1), .val (.int p2), .val (.int p3), .val (.int p4), .val (.int p5), .val (.int p6), .val (.int (own_n p1)), .val (.int (own_i p2 (own_n p1))), .val (.ref b13_1_1), .val (.ref b13_4_1), .val (.ref b13_7_1), .val (.ref b13_10_1), .val (.ref b3_13_1), .unset, .unset, .unset] [])) _
    refine XS.iload X1.here hx rfl (hb hby at_64) rfl ?_
    show Steps p.tables e below (T1.setTop (mkF m 66 #[.val (.int p1), .val (.int p2), .val (.int p3), .val (.int p4), .val (.int p5), .val (.int p6), .val (.int (own_n p1)), .val (.int (own_i p2 (own_n p1))), .val (.ref b13_1_1), .val (.ref b13_4_1), .val (.ref b13_7_1), .val (.ref b13_10_1), .val (.ref b3_13_1), .unset, .unset, .unset] [(.int (own_n p1))])) _
    rw [hn]
    show Steps p.tables e below (T1.setTop (mkF m 66 #[.val (.int p1), .val (.int p2), .val (.int p3), .val (.int p4), .val (.int p5), .val (.int p6), .val (.int (4 : Int32)), .val (.int (own_i p2 (4 : Int32))), .val (.ref b13_1_1), .val (.ref b13_4_1), .val (.ref b13_7_1), .val (.ref b13_10_1), .val (.ref b3_13_1), .unset, .unset, .unset] [(.int (4 : Int32))])) _
    refine XS.iconst X1.here hx rfl (hb hby at_66) ?_
    show Steps p.tables e below (T1.setTop (mkF m 67 #[.val (.int p1), .val (.int p2), .val (.int p3), .val (.int p4), .val (.int p5), .val (.int p6), .val (.int (4 : Int32)), .val (.int (own_i p2 (4 : Int32))), .val (.ref b13_1_1), .val (.ref b13_4_1), .val (.ref b13_7_1), .val (.ref b13_10_1), .val (.ref b3_13_1), .unset, .unset, .unset] [(.int (1 : Int32)), (.int (4 : Int32))])) _
    refine XS.icmpYes X1.here hx rfl (pc0 := 67) (pc' := 84) rfl (hb hby at_67) rfl (feq (by decide : ¬ ((4 : Int32) = (1 : Int32)))).2 (by decide) (by decide) ?_
    show Steps p.tables e below (T1.setTop (mkF m 84 #[.val (.int p1), .val (.int p2), .val (.int p3), .val (.int p4), .val (.int p5), .val (.int p6), .val (.int (4 : Int32)), .val (.int (own_i p2 (4 : Int32))), .val (.ref b13_1_1), .val (.ref b13_4_1), .val (.ref b13_7_1), .val (.ref b13_10_1), .val (.ref b3_13_1), .unset, .unset, .unset] [])) _
    refine XS.iload X1.here hx rfl (hb hby at_84) rfl ?_
    show Steps p.tables e below (T1.setTop (mkF m 86 #[.val (.int p1), .val (.int p2), .val (.int p3), .val (.int p4), .val (.int p5), .val (.int p6), .val (.int (4 : Int32)), .val (.int (own_i p2 (4 : Int32))), .val (.ref b13_1_1), .val (.ref b13_4_1), .val (.ref b13_7_1), .val (.ref b13_10_1), .val (.ref b3_13_1), .unset, .unset, .unset] [(.int (4 : Int32))])) _
    refine XS.iconst X1.here hx rfl (hb hby at_86) ?_
    show Steps p.tables e below (T1.setTop (mkF m 87 #[.val (.int p1), .val (.int p2), .val (.int p3), .val (.int p4), .val (.int p5), .val (.int p6), .val (.int (4 : Int32)), .val (.int (own_i p2 (4 : Int32))), .val (.ref b13_1_1), .val (.ref b13_4_1), .val (.ref b13_7_1), .val (.ref b13_10_1), .val (.ref b3_13_1), .unset, .unset, .unset] [(.int (2 : Int32)), (.int (4 : Int32))])) _
    refine XS.icmpYes X1.here hx rfl (pc0 := 87) (pc' := 109) rfl (hb hby at_87) rfl (feq (by decide : ¬ ((4 : Int32) = (2 : Int32)))).2 (by decide) (by decide) ?_
    show Steps p.tables e below (T1.setTop (mkF m 109 #[.val (.int p1), .val (.int p2), .val (.int p3), .val (.int p4), .val (.int p5), .val (.int p6), .val (.int (4 : Int32)), .val (.int (own_i p2 (4 : Int32))), .val (.ref b13_1_1), .val (.ref b13_4_1), .val (.ref b13_7_1), .val (.ref b13_10_1), .val (.ref b3_13_1), .unset, .unset, .unset] [])) _
    refine XS.iload X1.here hx rfl (hb hby at_109) rfl ?_
    show Steps p.tables e below (T1.setTop (mkF m 111 #[.val (.int p1), .val (.int p2), .val (.int p3), .val (.int p4), .val (.int p5), .val (.int p6), .val (.int (4 : Int32)), .val (.int (own_i p2 (4 : Int32))), .val (.ref b13_1_1), .val (.ref b13_4_1), .val (.ref b13_7_1), .val (.ref b13_10_1), .val (.ref b3_13_1), .unset, .unset, .unset] [(.int (4 : Int32))])) _
    refine XS.iconst X1.here hx rfl (hb hby at_111) ?_
    show Steps p.tables e below (T1.setTop (mkF m 112 #[.val (.int p1), .val (.int p2), .val (.int p3), .val (.int p4), .val (.int p5), .val (.int p6), .val (.int (4 : Int32)), .val (.int (own_i p2 (4 : Int32))), .val (.ref b13_1_1), .val (.ref b13_4_1), .val (.ref b13_7_1), .val (.ref b13_10_1), .val (.ref b3_13_1), .unset, .unset, .unset] [(.int (3 : Int32)), (.int (4 : Int32))])) _
    refine XS.icmpYes X1.here hx rfl (pc0 := 112) (pc' := 139) rfl (hb hby at_112) rfl (feq (by decide : ¬ ((4 : Int32) = (3 : Int32)))).2 (by decide) (by decide) ?_
    show Steps p.tables e below (T1.setTop (mkF m 139 #[.val (.int p1), .val (.int p2), .val (.int p3), .val (.int p4), .val (.int p5), .val (.int p6), .val (.int (4 : Int32)), .val (.int (own_i p2 (4 : Int32))), .val (.ref b13_1_1), .val (.ref b13_4_1), .val (.ref b13_7_1), .val (.ref b13_10_1), .val (.ref b3_13_1), .unset, .unset, .unset] [])) _
    refine XS.iconst X1.here hx rfl (hb hby at_139) ?_
    show Steps p.tables e below (T1.setTop (mkF m 140 #[.val (.int p1), .val (.int p2), .val (.int p3), .val (.int p4), .val (.int p5), .val (.int p6), .val (.int (4 : Int32)), .val (.int (own_i p2 (4 : Int32))), .val (.ref b13_1_1), .val (.ref b13_4_1), .val (.ref b13_7_1), .val (.ref b13_10_1), .val (.ref b3_13_1), .unset, .unset, .unset] [(.int (4 : Int32))])) _
    refine st3 _ ?_
    show Steps p.tables e below (T3.setTop (mkF m 143 #[.val (.int p1), .val (.int p2), .val (.int p3), .val (.int p4), .val (.int p5), .val (.int p6), .val (.int (4 : Int32)), .val (.int (own_i p2 (4 : Int32))), .val (.ref b13_1_1), .val (.ref b13_4_1), .val (.ref b13_7_1), .val (.ref b13_10_1), .val (.ref b3_13_1), .unset, .unset, .unset] [(.ref b3)])) _
    refine XS.dup X3.here hx rfl (hb hby at_143) rfl rfl ?_
    show Steps p.tables e below (T3.setTop (mkF m 144 #[.val (.int p1), .val (.int p2), .val (.int p3), .val (.int p4), .val (.int p5), .val (.int p6), .val (.int (4 : Int32)), .val (.int (own_i p2 (4 : Int32))), .val (.ref b13_1_1), .val (.ref b13_4_1), .val (.ref b13_7_1), .val (.ref b13_10_1), .val (.ref b3_13_1), .unset, .unset, .unset] [(.ref b3), (.ref b3)])) _
    refine XS.iconst X3.here hx rfl (hb hby at_144) ?_
    show Steps p.tables e below (T3.setTop (mkF m 145 #[.val (.int p1), .val (.int p2), .val (.int p3), .val (.int p4), .val (.int p5), .val (.int p6), .val (.int (4 : Int32)), .val (.int (own_i p2 (4 : Int32))), .val (.ref b13_1_1), .val (.ref b13_4_1), .val (.ref b13_7_1), .val (.ref b13_10_1), .val (.ref b3_13_1), .unset, .unset, .unset] [(.int (0 : Int32)), (.ref b3), (.ref b3)])) _
    refine XS.aload X3.here hx rfl (hb hby at_145) rfl rfl ?_
    show Steps p.tables e below (T3.setTop (mkF m 147 #[.val (.int p1), .val (.int p2), .val (.int p3), .val (.int p4), .val (.int p5), .val (.int p6), .val (.int (4 : Int32)), .val (.int (own_i p2 (4 : Int32))), .val (.ref b13_1_1), .val (.ref b13_4_1), .val (.ref b13_7_1), .val (.ref b13_10_1), .val (.ref b3_13_1), .unset, .unset, .unset] [(.ref b13_1_1), (.int (0 : Int32)), (.ref b3), (.ref b3)])) _
    refine st8 _ ?_
    show Steps p.tables e below (T8.setTop (mkF m 148 #[.val (.int p1), .val (.int p2), .val (.int p3), .val (.int p4), .val (.int p5), .val (.int p6), .val (.int (4 : Int32)), .val (.int (own_i p2 (4 : Int32))), .val (.ref b13_1_1), .val (.ref b13_4_1), .val (.ref b13_7_1), .val (.ref b13_10_1), .val (.ref b3_13_1), .unset, .unset, .unset] [(.ref b3)])) _
    refine XS.dup X8.here hx rfl (hb hby at_148) rfl rfl ?_
    show Steps p.tables e below (T8.setTop (mkF m 149 #[.val (.int p1), .val (.int p2), .val (.int p3), .val (.int p4), .val (.int p5), .val (.int p6), .val (.int (4 : Int32)), .val (.int (own_i p2 (4 : Int32))), .val (.ref b13_1_1), .val (.ref b13_4_1), .val (.ref b13_7_1), .val (.ref b13_10_1), .val (.ref b3_13_1), .unset, .unset, .unset] [(.ref b3), (.ref b3)])) _
    refine XS.iconst X8.here hx rfl (hb hby at_149) ?_
    show Steps p.tables e below (T8.setTop (mkF m 150 #[.val (.int p1), .val (.int p2), .val (.int p3), .val (.int p4), .val (.int p5), .val (.int p6), .val (.int (4 : Int32)), .val (.int (own_i p2 (4 : Int32))), .val (.ref b13_1_1), .val (.ref b13_4_1), .val (.ref b13_7_1), .val (.ref b13_10_1), .val (.ref b3_13_1), .unset, .unset, .unset] [(.int (1 : Int32)), (.ref b3), (.ref b3)])) _
    refine XS.aload X8.here hx rfl (hb hby at_150) rfl rfl ?_
    show Steps p.tables e below (T8.setTop (mkF m 152 #[.val (.int p1), .val (.int p2), .val (.int p3), .val (.int p4), .val (.int p5), .val (.int p6), .val (.int (4 : Int32)), .val (.int (own_i p2 (4 : Int32))), .val (.ref b13_1_1), .val (.ref b13_4_1), .val (.ref b13_7_1), .val (.ref b13_10_1), .val (.ref b3_13_1), .unset, .unset, .unset] [(.ref b13_4_1), (.int (1 : Int32)), (.ref b3), (.ref b3)])) _
    refine st14 _ ?_
    show Steps p.tables e below (T14.setTop (mkF m 153 #[.val (.int p1), .val (.int p2), .val (.int p3), .val (.int p4), .val (.int p5), .val (.int p6), .val (.int (4 : Int32)), .val (.int (own_i p2 (4 : Int32))), .val (.ref b13_1_1), .val (.ref b13_4_1), .val (.ref b13_7_1), .val (.ref b13_10_1), .val (.ref b3_13_1), .unset, .unset, .unset] [(.ref b3)])) _
    refine XS.dup X14.here hx rfl (hb hby at_153) rfl rfl ?_
    show Steps p.tables e below (T14.setTop (mkF m 154 #[.val (.int p1), .val (.int p2), .val (.int p3), .val (.int p4), .val (.int p5), .val (.int p6), .val (.int (4 : Int32)), .val (.int (own_i p2 (4 : Int32))), .val (.ref b13_1_1), .val (.ref b13_4_1), .val (.ref b13_7_1), .val (.ref b13_10_1), .val (.ref b3_13_1), .unset, .unset, .unset] [(.ref b3), (.ref b3)])) _
    refine XS.iconst X14.here hx rfl (hb hby at_154) ?_
    show Steps p.tables e below (T14.setTop (mkF m 155 #[.val (.int p1), .val (.int p2), .val (.int p3), .val (.int p4), .val (.int p5), .val (.int p6), .val (.int (4 : Int32)), .val (.int (own_i p2 (4 : Int32))), .val (.ref b13_1_1), .val (.ref b13_4_1), .val (.ref b13_7_1), .val (.ref b13_10_1), .val (.ref b3_13_1), .unset, .unset, .unset] [(.int (2 : Int32)), (.ref b3), (.ref b3)])) _
    refine XS.aload X14.here hx rfl (hb hby at_155) rfl rfl ?_
    show Steps p.tables e below (T14.setTop (mkF m 157 #[.val (.int p1), .val (.int p2), .val (.int p3), .val (.int p4), .val (.int p5), .val (.int p6), .val (.int (4 : Int32)), .val (.int (own_i p2 (4 : Int32))), .val (.ref b13_1_1), .val (.ref b13_4_1), .val (.ref b13_7_1), .val (.ref b13_10_1), .val (.ref b3_13_1), .unset, .unset, .unset] [(.ref b13_7_1), (.int (2 : Int32)), (.ref b3), (.ref b3)])) _
    refine st19 _ ?_
    show Steps p.tables e below (T19.setTop (mkF m 158 #[.val (.int p1), .val (.int p2), .val (.int p3), .val (.int p4), .val (.int p5), .val (.int p6), .val (.int (4 : Int32)), .val (.int (own_i p2 (4 : Int32))), .val (.ref b13_1_1), .val (.ref b13_4_1), .val (.ref b13_7_1), .val (.ref b13_10_1), .val (.ref b3_13_1), .unset, .unset, .unset] [(.ref b3)])) _
    refine XS.dup X19.here hx rfl (hb hby at_158) rfl rfl ?_
    show Steps p.tables e below (T19.setTop (mkF m 159 #[.val (.int p1), .val (.int p2), .val (.int p3), .val (.int p4), .val (.int p5), .val (.int p6), .val (.int (4 : Int32)), .val (.int (own_i p2 (4 : Int32))), .val (.ref b13_1_1), .val (.ref b13_4_1), .val (.ref b13_7_1), .val (.ref b13_10_1), .val (.ref b3_13_1), .unset, .unset, .unset] [(.ref b3), (.ref b3)])) _
    refine XS.iconst X19.here hx rfl (hb hby at_159) ?_
    show Steps p.tables e below (T19.setTop (mkF m 160 #[.val (.int p1), .val (.int p2), .val (.int p3), .val (.int p4), .val (.int p5), .val (.int p6), .val (.int (4 : Int32)), .val (.int (own_i p2 (4 : Int32))), .val (.ref b13_1_1), .val (.ref b13_4_1), .val (.ref b13_7_1), .val (.ref b13_10_1), .val (.ref b3_13_1), .unset, .unset, .unset] [(.int (3 : Int32)), (.ref b3), (.ref b3)])) _
    refine XS.aload X19.here hx rfl (hb hby at_160) rfl rfl ?_
    show Steps p.tables e below (T19.setTop (mkF m 162 #[.val (.int p1), .val (.int p2), .val (.int p3), .val (.int p4), .val (.int p5), .val (.int p6), .val (.int (4 : Int32)), .val (.int (own_i p2 (4 : Int32))), .val (.ref b13_1_1), .val (.ref b13_4_1), .val (.ref b13_7_1), .val (.ref b13_10_1), .val (.ref b3_13_1), .unset, .unset, .unset] [(.ref b13_10_1), (.int (3 : Int32)), (.ref b3), (.ref b3)])) _
    refine st24 _ ?_
    show Steps p.tables e below (T24.setTop (mkF m 163 #[.val (.int p1), .val (.int p2), .val (.int p3), .val (.int p4), .val (.int p5), .val (.int p6), .val (.int (4 : Int32)), .val (.int (own_i p2 (4 : Int32))), .val (.ref b13_1_1), .val (.ref b13_4_1), .val (.ref b13_7_1), .val (.ref b13_10_1), .val (.ref b3_13_1), .unset, .unset, .unset] [(.ref b3)])) _
    refine XS.astore X24.here hx rfl (hb hby at_163) rfl rfl (l' := #[.val (.int p1), .val (.int p2), .val (.int p3), .val (.int p4), .val (.int p5), .val (.int p6), .val (.int (4 : Int32)), .val (.int (own_i p2 (4 : Int32))), .val (.ref b13_1_1), .val (.ref b13_4_1), .val (.ref b13_7_1), .val (.ref b13_10_1), .val (.ref b3_13_1), .val (.ref b3), .unset, .unset]) rfl ?_
    show Steps p.tables e below (T24.setTop (mkF m 165 #[.val (.int p1), .val (.int p2), .val (.int p3), .val (.int p4), .val (.int p5), .val (.int p6), .val (.int (4 : Int32)), .val (.int (own_i p2 (4 : Int32))), .val (.ref b13_1_1), .val (.ref b13_4_1), .val (.ref b13_7_1), .val (.ref b13_10_1), .val (.ref b3_13_1), .val (.ref b3), .unset, .unset] [])) _
    refine XS.iload X24.here hx rfl (hb hby at_165) rfl ?_
    show Steps p.tables e below (T24.setTop (mkF m 167 #[.val (.int p1), .val (.int p2), .val (.int p3), .val (.int p4), .val (.int p5), .val (.int p6), .val (.int (4 : Int32)), .val (.int (own_i p2 (4 : Int32))), .val (.ref b13_1_1), .val (.ref b13_4_1), .val (.ref b13_7_1), .val (.ref b13_10_1), .val (.ref b3_13_1), .val (.ref b3), .unset, .unset] [(.int (own_i p2 (4 : Int32)))])) _
    rw [hi]
    show Steps p.tables e below (T24.setTop (mkF m 167 #[.val (.int p1), .val (.int p2), .val (.int p3), .val (.int p4), .val (.int p5), .val (.int p6), .val (.int (4 : Int32)), .val (.int (3 : Int32)), .val (.ref b13_1_1), .val (.ref b13_4_1), .val (.ref b13_7_1), .val (.ref b13_10_1), .val (.ref b3_13_1), .val (.ref b3), .unset, .unset] [(.int (3 : Int32))])) _
    refine XS.ifYes X24.here hx rfl (pc0 := 167) (pc' := 177) rfl (hb hby at_167) rfl ((if0 _ _).trans (feq (by decide : ¬ ((3 : Int32) = (0 : Int32)))).2) (by decide) (by decide) ?_
    show Steps p.tables e below (T24.setTop (mkF m 177 #[.val (.int p1), .val (.int p2), .val (.int p3), .val (.int p4), .val (.int p5), .val (.int p6), .val (.int (4 : Int32)), .val (.int (3 : Int32)), .val (.ref b13_1_1), .val (.ref b13_4_1), .val (.ref b13_7_1), .val (.ref b13_10_1), .val (.ref b3_13_1), .val (.ref b3), .unset, .unset] [])) _
    refine XS.iload X24.here hx rfl (hb hby at_177) rfl ?_
    show Steps p.tables e below (T24.setTop (mkF m 179 #[.val (.int p1), .val (.int p2), .val (.int p3), .val (.int p4), .val (.int p5), .val (.int p6), .val (.int (4 : Int32)), .val (.int (3 : Int32)), .val (.ref b13_1_1), .val (.ref b13_4_1), .val (.ref b13_7_1), .val (.ref b13_10_1), .val (.ref b3_13_1), .val (.ref b3), .unset, .unset] [(.int (3 : Int32))])) _
    refine XS.iconst X24.here hx rfl (hb hby at_179) ?_
    show Steps p.tables e below (T24.setTop (mkF m 180 #[.val (.int p1), .val (.int p2), .val (.int p3), .val (.int p4), .val (.int p5), .val (.int p6), .val (.int (4 : Int32)), .val (.int (3 : Int32)), .val (.ref b13_1_1), .val (.ref b13_4_1), .val (.ref b13_7_1), .val (.ref b13_10_1), .val (.ref b3_13_1), .val (.ref b3), .unset, .unset] [(.int (1 : Int32)), (.int (3 : Int32))])) _
    refine XS.icmpYes X24.here hx rfl (pc0 := 180) (pc' := 190) rfl (hb hby at_180) rfl (feq (by decide : ¬ ((3 : Int32) = (1 : Int32)))).2 (by decide) (by decide) ?_
    show Steps p.tables e below (T24.setTop (mkF m 190 #[.val (.int p1), .val (.int p2), .val (.int p3), .val (.int p4), .val (.int p5), .val (.int p6), .val (.int (4 : Int32)), .val (.int (3 : Int32)), .val (.ref b13_1_1), .val (.ref b13_4_1), .val (.ref b13_7_1), .val (.ref b13_10_1), .val (.ref b3_13_1), .val (.ref b3), .unset, .unset] [])) _
    refine XS.iload X24.here hx rfl (hb hby at_190) rfl ?_
    show Steps p.tables e below (T24.setTop (mkF m 192 #[.val (.int p1), .val (.int p2), .val (.int p3), .val (.int p4), .val (.int p5), .val (.int p6), .val (.int (4 : Int32)), .val (.int (3 : Int32)), .val (.ref b13_1_1), .val (.ref b13_4_1), .val (.ref b13_7_1), .val (.ref b13_10_1), .val (.ref b3_13_1), .val (.ref b3), .unset, .unset] [(.int (3 : Int32))])) _
    refine XS.iconst X24.here hx rfl (hb hby at_192) ?_
    show Steps p.tables e below (T24.setTop (mkF m 193 #[.val (.int p1), .val (.int p2), .val (.int p3), .val (.int p4), .val (.int p5), .val (.int p6), .val (.int (4 : Int32)), .val (.int (3 : Int32)), .val (.ref b13_1_1), .val (.ref b13_4_1), .val (.ref b13_7_1), .val (.ref b13_10_1), .val (.ref b3_13_1), .val (.ref b3), .unset, .unset] [(.int (2 : Int32)), (.int (3 : Int32))])) _
    refine XS.icmpYes X24.here hx rfl (pc0 := 193) (pc' := 203) rfl (hb hby at_193) rfl (feq (by decide : ¬ ((3 : Int32) = (2 : Int32)))).2 (by decide) (by decide) ?_
    show Steps p.tables e below (T24.setTop (mkF m 203 #[.val (.int p1), .val (.int p2), .val (.int p3), .val (.int p4), .val (.int p5), .val (.int p6), .val (.int (4 : Int32)), .val (.int (3 : Int32)), .val (.ref b13_1_1), .val (.ref b13_4_1), .val (.ref b13_7_1), .val (.ref b13_10_1), .val (.ref b3_13_1), .val (.ref b3), .unset, .unset] [])) _
    refine XS.aload X24.here hx rfl (hb hby at_203) rfl rfl ?_
    show Steps p.tables e below (T24.setTop (mkF m 205 #[.val (.int p1), .val (.int p2), .val (.int p3), .val (.int p4), .val (.int p5), .val (.int p6), .val (.int (4 : Int32)), .val (.int (3 : Int32)), .val (.ref b13_1_1), .val (.ref b13_4_1), .val (.ref b13_7_1), .val (.ref b13_10_1), .val (.ref b3_13_1), .val (.ref b3), .unset, .unset] [(.ref b13_10_1)])) _
    refine XS.astore X24.here hx rfl (hb hby at_205) rfl rfl (l' := #[.val (.int p1), .val (.int p2), .val (.int p3), .val (.int p4), .val (.int p5), .val (.int p6), .val (.int (4 : Int32)), .val (.int (3 : Int32)), .val (.ref b13_1_1), .val (.ref b13_4_1), .val (.ref b13_7_1), .val (.ref b13_10_1), .val (.ref b3_13_1), .val (.ref b3), .val (.ref b13_10_1), .unset]) rfl ?_
    show Steps p.tables e below (T24.setTop (mkF m 207 #[.val (.int p1), .val (.int p2), .val (.int p3), .val (.int p4), .val (.int p5), .val (.int p6), .val (.int (4 : Int32)), .val (.int (3 : Int32)), .val (.ref b13_1_1), .val (.ref b13_4_1), .val (.ref b13_7_1), .val (.ref b13_10_1), .val (.ref b3_13_1), .val (.ref b3), .val (.ref b13_10_1), .unset] [])) _
    refine XS.aload X24.here hx rfl (hb hby at_207) rfl rfl ?_
    show Steps p.tables e below (T24.setTop (mkF m 209 #[.val (.int p1), .val (.int p2), .val (.int p3), .val (.int p4), .val (.int p5), .val (.int p6), .val (.int (4 : Int32)), .val (.int (3 : Int32)), .val (.ref b13_1_1), .val (.ref b13_4_1), .val (.ref b13_7_1), .val (.ref b13_10_1), .val (.ref b3_13_1), .val (.ref b3), .val (.ref b13_10_1), .unset] [(.ref b3)])) _
    refine XS.iload X24.here hx rfl (hb hby at_209) rfl ?_
    show Steps p.tables e below (T24.setTop (mkF m 211 #[.val (.int p1), .val (.int p2), .val (.int p3), .val (.int p4), .val (.int p5), .val (.int p6), .val (.int (4 : Int32)), .val (.int (3 : Int32)), .val (.ref b13_1_1), .val (.ref b13_4_1), .val (.ref b13_7_1), .val (.ref b13_10_1), .val (.ref b3_13_1), .val (.ref b3), .val (.ref b13_10_1), .unset] [(.int (3 : Int32)), (.ref b3)])) _
    refine XS.aload X24.here hx rfl (hb hby at_211) rfl rfl ?_
    show Steps p.tables e below (T24.setTop (mkF m 213 #[.val (.int p1), .val (.int p2), .val (.int p3), .val (.int p4), .val (.int p5), .val (.int p6), .val (.int (4 : Int32)), .val (.int (3 : Int32)), .val (.ref b13_1_1), .val (.ref b13_4_1), .val (.ref b13_7_1), .val (.ref b13_10_1), .val (.ref b3_13_1), .val (.ref b3), .val (.ref b13_10_1), .unset] [(.ref b3_13_1), (.int (3 : Int32)), (.ref b3)])) _
    refine st27 _ ?_
    show Steps p.tables e below (T27.setTop (mkF m 216 #[.val (.int p1), .val (.int p2), .val (.int p3), .val (.int p4), .val (.int p5), .val (.int p6), .val (.int (4 : Int32)), .val (.int (3 : Int32)), .val (.ref b13_1_1), .val (.ref b13_4_1), .val (.ref b13_7_1), .val (.ref b13_10_1), .val (.ref b3_13_1), .val (.ref b3), .val (.ref b13_10_1), .unset] [(.ref b13_10_1)])) _
    refine XS.astore X27.here hx rfl (hb hby at_216) rfl rfl (l' := #[.val (.int p1), .val (.int p2), .val (.int p3), .val (.int p4), .val (.int p5), .val (.int p6), .val (.int (4 : Int32)), .val (.int (3 : Int32)), .val (.ref b13_1_1), .val (.ref b13_4_1), .val (.ref b13_7_1), .val (.ref b13_10_1), .val (.ref b3_13_1), .val (.ref b3), .val (.ref b13_10_1), .val (.ref b13_10_1)]) rfl ?_
    show Steps p.tables e below (T27.setTop (mkF m 218 #[.val (.int p1), .val (.int p2), .val (.int p3), .val (.int p4), .val (.int p5), .val (.int p6), .val (.int (4 : Int32)), .val (.int (3 : Int32)), .val (.ref b13_1_1), .val (.ref b13_4_1), .val (.ref b13_7_1), .val (.ref b13_10_1), .val (.ref b3_13_1), .val (.ref b3), .val (.ref b13_10_1), .val (.ref b13_10_1)] [])) _
    refine XS.aload X27.here hx rfl (hb hby at_218) rfl rfl ?_
    show Steps p.tables e below (T27.setTop (mkF m 220 #[.val (.int p1), .val (.int p2), .val (.int p3), .val (.int p4), .val (.int p5), .val (.int p6), .val (.int (4 : Int32)), .val (.int (3 : Int32)), .val (.ref b13_1_1), .val (.ref b13_4_1), .val (.ref b13_7_1), .val (.ref b13_10_1), .val (.ref b3_13_1), .val (.ref b3), .val (.ref b13_10_1), .val (.ref b13_10_1)] [(.ref b13_10_1)])) _
    refine XS.aload X27.here hx rfl (hb hby at_220) rfl rfl ?_
    show Steps p.tables e below (T27.setTop (mkF m 222 #[.val (.int p1), .val (.int p2), .val (.int p3), .val (.int p4), .val (.int p5), .val (.int p6), .val (.int (4 : Int32)), .val (.int (3 : Int32)), .val (.ref b13_1_1), .val (.ref b13_4_1), .val (.ref b13_7_1), .val (.ref b13_10_1), .val (.ref b3_13_1), .val (.ref b3), .val (.ref b13_10_1), .val (.ref b13_10_1)] [(.ref b13_10_1), (.ref b13_10_1)])) _
    refine Jvm.RoadKit.acmp (g := (mkF m 222 #[.val (.int p1), .val (.int p2), .val (.int p3), .val (.int p4), .val (.int p5), .val (.int p6), .val (.int (4 : Int32)), .val (.int (3 : Int32)), .val (.ref b13_1_1), .val (.ref b13_4_1), .val (.ref b13_7_1), .val (.ref b13_10_1), .val (.ref b3_13_1), .val (.ref b3), .val (.ref b13_10_1), .val (.ref b13_10_1)] [(.ref b13_10_1), (.ref b13_10_1)])) X27 hx rfl rfl rfl (pc0 := 222) (pc' := 225) (same := true) rfl (hb hby at_222) rfl (decide_eq_true rfl) (by decide) (by decide) ?_
    show Steps p.tables e below (T27.setTop (mkF m 225 #[.val (.int p1), .val (.int p2), .val (.int p3), .val (.int p4), .val (.int p5), .val (.int p6), .val (.int (4 : Int32)), .val (.int (3 : Int32)), .val (.ref b13_1_1), .val (.ref b13_4_1), .val (.ref b13_7_1), .val (.ref b13_10_1), .val (.ref b3_13_1), .val (.ref b3), .val (.ref b13_10_1), .val (.ref b13_10_1)] [])) _
    refine XS.aload X27.here hx rfl (hb hby at_225) rfl rfl ?_
    show Steps p.tables e below (T27.setTop (mkF m 227 #[.val (.int p1), .val (.int p2), .val (.int p3), .val (.int p4), .val (.int p5), .val (.int p6), .val (.int (4 : Int32)), .val (.int (3 : Int32)), .val (.ref b13_1_1), .val (.ref b13_4_1), .val (.ref b13_7_1), .val (.ref b13_10_1), .val (.ref b3_13_1), .val (.ref b3), .val (.ref b13_10_1), .val (.ref b13_10_1)] [(.ref b3)])) _
    refine X27.arraylength hx (by rw [e27]; exact Ar28.1) (State.isArrayOf_alike hZ.alike Ar28.2.1) (g := (mkF m 227 #[.val (.int p1), .val (.int p2), .val (.int p3), .val (.int p4), .val (.int p5), .val (.int p6), .val (.int (4 : Int32)), .val (.int (3 : Int32)), .val (.ref b13_1_1), .val (.ref b13_4_1), .val (.ref b13_7_1), .val (.ref b13_10_1), .val (.ref b3_13_1), .val (.ref b3), .val (.ref b13_10_1), .val (.ref b13_10_1)] [(.ref b3)])) rfl rfl (hb hby at_227) _ ?_
    rw [len_of Sz28 Ng28]
    show Steps p.tables e below (T27.setTop (mkF m 228 #[.val (.int p1), .val (.int p2), .val (.int p3), .val (.int p4), .val (.int p5), .val (.int p6), .val (.int (4 : Int32)), .val (.int (3 : Int32)), .val (.ref b13_1_1), .val (.ref b13_4_1), .val (.ref b13_7_1), .val (.ref b13_10_1), .val (.ref b3_13_1), .val (.ref b3), .val (.ref b13_10_1), .val (.ref b13_10_1)] [(.int (4 : Int32))])) _
    refine XS.iload X27.here hx rfl (hb hby at_228) rfl ?_
    show Steps p.tables e below (T27.setTop (mkF m 230 #[.val (.int p1), .val (.int p2), .val (.int p3), .val (.int p4), .val (.int p5), .val (.int p6), .val (.int (4 : Int32)), .val (.int (3 : Int32)), .val (.ref b13_1_1), .val (.ref b13_4_1), .val (.ref b13_7_1), .val (.ref b13_10_1), .val (.ref b3_13_1), .val (.ref b3), .val (.ref b13_10_1), .val (.ref b13_10_1)] [(.int (4 : Int32)), (.int (4 : Int32))])) _
    refine XS.icmpNo X27.here hx rfl (hb hby at_230) rfl (teq (rfl : (4 : Int32) = (4 : Int32))).2 ?_
    show Steps p.tables e below (T27.setTop (mkF m 233 #[.val (.int p1), .val (.int p2), .val (.int p3), .val (.int p4), .val (.int p5), .val (.int p6), .val (.int (4 : Int32)), .val (.int (3 : Int32)), .val (.ref b13_1_1), .val (.ref b13_4_1), .val (.ref b13_7_1), .val (.ref b13_10_1), .val (.ref b3_13_1), .val (.ref b3), .val (.ref b13_10_1), .val (.ref b13_10_1)] [])) _
    refine XS.iconst X27.here hx rfl (hb hby at_233) ?_
    show Steps p.tables e below (T27.setTop (mkF m 234 #[.val (.int p1), .val (.int p2), .val (.int p3), .val (.int p4), .val (.int p5), .val (.int p6), .val (.int (4 : Int32)), .val (.int (3 : Int32)), .val (.ref b13_1_1), .val (.ref b13_4_1), .val (.ref b13_7_1), .val (.ref b13_10_1), .val (.ref b3_13_1), .val (.ref b3), .val (.ref b13_10_1), .val (.ref b13_10_1)] [(.int (1 : Int32))])) _
    refine XS.goto X27.here hx rfl (pc0 := 234) (pc' := 238) rfl (hb hby at_234) (by decide) (by decide) ?_
    show Steps p.tables e below (T27.setTop (mkF m 238 #[.val (.int p1), .val (.int p2), .val (.int p3), .val (.int p4), .val (.int p5), .val (.int p6), .val (.int (4 : Int32)), .val (.int (3 : Int32)), .val (.ref b13_1_1), .val (.ref b13_4_1), .val (.ref b13_7_1), .val (.ref b13_10_1), .val (.ref b3_13_1), .val (.ref b3), .val (.ref b13_10_1), .val (.ref b13_10_1)] [(.int (1 : Int32))])) _
    exact retN X27 hx (t := .boolean) Bd.returns (by simp) (hb hby at_238) hr
  · show own_Qlaw h0 n0 _ T27.heap _
    exact ⟨rfl, N27⟩
set_option maxRecDepth 65536 in
theorem own_law (l : Launch) (Z : State) (a0 : Array Value) (hw : ∀ d ∈ tables_1, d.before a0 Z = true) (ws : List Jvm.Cond) (G1 : Int32) (gl : own_Glob Z G1) (p1 p2 p3 p4 p5 p6 : Int32) (h0 : Heap) (n0 : Nat) (Z0 : n0 ≤ h0.size) (X00 : Old Z n0 h0) :
    MetFree l x (head1 (Jvm.Cond.code x code maxLocals ret :: ws) room_1) (fun a U => a = #[(.int p1), (.int p2), (.int p3), (.int p4), (.int p5), (.int p6)] ∧ Z.Warmed39 U.vm ∧ U.heap = h0) (fun _ _ _ _ _ => True) (fun _ U o U' => ∃ v L, o = .returned v ∧ own_Qlaw h0 n0 v U'.heap L ∧ FrameEnd U o U' L room_1.cells room_1.slots) := by
  rcases own_nc p1 with hn | hn | hn | hn
  · exact own_law10 l Z a0 hw ws G1 gl p1 p2 p3 p4 p5 p6 h0 n0 Z0 X00 hn (own_i1 p2)
  · rcases own_i2 p2 with hi | hi
    · exact own_law20 l Z a0 hw ws G1 gl p1 p2 p3 p4 p5 p6 h0 n0 Z0 X00 hn hi
    · exact own_law21 l Z a0 hw ws G1 gl p1 p2 p3 p4 p5 p6 h0 n0 Z0 X00 hn hi
  · rcases own_i3 p2 with hi | hi | hi
    · exact own_law30 l Z a0 hw ws G1 gl p1 p2 p3 p4 p5 p6 h0 n0 Z0 X00 hn hi
    · exact own_law31 l Z a0 hw ws G1 gl p1 p2 p3 p4 p5 p6 h0 n0 Z0 X00 hn hi
    · exact own_law32 l Z a0 hw ws G1 gl p1 p2 p3 p4 p5 p6 h0 n0 Z0 X00 hn hi
  · rcases own_i4 p2 with hi | hi | hi | hi
    · exact own_law40 l Z a0 hw ws G1 gl p1 p2 p3 p4 p5 p6 h0 n0 Z0 X00 hn hi
    · exact own_law41 l Z a0 hw ws G1 gl p1 p2 p3 p4 p5 p6 h0 n0 Z0 X00 hn hi
    · exact own_law42 l Z a0 hw ws G1 gl p1 p2 p3 p4 p5 p6 h0 n0 Z0 X00 hn hi
    · exact own_law43 l Z a0 hw ws G1 gl p1 p2 p3 p4 p5 p6 h0 n0 Z0 X00 hn hi
set_option maxRecDepth 65536 in
set_option maxHeartbeats 40000000 in
theorem comes_1 {Post : Tables → Env → Array Value → State → Outcome → State → Prop} (hpost : ∀ tb e args s v u, (limb_1_1.after args s (.returned v) u = true ∧ limb_1_2.after args s (.returned v) u = true ∧ True) → FrameEnd s (.returned v) u (Jvm.fieldLocs frame_1_writes args s ++ Jvm.arrayLocs frame_1_arrays args s ++ Jvm.staticLocs frame_1_statics s) 40 192 → Post tb e args s (.returned v) u) :
    ArmFor flags0 classFile x code maxLocals ret World_1 tables_1 room_1 Calls_1 rest_1 Pre_1 Post := by
  intro l hfl _ _ p e ha hc hk s m args below hf hA hF happ hP
  obtain ⟨hcalls, hrest, hpre⟩ := hP
  obtain ⟨-, -, -, hnamed, -, -, -, hat⟩ := (Spec.applies_iff hf).mp happ
  obtain ⟨hg, hn⟩ := and_e (Cond.before_iff.mp (show (Jvm.Cond.and given_1 narrow_1).before args s = true from hpre))
  obtain ⟨cj1, cj2⟩ := and_e hg
  obtain ⟨cj3, cj4⟩ := and_e cj2
  obtain ⟨cj5, cj6⟩ := and_e cj4
  obtain ⟨cj7, cj8⟩ := and_e cj6
  obtain ⟨cj9, cj10⟩ := and_e cj8
  obtain ⟨cj11, cj12⟩ := and_e cj10
  obtain ⟨w0, w1, w2, w3, w4, w5, rfl⟩ : ∃ w0 w1 w2 w3 w4 w5 : Value, args = #[w0, w1, w2, w3, w4, w5] := by
    have hs : args.size = 6 := by simpa [Cond.value, given_1] using cj1
    obtain ⟨L⟩ := args
    match L, hs with
    | [w0, w1, w2, w3, w4, w5], _ => exact ⟨w0, w1, w2, w3, w4, w5, rfl⟩
  have hw := fun d (hd : d ∈ tables_1) => atoms_spec (ws := Jvm.Cond.code x code maxLocals ret :: tables_1) hat d (List.mem_cons_of_mem _ hd)
  have hfit : Fit s := fun {y c} hc i hi => by
    obtain ⟨ha, rfl⟩ := Array.getElem?_eq_some_iff.mp hc
    have q := List.all_eq_true.mp ((Array.all_eq_true_iff_forall_mem.mp hF) _ (Array.getElem_mem ha)) i (List.mem_range.mpr hi)
    simpa [Array.getElem?_eq_getElem hi] using q
  obtain ⟨hsets, hown0⟩ := atoms_of _ (rest_1_c_eq ▸ (show rest_1_c.before _ s = true from hrest))
  have hr0 := Cond.before_iff.mp hown0
  obtain ⟨i0, ei0⟩ := is_v cj3
  obtain rfl : w0 = (.int i0) := Option.some.inj ei0
  obtain ⟨i1, ei1⟩ := is_v cj5
  obtain rfl : w1 = (.int i1) := Option.some.inj ei1
  obtain ⟨i2, ei2⟩ := is_v cj7
  obtain rfl : w2 = (.int i2) := Option.some.inj ei2
  obtain ⟨i3, ei3⟩ := is_v cj9
  obtain rfl : w3 = (.int i3) := Option.some.inj ei3
  obtain ⟨i4, ei4⟩ := is_v cj11
  obtain rfl : w4 = (.int i4) := Option.some.inj ei4
  obtain ⟨i5, ei5⟩ := is_v cj12
  obtain rfl : w5 = (.int i5) := Option.some.inj ei5
  obtain ⟨G1, eG1⟩ := is_v (Cond.before_iff.mp (hsets _ (List.mem_of_getElem? (i := 1) rfl)))
  have O_CS : Sta s s.heap "java/lang/String" "COMPACT_STRINGS" "Z" (.int G1) := Sta.start eG1 (Or.inl (hsets _ (List.mem_of_getElem? (i := 0) rfl)))
  have P_CS : ¬ (G1 = (0 : Int32)) := gotF (Cond.eq_ints eG1 (Term.int_eval (0))) (not_v (Cond.before_iff.mp (hsets _ (List.mem_of_getElem? (i := 2) rfl))))
  obtain ⟨n, o, h1, h2, h3, _, L, rfl, ⟨rfl, N⟩, hq⟩ := own_law l s _ hw tables_1 G1 ⟨O_CS, P_CS⟩ i0 i1 i2 i3 i4 i5 s.heap s.heap.size (Nat.le_refl _) (Old.start s) p e ha hc hk s m _ below hf ((Spec.applies_iff_loose hf).mp happ).1 ⟨rfl, State.Warmed39.refl s, rfl⟩ trivial
  refine ⟨n, _, h1, h2, h3, hpost _ _ _ _ _ _ ⟨Cond.after_iff.mpr rfl, Cond.after_iff.mpr (eq_i res_at (Term.int_eval (1)) rfl), trivial⟩ ⟨hq.1, hq.2.1, (hq.2.2.sift fun y hy => Or.inr (N y hy)).mono (by decide) (by decide)⟩⟩
theorem main_1_1 : Claimed_1_1 := comes_1 fun _ _ _ _ _ _ h hF => ⟨h.1, hF⟩
theorem main_1_2 : Claimed_1_2 := comes_1 fun _ _ _ _ _ _ h hF => ⟨h.2.1, hF⟩
end Jvm.Pilot.@@N@@
namespace Jvm.Pilot.@@N@@
open Jvm Jvm.ClassFile Sem Op Lib Jvm.Free Jvm.Stand Jvm.Pilot.@@N@@.Jvm.D
/-! MADE BY PROGRAM (witnessworld.py) out of the Statement's table words and the real class files: 21 classes; the members and pool entries that the words name. The judged class is class 1, her method 2. -/
namespace start1
open Jvm.ClassFile
def u (s : String) : CpInfo := .utf8 (stringToUtf16 s)
/-- a pool by its gaps: so many unusable entries, then the entry; so many at the end -/
def gap : Nat → List CpInfo → List CpInfo
  | 0, r => r
  | n + 1, r => .unusable :: gap n r
def poolList (es : List (Nat × CpInfo)) (last : Nat) : List CpInfo := es.foldr (fun e r => gap e.1 (e.2 :: r)) (gap last [])
def pool (es : List (Nat × CpInfo)) (last : Nat) : Array CpInfo := ⟨poolList es last⟩
def fileOf (pool : Array CpInfo) (this : Nat) (attrs : Array Attribute := #[]) (ms : Array MethodInfo := #[]) (fl : Nat := 33) (sup : Nat := 0) (ifs : Array Nat := #[]) (fds : Array FieldInfo := #[]) : ClassFile where
  minorVersion := 0
  majorVersion := 65
  constantPool := pool
  accessFlags := fl
  thisClass := this
  superClass := sup
  interfaces := ifs
  fields := fds
  methods := ms
  attributes := attrs
def plain (name : String) (sup : Option ClassId) : Class where
  name := name
  kind := .ordinary
  loader := none
  accessFlags := 33
  super := sup
  interfaces := #[]
  cf := none
  fields := #[]
  methods := #[]
  instanceTypes := #[]
  staticTypes := #[]
  resolved := #[]
  callSites := []
  init := .initialized
  statics := none
  mirror := none

def pool0 : Array CpInfo := pool [(5, u "<init>"), (0, u "()V"), (1, .class_ 10), (1, u "java/lang/Object")] 113

def k0c0 : Code := { maxStack := 0, maxLocals := 1, code := object_method_1_code, exceptionTable := #[], attributes := #[] }
def k0m0 : Method := { name := "<init>", desc := "()V", sig := { parameters := [], returnType := none }, accessFlags := 1, code := some k0c0 }
/-- java/lang/Object -/
def k0 : Class := { plain "java/lang/Object" none with
  accessFlags := 33
  interfaces := #[]
  cf := some (fileOf pool0 8 #[] #[{ accessFlags := 1, nameIndex := 5, descriptorIndex := 6, attributes := #[] }] 33 0 #[] #[])
  fields := #[]
  methods := #[k0m0]
  instanceTypes := #[]
  staticTypes := #[]
  resolved := Array.replicate 124 none
  statics := none }

def pool1 : Array CpInfo := pool [(2, .class_ 4), (1, u "java/lang/Object"), (0, u "<init>"), (0, u "()V"), (0, .class_ 8), (0, u "java/lang/String"), (0, .methodref 7 10), (0, .nameAndType 5 11), (0, u "([C)V"), (0, .integer 2147483647), (0, .methodref 14 15), (0, .class_ 16), (0, .nameAndType 17 18), (0, u "com/example/dagsverke/dagsverke/CommandLineValuePinLaw"), (0, u "str"), (0, u "(CI)Ljava/lang/String;"), (0, .methodref 7 20), (0, .nameAndType 21 22), (0, u "valueOf"), (0, u "(C)Ljava/lang/String;"), (0, .methodref 24 25), (0, .class_ 26), (0, .nameAndType 27 28), (0, u "com/example/dagsverke/dagsverke/CommandLine"), (0, u "value"), (0, u "([Ljava/lang/String;ILjava/lang/String;)Ljava/lang/String;"), (2, u "law"), (0, u "(IIIIII)Z")] 8

def k1m0 : Method := { name := "<init>", desc := "()V", sig := { parameters := [], returnType := none }, accessFlags := 1, code := none }
def k1c1 : Code := { maxStack := 5, maxLocals := 3, code := method_2_code, exceptionTable := #[], attributes := #[] }
def k1m1 : Method := { name := "str", desc := "(CI)Ljava/lang/String;", sig := { parameters := [.char, .int], returnType := some (.object "java/lang/String") }, accessFlags := 10, code := some k1c1 }
def k1c2 : Code := { maxStack := 4, maxLocals := 16, code := code, exceptionTable := #[], attributes := #[] }
def k1m2 : Method := { name := "law", desc := "(IIIIII)Z", sig := { parameters := [.int, .int, .int, .int, .int, .int], returnType := some .boolean }, accessFlags := 9, code := some k1c2 }
/-- com/example/dagsverke/dagsverke/CommandLineValuePinLaw -/
def k1 : Class := { plain "com/example/dagsverke/dagsverke/CommandLineValuePinLaw" (some 0) with
  accessFlags := 49
  interfaces := #[]
  cf := some (fileOf pool1 14 #[] #[{ accessFlags := 1, nameIndex := 5, descriptorIndex := 6, attributes := #[] }, { accessFlags := 10, nameIndex := 17, descriptorIndex := 18, attributes := #[] }, { accessFlags := 9, nameIndex := 31, descriptorIndex := 32, attributes := #[] }] 49 2 #[] #[])
  fields := #[]
  methods := #[k1m0, k1m1, k1m2]
  instanceTypes := #[]
  staticTypes := #[]
  resolved := Array.replicate 41 none
  statics := none }

def pool2 : Array CpInfo := pool [(1, .class_ 2), (0, u "java/io/Serializable"), (0, .class_ 4), (0, u "java/lang/Object")] 2

/-- java/io/Serializable -/
def k2 : Class := { plain "java/io/Serializable" (some 0) with
  accessFlags := 1537
  interfaces := #[]
  cf := some (fileOf pool2 1 #[] #[] 1537 3 #[] #[])
  fields := #[]
  methods := #[]
  instanceTypes := #[]
  staticTypes := #[]
  resolved := Array.replicate 7 none
  statics := none }

def pool3 : Array CpInfo := pool [(1, .class_ 2), (0, u "java/lang/Comparable"), (0, .class_ 4), (0, u "java/lang/Object")] 7

/-- java/lang/Comparable -/
def k3 : Class := { plain "java/lang/Comparable" (some 0) with
  accessFlags := 1537
  interfaces := #[]
  cf := some (fileOf pool3 1 #[] #[] 1537 3 #[] #[])
  fields := #[]
  methods := #[]
  instanceTypes := #[]
  staticTypes := #[]
  resolved := Array.replicate 12 none
  statics := none }

def pool4 : Array CpInfo := pool [(2, .class_ 4), (1, u "java/lang/CharSequence"), (42, .class_ 48), (0, u "java/lang/CharSequence$1CodePointIterator"), (10, .class_ 60), (0, u "java/lang/CharSequence$1CharIterator"), (5, .class_ 67), (0, u "java/lang/Object")] 63

/-- java/lang/CharSequence -/
def k4 : Class := { plain "java/lang/CharSequence" (some 0) with
  accessFlags := 1537
  interfaces := #[]
  cf := some (fileOf pool4 2 #[.nestMembers #[47, 59]] #[] 1537 66 #[] #[])
  fields := #[]
  methods := #[]
  instanceTypes := #[]
  staticTypes := #[]
  resolved := Array.replicate 131 none
  statics := none }

def pool5 : Array CpInfo := pool [(1, .class_ 2), (0, u "java/lang/constant/Constable"), (0, .class_ 4), (0, u "java/lang/Object")] 6

/-- java/lang/constant/Constable -/
def k5 : Class := { plain "java/lang/constant/Constable" (some 0) with
  accessFlags := 1537
  interfaces := #[]
  cf := some (fileOf pool5 1 #[] #[] 1537 3 #[] #[])
  fields := #[]
  methods := #[]
  instanceTypes := #[]
  staticTypes := #[]
  resolved := Array.replicate 11 none
  statics := none }

def pool6 : Array CpInfo := pool [(1, .class_ 2), (0, u "java/lang/constant/ConstantDesc"), (0, .class_ 4), (0, u "java/lang/Object")] 32

/-- java/lang/constant/ConstantDesc -/
def k6 : Class := { plain "java/lang/constant/ConstantDesc" (some 0) with
  accessFlags := 1537
  interfaces := #[]
  cf := some (fileOf pool6 1 #[] #[] 1537 3 #[] #[])
  fields := #[]
  methods := #[]
  instanceTypes := #[]
  staticTypes := #[]
  resolved := Array.replicate 37 none
  statics := none }

def pool7 : Array CpInfo := pool [(1, .methodref 2 3), (0, .class_ 4), (0, .nameAndType 5 6), (0, u "java/lang/Object"), (0, u "<init>"), (0, u "()V"), (2, .fieldref 10 11), (0, .class_ 12), (0, .nameAndType 13 14), (0, u "java/lang/String"), (0, u "value"), (0, u "[B"), (0, .fieldref 10 16), (0, .nameAndType 17 18), (0, u "coder"), (0, u "B"), (2, u "hash"), (0, u "I"), (2, u "hashIsZero"), (0, u "Z"), (0, .methodref 10 28), (0, .nameAndType 5 29), (0, u "([CIILjava/lang/Void;)V"), (8, .fieldref 10 39), (0, .nameAndType 40 26), (0, u "COMPACT_STRINGS"), (1, .class_ 44), (1, u "java/lang/StringUTF16"), (0, u "compress"), (1, .methodref 42 48), (0, .nameAndType 49 50), (0, u "coderFromArrayLen"), (0, u "([BI)B"), (2, u "toBytes"), (53, .class_ 109), (1, u "java/lang/StringLatin1"), (67, .methodref 42 178), (0, .nameAndType 45 179), (0, u "([CII)[B"), (29, .methodref 10 210), (0, .nameAndType 5 211), (0, u "([BB)V"), (157, u "(C)Z"), (205, .class_ 576), (0, u "java/lang/CharSequence"), (22, u "CASE_INSENSITIVE_ORDER"), (0, u "Ljava/util/Comparator;"), (181, u "valueOf"), (0, u "(C)Ljava/lang/String;"), (226, u "([C)V"), (4, .methodref 107 1016), (0, .nameAndType 1017 369), (0, u "canEncode"), (0, .methodref 107 1019), (0, .nameAndType 53 1020), (0, u "(C)[B"), (80, u "serialPersistentFields"), (0, u "[Ljava/io/ObjectStreamField;"), (0, .class_ 1104), (0, u "java/lang/String$CaseInsensitiveComparator"), (1, .class_ 1107), (0, u "java/io/Serializable"), (0, .class_ 1109), (0, u "java/lang/Comparable"), (0, .class_ 1111), (0, u "java/lang/constant/Constable"), (0, .class_ 1113), (0, u "java/lang/constant/ConstantDesc"), (2, u "serialVersionUID"), (0, u "J"), (3, u "REPL"), (0, u "C"), (2, u "LATIN1"), (1, u "UTF16")] 323

def k7m0 : Method := { name := "<init>", desc := "()V", sig := { parameters := [], returnType := none }, accessFlags := 1, code := none }
def k7c1 : Code := { maxStack := 5, maxLocals := 2, code := jdk_42_method_3_code, exceptionTable := #[], attributes := #[] }
def k7m1 : Method := { name := "<init>", desc := "([C)V", sig := { parameters := [(.array .char)], returnType := none }, accessFlags := 1, code := some k7c1 }
def k7c2 : Code := { maxStack := 4, maxLocals := 1, code := jdk_42_method_139_code, exceptionTable := #[], attributes := #[] }
def k7m2 : Method := { name := "valueOf", desc := "(C)Ljava/lang/String;", sig := { parameters := [.char], returnType := some (.object "java/lang/String") }, accessFlags := 9, code := some k7c2 }
def k7c3 : Code := { maxStack := 4, maxLocals := 6, code := jdk_42_method_149_code, exceptionTable := #[], attributes := #[] }
def k7m3 : Method := { name := "<init>", desc := "([CIILjava/lang/Void;)V", sig := { parameters := [(.array .char), .int, .int, (.object "java/lang/Void")], returnType := none }, accessFlags := 2, code := some k7c3 }
def k7c4 : Code := { maxStack := 2, maxLocals := 3, code := jdk_42_method_151_code, exceptionTable := #[], attributes := #[] }
def k7m4 : Method := { name := "<init>", desc := "([BB)V", sig := { parameters := [(.array .byte), .byte], returnType := none }, accessFlags := 0, code := some k7c4 }
/-- java/lang/String -/
def k7 : Class := { plain "java/lang/String" (some 0) with
  accessFlags := 49
  interfaces := #[2, 3, 4, 5, 6]
  cf := some (fileOf pool7 10 #[.nestMembers #[1103]] #[{ accessFlags := 1, nameIndex := 5, descriptorIndex := 6, attributes := #[] }, { accessFlags := 1, nameIndex := 5, descriptorIndex := 1010, attributes := #[] }, { accessFlags := 9, nameIndex := 782, descriptorIndex := 783, attributes := #[] }, { accessFlags := 2, nameIndex := 5, descriptorIndex := 29, attributes := #[] }, { accessFlags := 0, nameIndex := 5, descriptorIndex := 211, attributes := #[] }] 49 2 #[1106, 1108, 575, 1110, 1112] #[{ accessFlags := 18, nameIndex := 13, descriptorIndex := 14, attributes := #[] }, { accessFlags := 18, nameIndex := 17, descriptorIndex := 18, attributes := #[] }, { accessFlags := 2, nameIndex := 21, descriptorIndex := 22, attributes := #[] }, { accessFlags := 2, nameIndex := 25, descriptorIndex := 26, attributes := #[] }, { accessFlags := 26, nameIndex := 1116, descriptorIndex := 1117, attributes := #[] }, { accessFlags := 24, nameIndex := 40, descriptorIndex := 26, attributes := #[] }, { accessFlags := 26, nameIndex := 1101, descriptorIndex := 1102, attributes := #[] }, { accessFlags := 26, nameIndex := 1121, descriptorIndex := 1122, attributes := #[] }, { accessFlags := 25, nameIndex := 599, descriptorIndex := 600, attributes := #[] }, { accessFlags := 24, nameIndex := 1125, descriptorIndex := 18, attributes := #[] }, { accessFlags := 24, nameIndex := 1127, descriptorIndex := 18, attributes := #[] }])
  fields := #[{ name := "value", type := (.array .byte), accessFlags := 18, slot := 0, constantValue := 0 }, { name := "coder", type := .byte, accessFlags := 18, slot := 1, constantValue := 0 }, { name := "hash", type := .int, accessFlags := 2, slot := 2, constantValue := 0 }, { name := "hashIsZero", type := .boolean, accessFlags := 2, slot := 3, constantValue := 0 }, { name := "serialVersionUID", type := .long, accessFlags := 26, slot := 0, constantValue := 0 }, { name := "COMPACT_STRINGS", type := .boolean, accessFlags := 24, slot := 1, constantValue := 0 }, { name := "serialPersistentFields", type := (.array (.object "java/io/ObjectStreamField")), accessFlags := 26, slot := 2, constantValue := 0 }, { name := "REPL", type := .char, accessFlags := 26, slot := 3, constantValue := 0 }, { name := "CASE_INSENSITIVE_ORDER", type := (.object "java/util/Comparator"), accessFlags := 25, slot := 4, constantValue := 0 }, { name := "LATIN1", type := .byte, accessFlags := 24, slot := 5, constantValue := 0 }, { name := "UTF16", type := .byte, accessFlags := 24, slot := 6, constantValue := 0 }]
  methods := #[k7m0, k7m1, k7m2, k7m3, k7m4]
  instanceTypes := #[(.array .byte), .byte, .int, .boolean]
  staticTypes := #[.long, .boolean, (.array (.object "java/io/ObjectStreamField")), .char, (.object "java/util/Comparator"), .byte, .byte]
  resolved := Array.replicate 1451 none
  statics := some 0 }

def pool8 : Array CpInfo := pool [(6, .class_ 8), (1, u "java/lang/Object"), (0, u "<init>"), (0, u "()V"), (1, .class_ 14), (1, u "java/lang/StringUTF16"), (31, u "$assertionsDisabled"), (0, u "Z"), (13, u "HI_BYTE_SHIFT"), (0, u "I"), (2, u "LO_BYTE_SHIFT"), (49, .methodref 12 116), (0, .nameAndType 117 118), (0, u "compress"), (0, u "([CI[BII)I"), (3, u "([CII)[B"), (138, u "coderFromArrayLen"), (0, u "([BI)B"), (106, .class_ 371), (1, u "java/lang/StringUTF16$LinesSpliterator"), (58, u "MAX_LENGTH"), (196, .class_ 628), (0, u "java/lang/StringUTF16$CodePointsSpliterator"), (0, .class_ 630), (0, u "java/lang/StringUTF16$CharsSpliterator")] 4

def k8m0 : Method := { name := "<init>", desc := "()V", sig := { parameters := [], returnType := none }, accessFlags := 0, code := none }
def k8c1 : Code := { maxStack := 2, maxLocals := 2, code := jdk_52_method_15_code, exceptionTable := #[], attributes := #[] }
def k8m1 : Method := { name := "coderFromArrayLen", desc := "([BI)B", sig := { parameters := [(.array .byte), .int], returnType := some .byte }, accessFlags := 8, code := some k8c1 }
def k8c2 : Code := { maxStack := 5, maxLocals := 6, code := jdk_52_method_16_code, exceptionTable := #[], attributes := #[] }
def k8m2 : Method := { name := "compress", desc := "([CII)[B", sig := { parameters := [(.array .char), .int, .int], returnType := some (.array .byte) }, accessFlags := 9, code := some k8c2 }
def k8c3 : Code := { maxStack := 3, maxLocals := 7, code := jdk_52_method_21_code, exceptionTable := #[], attributes := #[] }
def k8m3 : Method := { name := "compress", desc := "([CI[BII)I", sig := { parameters := [(.array .char), .int, (.array .byte), .int, .int], returnType := some .int }, accessFlags := 9, code := some k8c3 }
/-- java/lang/StringUTF16 -/
def k8 : Class := { plain "java/lang/StringUTF16" (some 0) with
  accessFlags := 48
  interfaces := #[]
  cf := some (fileOf pool8 12 #[.nestMembers #[627, 629, 369]] #[{ accessFlags := 0, nameIndex := 9, descriptorIndex := 10, attributes := #[] }, { accessFlags := 8, nameIndex := 261, descriptorIndex := 262, attributes := #[] }, { accessFlags := 9, nameIndex := 117, descriptorIndex := 122, attributes := #[] }, { accessFlags := 9, nameIndex := 117, descriptorIndex := 118, attributes := #[] }] 48 6 #[] #[{ accessFlags := 26, nameIndex := 61, descriptorIndex := 62, attributes := #[] }, { accessFlags := 26, nameIndex := 65, descriptorIndex := 62, attributes := #[] }, { accessFlags := 24, nameIndex := 430, descriptorIndex := 62, attributes := #[] }, { accessFlags := 4120, nameIndex := 46, descriptorIndex := 47, attributes := #[] }])
  fields := #[{ name := "HI_BYTE_SHIFT", type := .int, accessFlags := 26, slot := 0, constantValue := 0 }, { name := "LO_BYTE_SHIFT", type := .int, accessFlags := 26, slot := 1, constantValue := 0 }, { name := "MAX_LENGTH", type := .int, accessFlags := 24, slot := 2, constantValue := 0 }, { name := "$assertionsDisabled", type := .boolean, accessFlags := 4120, slot := 3, constantValue := 0 }]
  methods := #[k8m0, k8m1, k8m2, k8m3]
  instanceTypes := #[]
  staticTypes := #[.int, .int, .int, .boolean]
  resolved := Array.replicate 635 none
  statics := none }

def pool9 : Array CpInfo := pool [(4, .class_ 6), (1, u "java/lang/Object"), (0, u "<init>"), (0, u "()V"), (5, .class_ 16), (1, u "java/lang/StringLatin1"), (73, u "canEncode"), (14, u "(C)Z"), (15, u "$assertionsDisabled"), (0, u "Z"), (98, .class_ 223), (1, u "java/lang/StringLatin1$LinesSpliterator"), (156, u "toBytes"), (1, u "(C)[B"), (7, .class_ 391), (0, u "java/lang/StringLatin1$CharsSpliterator")] 3

def k9m0 : Method := { name := "<init>", desc := "()V", sig := { parameters := [], returnType := none }, accessFlags := 0, code := none }
def k9c1 : Code := { maxStack := 2, maxLocals := 1, code := jdk_43_method_3_code, exceptionTable := #[], attributes := #[] }
def k9m1 : Method := { name := "canEncode", desc := "(C)Z", sig := { parameters := [.char], returnType := some .boolean }, accessFlags := 9, code := some k9c1 }
def k9c2 : Code := { maxStack := 4, maxLocals := 1, code := jdk_43_method_46_code, exceptionTable := #[], attributes := #[] }
def k9m2 : Method := { name := "toBytes", desc := "(C)[B", sig := { parameters := [.char], returnType := some (.array .byte) }, accessFlags := 9, code := some k9c2 }
/-- java/lang/StringLatin1 -/
def k9 : Class := { plain "java/lang/StringLatin1" (some 0) with
  accessFlags := 48
  interfaces := #[]
  cf := some (fileOf pool9 14 #[.nestMembers #[390, 221]] #[{ accessFlags := 0, nameIndex := 7, descriptorIndex := 8, attributes := #[] }, { accessFlags := 9, nameIndex := 90, descriptorIndex := 105, attributes := #[] }, { accessFlags := 9, nameIndex := 380, descriptorIndex := 382, attributes := #[] }] 48 4 #[] #[{ accessFlags := 4120, nameIndex := 121, descriptorIndex := 122, attributes := #[] }])
  fields := #[{ name := "$assertionsDisabled", type := .boolean, accessFlags := 4120, slot := 0, constantValue := 0 }]
  methods := #[k9m0, k9m1, k9m2]
  instanceTypes := #[]
  staticTypes := #[.boolean]
  resolved := Array.replicate 395 none
  statics := none }

def pool10 : Array CpInfo := pool [(2, .class_ 4), (1, u "java/lang/Object"), (0, u "<init>"), (0, u "()V"), (59, .class_ 67), (0, u "com/example/dagsverke/dagsverke/CommandLine"), (2, u "value"), (0, u "([Ljava/lang/String;ILjava/lang/String;)Ljava/lang/String;")] 31

def k10m0 : Method := { name := "<init>", desc := "()V", sig := { parameters := [], returnType := none }, accessFlags := 2, code := none }
def k10c1 : Code := { maxStack := 3, maxLocals := 3, code := prog_1_method_2_code, exceptionTable := #[], attributes := #[] }
def k10m1 : Method := { name := "value", desc := "([Ljava/lang/String;ILjava/lang/String;)Ljava/lang/String;", sig := { parameters := [(.array (.object "java/lang/String")), .int, (.object "java/lang/String")], returnType := some (.object "java/lang/String") }, accessFlags := 9, code := some k10c1 }
/-- com/example/dagsverke/dagsverke/CommandLine -/
def k10 : Class := { plain "com/example/dagsverke/dagsverke/CommandLine" (some 0) with
  accessFlags := 33
  interfaces := #[]
  cf := some (fileOf pool10 66 #[] #[{ accessFlags := 2, nameIndex := 5, descriptorIndex := 6, attributes := #[] }, { accessFlags := 9, nameIndex := 70, descriptorIndex := 71, attributes := #[] }] 33 2 #[] #[])
  fields := #[]
  methods := #[k10m0, k10m1]
  instanceTypes := #[]
  staticTypes := #[]
  resolved := Array.replicate 103 none
  statics := none }

def pool11 : Array CpInfo := pool [(2, .class_ 4), (1, u "java/lang/Object"), (0, u "<init>"), (0, u "()V"), (17, .class_ 26), (1, u "jdk/internal/util/Preconditions"), (28, .class_ 56), (0, u "jdk/internal/util/Preconditions$4"), (57, .class_ 115), (0, u "jdk/internal/util/Preconditions$1"), (7, u "SIOOBE_FORMATTER"), (0, u "Ljava/util/function/BiFunction;"), (0, .class_ 126), (0, u "jdk/internal/util/Preconditions$2"), (3, u "AIOOBE_FORMATTER"), (0, .class_ 132), (0, u "jdk/internal/util/Preconditions$3"), (3, u "IOOBE_FORMATTER")] 57

def k11m0 : Method := { name := "<init>", desc := "()V", sig := { parameters := [], returnType := none }, accessFlags := 1, code := none }
/-- jdk/internal/util/Preconditions -/
def k11 : Class := { plain "jdk/internal/util/Preconditions" (some 0) with
  accessFlags := 33
  interfaces := #[]
  cf := some (fileOf pool11 24 #[.nestMembers #[55, 131, 125, 114]] #[{ accessFlags := 1, nameIndex := 5, descriptorIndex := 6, attributes := #[] }] 33 2 #[] #[{ accessFlags := 25, nameIndex := 123, descriptorIndex := 124, attributes := #[] }, { accessFlags := 25, nameIndex := 130, descriptorIndex := 124, attributes := #[] }, { accessFlags := 25, nameIndex := 136, descriptorIndex := 124, attributes := #[] }])
  fields := #[{ name := "SIOOBE_FORMATTER", type := (.object "java/util/function/BiFunction"), accessFlags := 25, slot := 0, constantValue := 0 }, { name := "AIOOBE_FORMATTER", type := (.object "java/util/function/BiFunction"), accessFlags := 25, slot := 1, constantValue := 0 }, { name := "IOOBE_FORMATTER", type := (.object "java/util/function/BiFunction"), accessFlags := 25, slot := 2, constantValue := 0 }]
  methods := #[k11m0]
  instanceTypes := #[]
  staticTypes := #[(.object "java/util/function/BiFunction"), (.object "java/util/function/BiFunction"), (.object "java/util/function/BiFunction")]
  resolved := Array.replicate 194 none
  statics := some 1 }

def pool12 : Array CpInfo := pool [(9, u "<init>"), (6, .class_ 18), (1, u "java/lang/Object"), (0, u "()V"), (1, .class_ 23), (1, u "jdk/internal/util/ArraysSupport"), (0, u "LOG2_ARRAY_LONG_INDEX_SCALE"), (0, u "I"), (2, u "U"), (0, u "Ljdk/internal/misc/Unsafe;"), (8, u "BIG_ENDIAN"), (0, u "Z"), (8, u "LOG2_BYTE_BIT_SIZE"), (4, u "LOG2_ARRAY_INT_INDEX_SCALE"), (54, u "JLA"), (0, u "Ljdk/internal/access/JavaLangAccess;"), (11, u "LOG2_ARRAY_BOOLEAN_INDEX_SCALE"), (9, u "LOG2_ARRAY_BYTE_INDEX_SCALE"), (5, u "LOG2_ARRAY_CHAR_INDEX_SCALE"), (5, u "LOG2_ARRAY_SHORT_INDEX_SCALE"), (18, u "LOG2_ARRAY_FLOAT_INDEX_SCALE"), (24, u "LOG2_ARRAY_DOUBLE_INDEX_SCALE"), (89, u "T_BOOLEAN"), (2, u "T_CHAR"), (1, u "T_FLOAT"), (1, u "T_DOUBLE"), (1, u "T_BYTE"), (1, u "T_SHORT"), (1, u "T_INT"), (1, u "T_LONG"), (1, u "SOFT_MAX_ARRAY_LENGTH")] 83

def k12m0 : Method := { name := "<init>", desc := "()V", sig := { parameters := [], returnType := none }, accessFlags := 2, code := none }
/-- jdk/internal/util/ArraysSupport -/
def k12 : Class := { plain "jdk/internal/util/ArraysSupport" (some 0) with
  accessFlags := 33
  interfaces := #[]
  cf := some (fileOf pool12 21 #[] #[{ accessFlags := 2, nameIndex := 9, descriptorIndex := 19, attributes := #[] }] 33 16 #[] #[{ accessFlags := 24, nameIndex := 28, descriptorIndex := 29, attributes := #[] }, { accessFlags := 26, nameIndex := 38, descriptorIndex := 39, attributes := #[] }, { accessFlags := 25, nameIndex := 121, descriptorIndex := 25, attributes := #[] }, { accessFlags := 25, nameIndex := 131, descriptorIndex := 25, attributes := #[] }, { accessFlags := 25, nameIndex := 137, descriptorIndex := 25, attributes := #[] }, { accessFlags := 25, nameIndex := 143, descriptorIndex := 25, attributes := #[] }, { accessFlags := 25, nameIndex := 53, descriptorIndex := 25, attributes := #[] }, { accessFlags := 25, nameIndex := 24, descriptorIndex := 25, attributes := #[] }, { accessFlags := 25, nameIndex := 162, descriptorIndex := 25, attributes := #[] }, { accessFlags := 25, nameIndex := 187, descriptorIndex := 25, attributes := #[] }, { accessFlags := 26, nameIndex := 48, descriptorIndex := 25, attributes := #[] }, { accessFlags := 25, nameIndex := 277, descriptorIndex := 25, attributes := #[] }, { accessFlags := 25, nameIndex := 280, descriptorIndex := 25, attributes := #[] }, { accessFlags := 25, nameIndex := 282, descriptorIndex := 25, attributes := #[] }, { accessFlags := 25, nameIndex := 284, descriptorIndex := 25, attributes := #[] }, { accessFlags := 25, nameIndex := 286, descriptorIndex := 25, attributes := #[] }, { accessFlags := 25, nameIndex := 288, descriptorIndex := 25, attributes := #[] }, { accessFlags := 25, nameIndex := 290, descriptorIndex := 25, attributes := #[] }, { accessFlags := 25, nameIndex := 292, descriptorIndex := 25, attributes := #[] }, { accessFlags := 26, nameIndex := 108, descriptorIndex := 109, attributes := #[] }, { accessFlags := 25, nameIndex := 294, descriptorIndex := 25, attributes := #[] }])
  fields := #[{ name := "U", type := (.object "jdk/internal/misc/Unsafe"), accessFlags := 24, slot := 0, constantValue := 0 }, { name := "BIG_ENDIAN", type := .boolean, accessFlags := 26, slot := 1, constantValue := 0 }, { name := "LOG2_ARRAY_BOOLEAN_INDEX_SCALE", type := .int, accessFlags := 25, slot := 2, constantValue := 0 }, { name := "LOG2_ARRAY_BYTE_INDEX_SCALE", type := .int, accessFlags := 25, slot := 3, constantValue := 0 }, { name := "LOG2_ARRAY_CHAR_INDEX_SCALE", type := .int, accessFlags := 25, slot := 4, constantValue := 0 }, { name := "LOG2_ARRAY_SHORT_INDEX_SCALE", type := .int, accessFlags := 25, slot := 5, constantValue := 0 }, { name := "LOG2_ARRAY_INT_INDEX_SCALE", type := .int, accessFlags := 25, slot := 6, constantValue := 0 }, { name := "LOG2_ARRAY_LONG_INDEX_SCALE", type := .int, accessFlags := 25, slot := 7, constantValue := 0 }, { name := "LOG2_ARRAY_FLOAT_INDEX_SCALE", type := .int, accessFlags := 25, slot := 8, constantValue := 0 }, { name := "LOG2_ARRAY_DOUBLE_INDEX_SCALE", type := .int, accessFlags := 25, slot := 9, constantValue := 0 }, { name := "LOG2_BYTE_BIT_SIZE", type := .int, accessFlags := 26, slot := 10, constantValue := 0 }, { name := "T_BOOLEAN", type := .int, accessFlags := 25, slot := 11, constantValue := 0 }, { name := "T_CHAR", type := .int, accessFlags := 25, slot := 12, constantValue := 0 }, { name := "T_FLOAT", type := .int, accessFlags := 25, slot := 13, constantValue := 0 }, { name := "T_DOUBLE", type := .int, accessFlags := 25, slot := 14, constantValue := 0 }, { name := "T_BYTE", type := .int, accessFlags := 25, slot := 15, constantValue := 0 }, { name := "T_SHORT", type := .int, accessFlags := 25, slot := 16, constantValue := 0 }, { name := "T_INT", type := .int, accessFlags := 25, slot := 17, constantValue := 0 }, { name := "T_LONG", type := .int, accessFlags := 25, slot := 18, constantValue := 0 }, { name := "JLA", type := (.object "jdk/internal/access/JavaLangAccess"), accessFlags := 26, slot := 19, constantValue := 0 }, { name := "SOFT_MAX_ARRAY_LENGTH", type := .int, accessFlags := 25, slot := 20, constantValue := 0 }]
  methods := #[k12m0]
  instanceTypes := #[]
  staticTypes := #[(.object "jdk/internal/misc/Unsafe"), .boolean, .int, .int, .int, .int, .int, .int, .int, .int, .int, .int, .int, .int, .int, .int, .int, .int, .int, (.object "jdk/internal/access/JavaLangAccess"), .int]
  resolved := Array.replicate 378 none
  statics := none }

def pool13 : Array CpInfo := pool [(1, u "java/lang/Cloneable"), (0, .class_ 1), (0, u "java/lang/Object"), (0, .class_ 3)] 3

/-- java/lang/Cloneable -/
def k13 : Class := { plain "java/lang/Cloneable" (some 0) with
  accessFlags := 1537
  interfaces := #[]
  cf := some (fileOf pool13 2 #[] #[] 1537 4 #[] #[])
  fields := #[]
  methods := #[]
  instanceTypes := #[]
  staticTypes := #[]
  resolved := Array.replicate 8 none
  statics := none }

/-- the primitive byte -/
def k14 : Class := { plain "byte" none with kind := .primitive 'B', accessFlags := 0x411 }
/-- [B -/
def k15 : Class := { plain "[B" (some 0) with kind := .array 14 .byte, interfaces := #[13, 2], accessFlags := 1041 }

/-- the primitive char -/
def k16 : Class := { plain "char" none with kind := .primitive 'C', accessFlags := 0x411 }
/-- [C -/
def k17 : Class := { plain "[C" (some 0) with kind := .array 16 .char, interfaces := #[13, 2], accessFlags := 1041 }

/-- the primitive int -/
def k18 : Class := { plain "int" none with kind := .primitive 'I', accessFlags := 0x411 }
/-- [I -/
def k19 : Class := { plain "[I" (some 0) with kind := .array 18 .int, interfaces := #[13, 2], accessFlags := 1041 }

/-- [Ljava/lang/String; -/
def k20 : Class := { plain "[Ljava/lang/String;" (some 0) with kind := .array 7 (.object "java/lang/String"), interfaces := #[13, 2], accessFlags := 1041 }

def heap : Heap := #[{ cls := 7, slots := #[.long 0, .int 1, .null, .int 0, .null, .int 0, .int 0], vm := .statics 7 },
  { cls := 11, slots := #[.null, .null, .null], vm := .statics 11 }]
def classes : Array Class := #[k0, k1, k2, k3, k4, k5, k6, k7, k8, k9, k10, k11, k12, k13, k14, k15, k16, k17, k18, k19, k20]
def interned : List (Array UInt16 × Addr) := []
def slotsUsed : Nat := 10
def theMethod : MethodId := ⟨1, 2⟩
def args0 : Array Value := #[.int 5, .int 6, .int 7, .int 8, .int 9, .int 10]
def aboutOver (below : List Frame) : State where
  vm := { classes := classes, interned := interned.toArray }
  heap := heap
  slotsUsed := slotsUsed
  threads := #[{ frames := .invoking theMethod args0 :: below }]
def below0 : List Frame := [.native { method := ⟨0, 0⟩, args := #[] }]
def about1 : State := aboutOver below0
def p0 : Program := .bare "" "" ""
def e0 : Env := launch0.env 0 0 0
theorem w_frames : about1.frames = Frame.invoking theMethod args0 :: below0 := rfl
set_option maxRecDepth 65536 in
theorem w_args : argsFit about1.vm theMethod args0 = true := by decide +kernel
set_option maxRecDepth 65536 in
theorem w_heap : heapFits about1 = true := by decide +kernel
set_option maxRecDepth 65536 in
theorem w_runnable : about1.curStatus? = some .runnable := by decide +kernel
set_option maxRecDepth 65536 in
theorem w_alone : about1.alone = true := by decide +kernel
set_option maxRecDepth 65536 in
theorem w_named : about1.methodNamed? x = some theMethod := by decide +kernel
set_option maxRecDepth 65536 in
theorem w_hears : about1.hears theMethod below0 = true := by decide +kernel
set_option maxRecDepth 65536 in
theorem w_ripe : about1.ripe theMethod args0 below0 = true := by decide +kernel
theorem w_running : about1.status = .running := rfl
set_option maxRecDepth 65536 in
theorem w_room : about1.hasRoom e0.platform room_1 = true :=
  launch0.hasRoom_least _ room_1 (by decide +kernel) (by decide +kernel) (by decide +kernel) (by decide +kernel) (by decide +kernel) (by decide +kernel)
theorem allAtoms_all (ts : List Jvm.Cond) (a : Array Jvm.Value) (st : Jvm.State) : (allAtoms ts).before a st = ts.all (fun c => c.before a st) := by
  induction ts with
  | nil => rfl
  | cons c t ih =>
    show (Jvm.Cond.and c (allAtoms t)).before a st = _
    rw [Jvm.Cond.before_and, ih, List.all_cons]
def words1 : List Jvm.Cond := Jvm.Cond.code x code maxLocals ret :: tables_1
/-- a 'code' word, met by the world's own term for the bytes: nothing is compared byte by byte -/
theorem code_word {y : MethodName} {bytes : ByteArray} {mx : Nat} {rt : Option FieldType} {a : Array Value} {s : State} {m : MethodId} {meth : Method} {c : Code} (h1 : s.methodNamed? y = some m) (h2 : s.vm.method? m = some meth) (h3 : meth.code = some c) (h4 : c.code = bytes)
    (h5 : (c.maxLocals == mx && c.exceptionTable.isEmpty && decide (c.maxStack ≤ mostOperands) && decide (meth.sig.returnType = rt) && !meth.locks && decide (parseMethodDescriptor y.desc = some meth.sig)) = true) : (Jvm.Cond.code y bytes mx rt).before a s = true := by
  simp only [Bool.and_eq_true, beq_iff_eq, Bool.not_eq_true', decide_eq_true_eq] at h5
  obtain ⟨⟨⟨⟨⟨g1, g2⟩, g3⟩, g4⟩, g5⟩, g6⟩ := h5
  simp [Cond.before, Cond.holds, Cond.value, h1, h2, h3, h4, g1, g2, g3, g4, g5, g6]
def isCode : Jvm.Cond → Bool
  | .code _ _ _ _ => true
  | _ => false
theorem all_split {L : List Jvm.Cond} {P : Jvm.Cond → Bool} (h1 : L.all (fun c => isCode c || P c) = true) (h2 : ∀ c ∈ L.filter isCode, P c = true) : L.all P = true := by
  refine List.all_eq_true.mpr fun c hc => ?_
  have h := List.all_eq_true.mp h1 c hc
  rcases Bool.eq_false_or_eq_true (isCode c) with hi | hi
  · exact h2 c (List.mem_filter.mpr ⟨hc, hi⟩)
  · simpa [hi] using h
set_option maxRecDepth 65536 in
theorem w_c0 : (Jvm.Cond.code x code maxLocals ret).before args0 about1 = true := code_word (m := ⟨1, 2⟩) (meth := k1m2) (c := k1c2) (by decide +kernel) rfl rfl rfl (by decide +kernel)
set_option maxRecDepth 65536 in
theorem w_c1 : (Jvm.Cond.code ({ cls := "com/example/dagsverke/dagsverke/CommandLineValuePinLaw", name := "str", desc := "(CI)Ljava/lang/String;" } : Jvm.MethodName) method_2_code (3 : Nat) (Option.some (Jvm.ClassFile.FieldType.object "java/lang/String"))).before args0 about1 = true := code_word (m := ⟨1, 1⟩) (meth := k1m1) (c := k1c1) (by decide +kernel) rfl rfl rfl (by decide +kernel)
set_option maxRecDepth 65536 in
theorem w_c2 : (Jvm.Cond.code ({ cls := "java/lang/String", name := "<init>", desc := "([C)V" } : Jvm.MethodName) jdk_42_method_3_code (2 : Nat) (Option.none : Option Jvm.ClassFile.FieldType)).before args0 about1 = true := code_word (m := ⟨7, 1⟩) (meth := k7m1) (c := k7c1) (by decide +kernel) rfl rfl rfl (by decide +kernel)
set_option maxRecDepth 65536 in
theorem w_c3 : (Jvm.Cond.code ({ cls := "java/lang/String", name := "<init>", desc := "([CIILjava/lang/Void;)V" } : Jvm.MethodName) jdk_42_method_149_code (6 : Nat) (Option.none : Option Jvm.ClassFile.FieldType)).before args0 about1 = true := code_word (m := ⟨7, 3⟩) (meth := k7m3) (c := k7c3) (by decide +kernel) rfl rfl rfl (by decide +kernel)
set_option maxRecDepth 65536 in
theorem w_c4 : (Jvm.Cond.code ({ cls := "java/lang/Object", name := "<init>", desc := "()V" } : Jvm.MethodName) object_method_1_code (1 : Nat) (Option.none : Option Jvm.ClassFile.FieldType)).before args0 about1 = true := code_word (m := ⟨0, 0⟩) (meth := k0m0) (c := k0c0) (by decide +kernel) rfl rfl rfl (by decide +kernel)
set_option maxRecDepth 65536 in
theorem w_c5 : (Jvm.Cond.code ({ cls := "java/lang/StringUTF16", name := "compress", desc := "([CII)[B" } : Jvm.MethodName) jdk_52_method_16_code (6 : Nat) (Option.some (Jvm.ClassFile.FieldType.array Jvm.ClassFile.FieldType.byte))).before args0 about1 = true := code_word (m := ⟨8, 2⟩) (meth := k8m2) (c := k8c2) (by decide +kernel) rfl rfl rfl (by decide +kernel)
set_option maxRecDepth 65536 in
theorem w_c6 : (Jvm.Cond.code ({ cls := "java/lang/StringUTF16", name := "compress", desc := "([CI[BII)I" } : Jvm.MethodName) jdk_52_method_21_code (7 : Nat) (Option.some Jvm.ClassFile.FieldType.int)).before args0 about1 = true := code_word (m := ⟨8, 3⟩) (meth := k8m3) (c := k8c3) (by decide +kernel) rfl rfl rfl (by decide +kernel)
set_option maxRecDepth 65536 in
theorem w_c7 : (Jvm.Cond.code ({ cls := "java/lang/StringUTF16", name := "coderFromArrayLen", desc := "([BI)B" } : Jvm.MethodName) jdk_52_method_15_code (2 : Nat) (Option.some Jvm.ClassFile.FieldType.byte)).before args0 about1 = true := code_word (m := ⟨8, 1⟩) (meth := k8m1) (c := k8c1) (by decide +kernel) rfl rfl rfl (by decide +kernel)
set_option maxRecDepth 65536 in
theorem w_c8 : (Jvm.Cond.code ({ cls := "java/lang/String", name := "valueOf", desc := "(C)Ljava/lang/String;" } : Jvm.MethodName) jdk_42_method_139_code (1 : Nat) (Option.some (Jvm.ClassFile.FieldType.object "java/lang/String"))).before args0 about1 = true := code_word (m := ⟨7, 2⟩) (meth := k7m2) (c := k7c2) (by decide +kernel) rfl rfl rfl (by decide +kernel)
set_option maxRecDepth 65536 in
theorem w_c9 : (Jvm.Cond.code ({ cls := "java/lang/StringLatin1", name := "canEncode", desc := "(C)Z" } : Jvm.MethodName) jdk_43_method_3_code (1 : Nat) (Option.some Jvm.ClassFile.FieldType.boolean)).before args0 about1 = true := code_word (m := ⟨9, 1⟩) (meth := k9m1) (c := k9c1) (by decide +kernel) rfl rfl rfl (by decide +kernel)
set_option maxRecDepth 65536 in
theorem w_c10 : (Jvm.Cond.code ({ cls := "java/lang/StringLatin1", name := "toBytes", desc := "(C)[B" } : Jvm.MethodName) jdk_43_method_46_code (1 : Nat) (Option.some (Jvm.ClassFile.FieldType.array Jvm.ClassFile.FieldType.byte))).before args0 about1 = true := code_word (m := ⟨9, 2⟩) (meth := k9m2) (c := k9c2) (by decide +kernel) rfl rfl rfl (by decide +kernel)
set_option maxRecDepth 65536 in
theorem w_c11 : (Jvm.Cond.code ({ cls := "java/lang/String", name := "<init>", desc := "([BB)V" } : Jvm.MethodName) jdk_42_method_151_code (3 : Nat) (Option.none : Option Jvm.ClassFile.FieldType)).before args0 about1 = true := code_word (m := ⟨7, 4⟩) (meth := k7m4) (c := k7c4) (by decide +kernel) rfl rfl rfl (by decide +kernel)
set_option maxRecDepth 65536 in
theorem w_c12 : (Jvm.Cond.code ({ cls := "com/example/dagsverke/dagsverke/CommandLine", name := "value", desc := "([Ljava/lang/String;ILjava/lang/String;)Ljava/lang/String;" } : Jvm.MethodName) prog_1_method_2_code (3 : Nat) (Option.some (Jvm.ClassFile.FieldType.object "java/lang/String"))).before args0 about1 = true := code_word (m := ⟨10, 1⟩) (meth := k10m1) (c := k10c1) (by decide +kernel) rfl rfl rfl (by decide +kernel)
def codes1 : List Jvm.Cond := [Jvm.Cond.code x code maxLocals ret, Jvm.Cond.code ({ cls := "com/example/dagsverke/dagsverke/CommandLineValuePinLaw", name := "str", desc := "(CI)Ljava/lang/String;" } : Jvm.MethodName) method_2_code (3 : Nat) (Option.some (Jvm.ClassFile.FieldType.object "java/lang/String")), Jvm.Cond.code ({ cls := "java/lang/String", name := "<init>", desc := "([C)V" } : Jvm.MethodName) jdk_42_method_3_code (2 : Nat) (Option.none : Option Jvm.ClassFile.FieldType), Jvm.Cond.code ({ cls := "java/lang/String", name := "<init>", desc := "([CIILjava/lang/Void;)V" } : Jvm.MethodName) jdk_42_method_149_code (6 : Nat) (Option.none : Option Jvm.ClassFile.FieldType), Jvm.Cond.code ({ cls := "java/lang/Object", name := "<init>", desc := "()V" } : Jvm.MethodName) object_method_1_code (1 : Nat) (Option.none : Option Jvm.ClassFile.FieldType), Jvm.Cond.code ({ cls := "java/lang/StringUTF16", name := "compress", desc := "([CII)[B" } : Jvm.MethodName) jdk_52_method_16_code (6 : Nat) (Option.some (Jvm.ClassFile.FieldType.array Jvm.ClassFile.FieldType.byte)), Jvm.Cond.code ({ cls := "java/lang/StringUTF16", name := "compress", desc := "([CI[BII)I" } : Jvm.MethodName) jdk_52_method_21_code (7 : Nat) (Option.some Jvm.ClassFile.FieldType.int), Jvm.Cond.code ({ cls := "java/lang/StringUTF16", name := "coderFromArrayLen", desc := "([BI)B" } : Jvm.MethodName) jdk_52_method_15_code (2 : Nat) (Option.some Jvm.ClassFile.FieldType.byte), Jvm.Cond.code ({ cls := "java/lang/String", name := "valueOf", desc := "(C)Ljava/lang/String;" } : Jvm.MethodName) jdk_42_method_139_code (1 : Nat) (Option.some (Jvm.ClassFile.FieldType.object "java/lang/String")), Jvm.Cond.code ({ cls := "java/lang/StringLatin1", name := "canEncode", desc := "(C)Z" } : Jvm.MethodName) jdk_43_method_3_code (1 : Nat) (Option.some Jvm.ClassFile.FieldType.boolean), Jvm.Cond.code ({ cls := "java/lang/StringLatin1", name := "toBytes", desc := "(C)[B" } : Jvm.MethodName) jdk_43_method_46_code (1 : Nat) (Option.some (Jvm.ClassFile.FieldType.array Jvm.ClassFile.FieldType.byte)), Jvm.Cond.code ({ cls := "java/lang/String", name := "<init>", desc := "([BB)V" } : Jvm.MethodName) jdk_42_method_151_code (3 : Nat) (Option.none : Option Jvm.ClassFile.FieldType), Jvm.Cond.code ({ cls := "com/example/dagsverke/dagsverke/CommandLine", name := "value", desc := "([Ljava/lang/String;ILjava/lang/String;)Ljava/lang/String;" } : Jvm.MethodName) prog_1_method_2_code (3 : Nat) (Option.some (Jvm.ClassFile.FieldType.object "java/lang/String"))]
set_option maxRecDepth 65536 in
theorem codes_eq : words1.filter isCode = codes1 := rfl
theorem w_codes : ∀ c ∈ words1.filter isCode, c.before args0 about1 = true := by
  rw [codes_eq]
  intro c hc
  simp only [codes1, List.mem_cons, List.not_mem_nil, or_false] at hc
  rcases hc with rfl | rfl | rfl | rfl | rfl | rfl | rfl | rfl | rfl | rfl | rfl | rfl | rfl
  · exact w_c0
  · exact w_c1
  · exact w_c2
  · exact w_c3
  · exact w_c4
  · exact w_c5
  · exact w_c6
  · exact w_c7
  · exact w_c8
  · exact w_c9
  · exact w_c10
  · exact w_c11
  · exact w_c12
set_option maxRecDepth 65536 in
theorem w_t1 : (words1.take 24).all (fun c => isCode c || c.before args0 about1) = true := by decide +kernel
set_option maxRecDepth 65536 in
theorem w_t2 : ((words1.drop 24).take 24).all (fun c => isCode c || c.before args0 about1) = true := by decide +kernel
set_option maxRecDepth 65536 in
theorem w_t3 : ((words1.drop 24).drop 24).all (fun c => isCode c || c.before args0 about1) = true := by decide +kernel
theorem w_tables : (allAtoms (Jvm.Cond.code x code maxLocals ret :: tables_1)).before args0 about1 = true := by
  rw [allAtoms_all]
  show words1.all (fun c => c.before args0 about1) = true
  refine all_split ?_ w_codes
  rw [← List.take_append_drop 24 words1, List.all_append, w_t1, ← List.take_append_drop 24 (words1.drop 24), List.all_append, w_t2, w_t3]
  rfl
set_option maxRecDepth 65536 in
theorem w_rest : rest_1_c.before args0 about1 = true := by decide +kernel
set_option maxRecDepth 65536 in
theorem w_case : (Jvm.Cond.and given_1 narrow_1).before args0 about1 = true := by decide +kernel
theorem w_applies : (headSpec (Jvm.Cond.code x code maxLocals ret :: tables_1) room_1).applies x e0.platform about1 = true :=
  (Spec.applies_iff w_frames).mpr ⟨w_running, w_runnable, w_alone, w_named, w_hears, w_ripe, w_room, w_tables⟩
theorem atStart : AtStart classFile x code maxLocals ret World_1 tables_1 room_1 Calls_1 rest_1 Pre_1 launch0 p0 e0 about1 theMethod args0 below0 :=
  ⟨lists_1, trivial, launch0.admits_env _ _ _, launch0.least_env, fairChoices_fair.cas, fairChoices_fair.clock, w_frames, w_args, w_heap, w_applies, trivial, w_rest, w_case⟩
end start1
theorem witness_1 : WitnessClaimed_1 := ⟨start1.p0, start1.e0, start1.about1, start1.theMethod, start1.args0, start1.below0, start1.atStart⟩
end Jvm.Pilot.@@N@@
