import JvmDerived
import JvmDerived.Pilot.@@N@@Statement
import JvmDerived.Pilot.@@N@@Code
set_option linter.unusedVariables false
set_option linter.unusedSimpArgs false
namespace Jvm.RoadKit
open Sem ClassFile Op Lib Jvm.Stand Jvm.Free Jvm.LawKit
section New
variable {p : Program} {l : Launch} {e : Env} {R : Room} {s : State} {m : MethodId} {args : Array Value} {below : List Frame} {meth : Method} {c : Code} {T : State} {locs : List Loc} {cells slots : Nat}
theorem retI (X : Stand p l e R s m args below meth c T locs cells slots) (hx : p.tables.exec = Jvm.exec) {pc : Nat} {Ls : Array Slot} {z : Int32} {rest : List Value} (hret : meth.sig.returnType = some .int) (hd : decode c.code pc = .ok (.ireturn, 1)) {fs : List Frame}
    (hl : ∀ (f : JFrame) (acts : List Action), f.method = m → f.locked = none → f.entered = [] → (doReturn e (T.setTop f) acts (some (.int z))).1 = T.setFrames fs) : Steps p.tables e below (T.setTop (mkF m pc Ls (.int z :: rest))) (T.setFrames fs) := by
  have hm' : T.vm.method? m = some meth := X.method'
  have hn : narrow .int (.int z) = .int z := rfl
  show Steps p.tables e below (T.setTop { method := m, pc := pc, locals := Ls, stack := _ :: rest, locked := none }) _
  jvm_step X.here [X.here.top, hx, hd, hm', hret, hn]
  first | (intro acts; rw [hl _ acts rfl rfl rfl]) | rw [hl _ _ rfl rfl rfl]
  exact Steps.refl _
end New
end Jvm.RoadKit
/- laws to paste: Road.backV, Road.eqW, Road.chN, Road.codOf (cut by pick.py; bodies as the Statement names them) -/
namespace Jvm.Pilot.@@N@@
namespace StrChars
open Jvm Sem ClassFile Op Lib Jvm.Stand Jvm.Free.XT Jvm.Free.ALB Jvm.Free.JM Jvm.Free
open Jvm.Lib.Cold (StaticIs)
/-- a char array whose places are chars -/
def Ch (a : Addr) (A : Cell) (U : State) : Prop := Arr .char a A U ∧ Typed .char A
theorem Ch.mv {a : Addr} {A : Cell} {U U' : State} (h : Ch a A U) (hal : U.vm.Alike U'.vm) (hh : U'.heap = U.heap) : Ch a A U' := ⟨h.1.mv hal hh, h.2⟩
theorem Ch.keep {a : Addr} {A : Cell} {U U' : State} (h : Ch a A U) (hal : U.vm.Alike U'.vm) (hk : U'.heap[a]? = some A) : Ch a A U' := ⟨h.1.keep hal hk, h.2⟩
/-- what place i of a char[]'s cell holds -/
def cv (A : Cell) (i : Nat) : Int32 := match A.slots[i]? with | some (.int x) => x | _ => 0
theorem Ch.get {a : Addr} {A : Cell} {U : State} (h : Ch a A U) {i : Nat} (hi : i < A.slots.size) : A.slots[i]? = some (.int (cv A i)) := by
  have e := Array.getElem?_eq_getElem hi
  have f := h.2 i _ e
  unfold cv; rw [e]
  generalize A.slots[i] = v at f
  cases v <;> simp [fits] at f ⊢
/-- the byte that i2b leaves of a char -/
def lo8 (x : Int32) : Int32 := x.toInt8.toInt32
theorem fits_lo8 (y : Int32) : fits .byte (.int (lo8 y)) = true := by
  have h1 := y.toInt8.le_toInt
  have h2 := y.toInt8.toInt_lt
  simp only [lo8, fits, Bool.and_eq_true, decide_eq_true_eq, Int32.le_iff_toInt_le, Int8.toInt_toInt32, show (-128 : Int32).toInt = -128 from by decide, show (127 : Int32).toInt = 127 from by decide]
  omega
/-- A' is A but that each place j of lo .. hi - 1 holds f j -/
def Laid (A A' : Cell) (lo hi : Nat) (f : Nat → Value) : Prop := A'.cls = A.cls ∧ A'.vm = A.vm ∧ A'.slots.size = A.slots.size ∧ ∀ i, A'.slots[i]? = if lo ≤ i ∧ i < hi then some (f i) else A.slots[i]?
theorem Laid.zero (A : Cell) (lo : Nat) (f : Nat → Value) : Laid A A lo (lo + 0) f := ⟨rfl, rfl, rfl, fun i => by rw [if_neg (by omega)]⟩
theorem Laid.step {A Ak : Cell} {lo k : Nat} {f : Nat → Value} {v : Value} (h : Laid A Ak lo k f) (hlo : lo ≤ k) (hk : k < Ak.slots.size) (hv : v = f k) : Laid A (Ak.setSlot k v) lo (k + 1) f := by
  refine ⟨h.1, h.2.1, by simpa [Cell.setSlot] using h.2.2.1, fun i => ?_⟩
  by_cases e : k = i
  · subst e; rw [Cell.slots_setSlot_self v hk, if_pos (by omega), hv]
  · rw [Cell.slots_setSlot_ne v e, h.2.2.2 i]
    by_cases q : lo ≤ i ∧ i < k
    · rw [if_pos q, if_pos (by omega)]
    · rw [if_neg q, if_neg (by omega)]
def U16 : String := "java/lang/StringUTF16"
namespace Cmp5
def yN : MethodName := ⟨"java/lang/StringUTF16", "compress", "([CI[BII)I"⟩
abbrev yB : ByteArray := jdk_52_method_21_code
theorem d0 : decode yB 0 = .ok (.iconst 0, 1) := by decide +kernel
theorem d1 : decode yB 1 = .ok (.istore 5, 2) := by decide +kernel
theorem d3 : decode yB 3 = .ok (.iload 5, 2) := by decide +kernel
theorem d5 : decode yB 5 = .ok (.iload 4, 2) := by decide +kernel
theorem d7 : decode yB 7 = .ok (.if_icmp (.ge) 37, 3) := by decide +kernel
theorem d10 : decode yB 10 = .ok (.aload_n 0, 1) := by decide +kernel
theorem d11 : decode yB 11 = .ok (.iload_n 1, 1) := by decide +kernel
theorem d12 : decode yB 12 = .ok (.caload, 1) := by decide +kernel
theorem d13 : decode yB 13 = .ok (.istore 6, 2) := by decide +kernel
theorem d15 : decode yB 15 = .ok (.iload 6, 2) := by decide +kernel
theorem d17 : decode yB 17 = .ok (.sipush 255, 3) := by decide +kernel
theorem d20 : decode yB 20 = .ok (.if_icmp (.le) 6, 3) := by decide +kernel
theorem d26 : decode yB 26 = .ok (.aload_n 2, 1) := by decide +kernel
theorem d27 : decode yB 27 = .ok (.iload_n 3, 1) := by decide +kernel
theorem d28 : decode yB 28 = .ok (.iload 6, 2) := by decide +kernel
theorem d30 : decode yB 30 = .ok (.i2b, 1) := by decide +kernel
theorem d31 : decode yB 31 = .ok (.bastore, 1) := by decide +kernel
theorem d32 : decode yB 32 = .ok (.iinc 1 1, 3) := by decide +kernel
theorem d35 : decode yB 35 = .ok (.iinc 3 1, 3) := by decide +kernel
theorem d38 : decode yB 38 = .ok (.iinc 5 1, 3) := by decide +kernel
theorem d41 : decode yB 41 = .ok (.goto (-38), 3) := by decide +kernel
theorem d44 : decode yB 44 = .ok (.iload 4, 2) := by decide +kernel
theorem d46 : decode yB 46 = .ok (.ireturn, 1) := by decide +kernel
def site : List Cond := []
def tab : Cond := tabOf yN yB 7 (some .int) site
def P (b : Addr) (A : Cell) (d : Addr) (B : Cell) (o q len : Nat) (args : Array Value) (s : State) : Prop := args = #[.ref b, .int (Int32.ofNat o), .ref d, .int (Int32.ofNat q), .int (Int32.ofNat len)] ∧ Ch b A s ∧ Arr .byte d B s ∧ b ≠ d ∧ o + len ≤ A.slots.size ∧ q + len ≤ B.slots.size ∧ ∀ i, i < len → ¬ 255 < cv A (o + i)
def E (b : Addr) (A : Cell) (d : Addr) (B : Cell) (o q len : Nat) (r : Option Value) (s u : State) : Prop := r = some (.int (Int32.ofNat len)) ∧ ∃ B', Put d B' s u ∧ Laid B B' q (q + len) (fun j => Value.int (lo8 (cv A (o + (j - q)))))
/-- no char of the range above 255: len; the places written hold each char's low byte -/
theorem law (l : Launch) (b : Addr) (A : Cell) (d : Addr) (B : Cell) (o q len : Nat) : Law l yN 5 5 0 0 yB 7 (some .int) site (P b A d B o q len) (E b A d B o q len) (copyLocs d q len) 0 0 := by
  refine Law.of_walk (plainFor_of_name (by decide +kernel)) (by decide +kernel) (by decide +kernel) (by decide) (fun _ _ h => by rw [h.1]; rfl) (fun _ U U' hal hh h => ⟨h.1, h.2.1.mv hal hh, h.2.2.1.mv hal hh, h.2.2.2⟩) (fun r U U' V V' h1 hal h2 h => ⟨h.1, h.2.elim fun B' q => ⟨B', q.1.mv h1 h2, q.2⟩⟩) ?_
  intro p e s m args below meth c s₁ X0 hexec hbytes hml hret hlk hnm hown hh0 W hP
  obtain ⟨rfl, hA, hB, hne, l1, l2, hp⟩ := hP
  have c1 : Steps p.tables e below (s₁.setTop (entryFrame m #[.ref b, .int (Int32.ofNat o), .ref d, .int (Int32.ofNat q), .int (Int32.ofNat len)] 7)) (s₁.setTop (mkF m 0 #[.val (.ref b), .val (.int (Int32.ofNat o)), .val (.ref d), .val (.int (Int32.ofNat q)), .val (.int (Int32.ofNat len)), .unset, .unset] [])) := entry rfl
  have hA0 := hA.1.mv X0.warmed.alike hh0
  have hB0 := hB.mv X0.warmed.alike hh0
  have a31 := hA.1.2.2.2
  have c2 : Steps p.tables e below (s₁.setTop (entryFrame m #[.ref b, .int (Int32.ofNat o), .ref d, .int (Int32.ofNat q), .int (Int32.ofNat len)] 7)) (s₁.setTop (mkF m 3 #[.val (.ref b), .val (.int (Int32.ofNat o)), .val (.ref d), .val (.int (Int32.ofNat q)), .val (.int (Int32.ofNat len)), .val (.int 0), .unset] [])) := c1.trans (by
    refine iconstV X0.here hexec rfl 0 (hb hbytes d0) (by decide) ?_
    refine XS.istore X0.here hexec rfl (hb hbytes d1) rfl rfl ?_
    exact Steps.refl _)
  have loop : ∀ (r i : Nat), i + r = len → ∀ (z : Slot), (z = .unset ∨ ∃ w, z = .val w ∧ w.category = 1) → ∀ (Tl : State) (Bk : Cell), Stand p l e { frames := 0, locals := 0, cells := 0, slots := 0 } s m #[.ref b, .int (Int32.ofNat o), .ref d, .int (Int32.ofNat q), .int (Int32.ofNat len)] below meth c Tl ([] ++ copyLocs d q i) 0 0 → Put d Bk s₁ Tl → Laid B Bk q (q + i) (fun j => Value.int (lo8 (cv A (o + (j - q))))) →
      Steps p.tables e below (s₁.setTop (entryFrame m #[.ref b, .int (Int32.ofNat o), .ref d, .int (Int32.ofNat q), .int (Int32.ofNat len)] 7)) (Tl.setTop (mkF m 3 #[.val (.ref b), .val (.int (Int32.ofNat (o + i))), .val (.ref d), .val (.int (Int32.ofNat (q + i))), .val (.int (Int32.ofNat len)), .val (.int (Int32.ofNat i)), z] [])) → ∃ (T' : State) (B' : Cell) (z' : Slot), Stand p l e { frames := 0, locals := 0, cells := 0, slots := 0 } s m #[.ref b, .int (Int32.ofNat o), .ref d, .int (Int32.ofNat q), .int (Int32.ofNat len)] below meth c T' ([] ++ copyLocs d q len) 0 0 ∧ Put d B' s₁ T' ∧ Laid B B' q (q + len) (fun j => Value.int (lo8 (cv A (o + (j - q))))) ∧
      Steps p.tables e below (s₁.setTop (entryFrame m #[.ref b, .int (Int32.ofNat o), .ref d, .int (Int32.ofNat q), .int (Int32.ofNat len)] 7)) (T'.setTop (mkF m 3 #[.val (.ref b), .val (.int (Int32.ofNat (o + len))), .val (.ref d), .val (.int (Int32.ofNat (q + len))), .val (.int (Int32.ofNat len)), .val (.int (Int32.ofNat len)), z'] [])) := by
    intro r
    induction r with
    | zero =>
      intro i hi z hz Tl Bk Xl pl fl cl
      have hil : i = len := by omega
      rw [hil] at Xl fl cl
      exact ⟨Tl, Bk, z, Xl, pl, fl, cl⟩
    | succ r ih =>
      intro i hi z hz Tl Bk Xl pl fl cl
      have all := X0.warmed.alike.symm.trans Xl.warmed.alike
      have hAl := hA0.keep all (pl.other hne hA0.1)
      have hBk := hB0.like all pl.1 fl.1 fl.2.1 fl.2.2.1
      have hlt : q + i < Bk.slots.size := by rw [fl.2.2.1]; omega
      have c3 : Steps p.tables e below (s₁.setTop (entryFrame m #[.ref b, .int (Int32.ofNat o), .ref d, .int (Int32.ofNat q), .int (Int32.ofNat len)] 7)) (Tl.setTop (mkF m 12 #[.val (.ref b), .val (.int (Int32.ofNat (o + i))), .val (.ref d), .val (.int (Int32.ofNat (q + i))), .val (.int (Int32.ofNat len)), .val (.int (Int32.ofNat i)), z] [.int (Int32.ofNat (o + i)), .ref b])) := cl.trans (by
        refine XS.iload Xl.here hexec rfl (hb hbytes d3) rfl ?_
        refine XS.iload Xl.here hexec rfl (hb hbytes d5) rfl ?_
        refine XS.icmpNo Xl.here hexec rfl (hb hbytes d7) rfl (ii_ge_f (lt32 (by omega) (by omega))) ?_
        refine XS.aloadN Xl.here hexec rfl (hb hbytes d10) rfl rfl ?_
        refine XS.iloadN Xl.here hexec rfl (hb hbytes d11) rfl ?_
        exact Steps.refl _)
      have c4 : Steps p.tables e below (s₁.setTop (entryFrame m #[.ref b, .int (Int32.ofNat o), .ref d, .int (Int32.ofNat q), .int (Int32.ofNat len)] 7)) (Tl.setTop (mkF m 13 #[.val (.ref b), .val (.int (Int32.ofNat (o + i))), .val (.ref d), .val (.int (Int32.ofNat (q + i))), .val (.int (Int32.ofNat len)), .val (.int (Int32.ofNat i)), z] [.int (cv A (o + i))])) := c3.trans (by
        refine Xl.aget hexec hAl rfl (hA.get (i := o + i) (by omega)) rfl rfl (hb hbytes d12) ?_
        exact Steps.refl _)
      have c5 : Steps p.tables e below (s₁.setTop (entryFrame m #[.ref b, .int (Int32.ofNat o), .ref d, .int (Int32.ofNat q), .int (Int32.ofNat len)] 7)) (Tl.setTop (mkF m 15 #[.val (.ref b), .val (.int (Int32.ofNat (o + i))), .val (.ref d), .val (.int (Int32.ofNat (q + i))), .val (.int (Int32.ofNat len)), .val (.int (Int32.ofNat i)), .val (.int (cv A (o + i)))] [])) := c4.trans (by
        refine XS.istoreS Xl.here hexec rfl (hb hbytes d13) rfl rfl hz ?_
        exact Steps.refl _)
      have c6 : Steps p.tables e below (s₁.setTop (entryFrame m #[.ref b, .int (Int32.ofNat o), .ref d, .int (Int32.ofNat q), .int (Int32.ofNat len)] 7)) (Tl.setTop (mkF m 31 #[.val (.ref b), .val (.int (Int32.ofNat (o + i))), .val (.ref d), .val (.int (Int32.ofNat (q + i))), .val (.int (Int32.ofNat len)), .val (.int (Int32.ofNat i)), .val (.int (cv A (o + i)))] [.int (lo8 (cv A (o + i))), .int (Int32.ofNat (q + i)), .ref d])) := c5.trans (by
        refine XS.iload Xl.here hexec rfl (hb hbytes d15) rfl ?_
        refine sipushV Xl.here hexec rfl 255 (hb hbytes d17) (by decide) ?_
        refine XS.icmpYes Xl.here hexec rfl (pc0 := 20) rfl (hb hbytes d20) rfl (ii_le_t (hp i (by omega))) (by decide) rfl ?_
        refine XS.aloadN Xl.here hexec rfl (hb hbytes d26) rfl rfl ?_
        refine XS.iloadN Xl.here hexec rfl (hb hbytes d27) rfl ?_
        refine XS.iload Xl.here hexec rfl (hb hbytes d28) rfl ?_
        refine i2b Xl.here hexec rfl (hb hbytes d30) rfl ?_
        exact Steps.refl _)
      obtain ⟨T7, X7, p7, st7⟩ := Xl.aput hexec hBk rfl hlt rfl (fits_lo8 (cv A (o + i))) (g := (mkF m 31 #[.val (.ref b), .val (.int (Int32.ofNat (o + i))), .val (.ref d), .val (.int (Int32.ofNat (q + i))), .val (.int (Int32.ofNat len)), .val (.int (Int32.ofNat i)), .val (.int (cv A (o + i)))] [.int (lo8 (cv A (o + i))), .int (Int32.ofNat (q + i)), .ref d])) rfl (rest := []) rfl (hb hbytes d31)
      have c8 : Steps p.tables e below (s₁.setTop (entryFrame m #[.ref b, .int (Int32.ofNat o), .ref d, .int (Int32.ofNat q), .int (Int32.ofNat len)] 7)) (T7.setTop (mkF m 32 #[.val (.ref b), .val (.int (Int32.ofNat (o + i))), .val (.ref d), .val (.int (Int32.ofNat (q + i))), .val (.int (Int32.ofNat len)), .val (.int (Int32.ofNat i)), .val (.int (cv A (o + i)))] [])) := c6.trans (st7 _ (Steps.refl _))
      have c9 : Steps p.tables e below (s₁.setTop (entryFrame m #[.ref b, .int (Int32.ofNat o), .ref d, .int (Int32.ofNat q), .int (Int32.ofNat len)] 7)) (T7.setTop (mkF m 3 #[.val (.ref b), .val (.int (Int32.ofNat (o + i) + 1)), .val (.ref d), .val (.int (Int32.ofNat (q + i) + 1)), .val (.int (Int32.ofNat len)), .val (.int (Int32.ofNat i + 1)), .val (.int (cv A (o + i)))] [])) := c8.trans (by
        refine iincV X7.here hexec rfl 1 (hb hbytes d32) (by decide) rfl rfl ?_
        refine iincV X7.here hexec rfl 1 (hb hbytes d35) (by decide) rfl rfl ?_
        refine iincV X7.here hexec rfl 1 (hb hbytes d38) (by decide) rfl rfl ?_
        refine XS.goto X7.here hexec rfl (pc0 := 41) rfl (hb hbytes d41) (by decide) rfl ?_
        exact Steps.refl _)
      have c10 : Steps p.tables e below (s₁.setTop (entryFrame m #[.ref b, .int (Int32.ofNat o), .ref d, .int (Int32.ofNat q), .int (Int32.ofNat len)] 7)) (T7.setTop (mkF m 3 #[.val (.ref b), .val (.int (Int32.ofNat (o + (i + 1)))), .val (.ref d), .val (.int (Int32.ofNat (q + (i + 1)))), .val (.int (Int32.ofNat len)), .val (.int (Int32.ofNat (i + 1))), .val (.int (cv A (o + i)))] [])) := by
        have := c9
        rw [succ32, succ32, succ32] at this
        exact this
      exact ih (i + 1) (by omega) _ (Or.inr ⟨_, rfl, rfl⟩) T7 _ (by rw [copyLocs_step, ← List.append_assoc]; exact X7) (pl.trans p7) (fl.step (by omega) hlt (by simp)) c10
  obtain ⟨T9, B9, z9, X9, p9, f9, g9⟩ := loop len 0 (by omega) .unset (Or.inl rfl) s₁ B (by simpa [copyLocs] using X0) ⟨hB0.1, fun _ _ => rfl, rfl⟩ (Laid.zero _ _ _) c2
  have c11 : Steps p.tables e below (s₁.setTop (entryFrame m #[.ref b, .int (Int32.ofNat o), .ref d, .int (Int32.ofNat q), .int (Int32.ofNat len)] 7)) (T9.setTop (mkF m 46 #[.val (.ref b), .val (.int (Int32.ofNat (o + len))), .val (.ref d), .val (.int (Int32.ofNat (q + len))), .val (.int (Int32.ofNat len)), .val (.int (Int32.ofNat len)), z9] [.int (Int32.ofNat len)])) := g9.trans (by
    refine XS.iload X9.here hexec rfl (hb hbytes d3) rfl ?_
    refine XS.iload X9.here hexec rfl (hb hbytes d5) rfl ?_
    refine XS.icmpYes X9.here hexec rfl (pc0 := 7) rfl (hb hbytes d7) rfl (ii_ge_t (nlt32 (by omega) (Nat.le_refl _))) (by decide) rfl ?_
    refine XS.iload X9.here hexec rfl (hb hbytes d44) rfl ?_
    exact Steps.refl _)
  exact ⟨T9, some (.int (Int32.ofNat len)), _, _, _, X9, by simp, rfl, rfl, (fun h => by cases h), ⟨rfl, B9, p9.from hh0, f9⟩, fun fs hl => c11.trans (X9.ireturnOut hexec hret rfl (Or.inl rfl) (hb hbytes d46) hl)⟩
end Cmp5
namespace Cmp3
def yN : MethodName := ⟨"java/lang/StringUTF16", "compress", "([CII)[B"⟩
abbrev yB : ByteArray := jdk_52_method_16_code
theorem d0 : decode yB 0 = .ok (.iload_n 2, 1) := by decide +kernel
theorem d1 : decode yB 1 = .ok (.newarray .byte, 2) := by decide +kernel
theorem d3 : decode yB 3 = .ok (.astore_n 3, 1) := by decide +kernel
theorem d4 : decode yB 4 = .ok (.aload_n 0, 1) := by decide +kernel
theorem d5 : decode yB 5 = .ok (.iload_n 1, 1) := by decide +kernel
theorem d6 : decode yB 6 = .ok (.aload_n 3, 1) := by decide +kernel
theorem d7 : decode yB 7 = .ok (.iconst 0, 1) := by decide +kernel
theorem d8 : decode yB 8 = .ok (.iload_n 2, 1) := by decide +kernel
theorem d9 : decode yB 9 = .ok (.invokestatic 115, 3) := by decide +kernel
theorem d12 : decode yB 12 = .ok (.istore 4, 2) := by decide +kernel
theorem d14 : decode yB 14 = .ok (.iload 4, 2) := by decide +kernel
theorem d16 : decode yB 16 = .ok (.iload_n 2, 1) := by decide +kernel
theorem d17 : decode yB 17 = .ok (.if_icmp (.eq) 40, 3) := by decide +kernel
theorem d57 : decode yB 57 = .ok (.aload_n 3, 1) := by decide +kernel
theorem d58 : decode yB 58 = .ok (.areturn, 1) := by decide +kernel
def site : List Cond := [.arrayClass .byte, Cmp5.tab] ++ staticW U16 115 Cmp5.yN
def tab : Cond := tabOf yN yB 6 (some (.array .byte)) site
def P (b : Addr) (A : Cell) (o len : Nat) (args : Array Value) (s : State) : Prop := args = #[.ref b, .int (Int32.ofNat o), .int (Int32.ofNat len)] ∧ Ch b A s ∧ o + len ≤ A.slots.size ∧ len ≤ 536870912 ∧ ∀ i, i < len → ¬ 255 < cv A (o + i)
def E (b : Addr) (A : Cell) (o len : Nat) (r : Option Value) (s u : State) : Prop := NewArr .byte "[B" len (fun j => .int (lo8 (cv A (o + j)))) r s u ∧ u.heap.size = s.heap.size + 1
/-- no char of the range above 255: a new byte[] of their low bytes -/
theorem law (l : Launch) (b : Addr) (A : Cell) (o len : Nat) : Law l yN 3 3 1 18 yB 6 (some (.array .byte)) site (P b A o len) (E b A o len) [] 1 len := by
  refine Law.of_walk (plainFor_of_name (by decide +kernel)) (by decide +kernel) (by decide +kernel) (by decide) (fun _ _ h => by rw [h.1]; rfl) (fun _ U U' hal hh h => ⟨h.1, h.2.1.mv hal hh, h.2.2⟩) (fun r U U' V V' h1 hal h2 h => ⟨NewArr.mv r U U' V V' h1 hal h2 h.1, by rw [h1, h2]; exact h.2⟩) ?_
  intro p e s m args below meth c s₁ X0 hexec hbytes hml hret hlk hnm hown hh0 W hP
  obtain ⟨rfl, hA, l1, l2, hp⟩ := hP
  have a31 := hA.1.2.2.2
  have c1 : Steps p.tables e below (s₁.setTop (entryFrame m #[.ref b, .int (Int32.ofNat o), .int (Int32.ofNat len)] 6)) (s₁.setTop (mkF m 0 #[.val (.ref b), .val (.int (Int32.ofNat o)), .val (.int (Int32.ofNat len)), .unset, .unset, .unset] [])) := entry rfl
  have c2 : Steps p.tables e below (s₁.setTop (entryFrame m #[.ref b, .int (Int32.ofNat o), .int (Int32.ofNat len)] 6)) (s₁.setTop (mkF m 1 #[.val (.ref b), .val (.int (Int32.ofNat o)), .val (.int (Int32.ofNat len)), .unset, .unset, .unset] [.int (Int32.ofNat len)])) := c1.trans (by
    refine XS.iloadN X0.here hexec rfl (hb hbytes d0) rfl ?_
    exact Steps.refl _)
  obtain ⟨T3, B3, X3, ba3, bs3, bv3, bh3, bf3, st3⟩ := X0.anew hexec (atype := .byte) (wk W (.arrayClass .byte)) rfl (by show len * 1 ≤ _; omega) (by omega) (g := (mkF m 1 #[.val (.ref b), .val (.int (Int32.ofNat o)), .val (.int (Int32.ofNat len)), .unset, .unset, .unset] [.int (Int32.ofNat len)])) rfl (hb hbytes d1) (rest := []) rfl (Nat.le_refl _) (by show 0 + len ≤ len; omega)
  rw [hh0] at ba3 st3
  have kp3 : XT.Kept s T3 := (XT.Kept.of_eq hh0).push bh3
  have hA3 := hA.keep X3.warmed.alike (kp3 _ _ hA.1.1)
  have hne : b ≠ s.heap.size := hA.1.ne
  have c4 : Steps p.tables e below (s₁.setTop (entryFrame m #[.ref b, .int (Int32.ofNat o), .int (Int32.ofNat len)] 6)) (T3.setTop (mkF m 3 #[.val (.ref b), .val (.int (Int32.ofNat o)), .val (.int (Int32.ofNat len)), .unset, .unset, .unset] [.ref s.heap.size])) := c2.trans (st3 _ (Steps.refl _))
  have c5 : Steps p.tables e below (s₁.setTop (entryFrame m #[.ref b, .int (Int32.ofNat o), .int (Int32.ofNat len)] 6)) (T3.setTop (mkF m 9 #[.val (.ref b), .val (.int (Int32.ofNat o)), .val (.int (Int32.ofNat len)), .val (.ref s.heap.size), .unset, .unset] [.int (Int32.ofNat len), .int 0, .ref s.heap.size, .int (Int32.ofNat o), .ref b])) := c4.trans (by
    refine XS.astoreN X3.here hexec rfl (hb hbytes d3) rfl rfl rfl ?_
    refine XS.aloadN X3.here hexec rfl (hb hbytes d4) rfl rfl ?_
    refine XS.iloadN X3.here hexec rfl (hb hbytes d5) rfl ?_
    refine XS.aloadN X3.here hexec rfl (hb hbytes d6) rfl rfl ?_
    refine iconstV X3.here hexec rfl 0 (hb hbytes d7) (by decide) ?_
    refine XS.iloadN X3.here hexec rfl (hb hbytes d8) rfl ?_
    exact Steps.refl _)
  obtain ⟨v6, T6, X6, E6, g6⟩ := X3.callS hexec (Cmp5.law l b A s.heap.size B3 o 0 len) hown (wks W (staticW U16 115 Cmp5.yN)) (wk W Cmp5.tab) (W := 0) (Nat.le_of_ble_eq_true rfl) (Nat.le_of_ble_eq_true rfl) (Nat.le_refl _) (by show 0 + len + 0 ≤ len; omega) (g := (mkF m 9 #[.val (.ref b), .val (.int (Int32.ofNat o)), .val (.int (Int32.ofNat len)), .val (.ref s.heap.size), .unset, .unset] [.int (Int32.ofNat len), .int (Int32.ofNat 0), .ref s.heap.size, .int (Int32.ofNat o), .ref b])) rfl (by rw [hml]; rfl) c5 (argsL := [.ref b, .int (Int32.ofNat o), .ref s.heap.size, .int (Int32.ofNat 0), .int (Int32.ofNat len)]) (rest := []) rfl rfl (by show 2 * 0 + 0 ≤ _; decide) (hb hbytes d9) (⟨rfl, hA3, ba3, hne, l1, by rw [bs3]; simp, hp⟩)
  obtain ⟨rfl, B6, p6, f6⟩ := E6
  have c7 : Steps p.tables e below (s₁.setTop (entryFrame m #[.ref b, .int (Int32.ofNat o), .int (Int32.ofNat len)] 6)) (T6.setTop (mkF m 12 #[.val (.ref b), .val (.int (Int32.ofNat o)), .val (.int (Int32.ofNat len)), .val (.ref s.heap.size), .unset, .unset] [.int (Int32.ofNat len)])) := g6
  have c8 : Steps p.tables e below (s₁.setTop (entryFrame m #[.ref b, .int (Int32.ofNat o), .int (Int32.ofNat len)] 6)) (T6.setTop (mkF m 58 #[.val (.ref b), .val (.int (Int32.ofNat o)), .val (.int (Int32.ofNat len)), .val (.ref s.heap.size), .val (.int (Int32.ofNat len)), .unset] [.ref s.heap.size])) := c7.trans (by
    refine XS.istore X6.here hexec rfl (hb hbytes d12) rfl rfl ?_
    refine XS.iload X6.here hexec rfl (hb hbytes d14) rfl ?_
    refine XS.iloadN X6.here hexec rfl (hb hbytes d16) rfl ?_
    refine XS.icmpYes X6.here hexec rfl (pc0 := 17) rfl (hb hbytes d17) rfl (ii_eq_t rfl) (by decide) rfl ?_
    refine XS.aloadN X6.here hexec rfl (hb hbytes d57) rfl rfl ?_
    exact Steps.refl _)
  have X8 := X6.wide (L' := []) (cells' := 1) (slots' := len) (fun x hx hlt => by
    simp only [List.nil_append, copyLocs, List.mem_map, List.mem_range] at hx
    obtain ⟨i, -, rfl⟩ := hx
    exact absurd hlt (Nat.lt_irrefl _)) (Nat.le_refl _) (by omega)
  exact ⟨T6, some (.ref s.heap.size), _, _, _, X8, rfl, rfl, rfl, (fun h => by cases h), ⟨⟨rfl, B6, ba3.like (X3.warmed.alike.symm.trans X6.warmed.alike) p6.1 f6.1 f6.2.1 f6.2.2.1, f6.2.1.trans bv3, by rw [X6.warmed.alike.findClass, f6.1]; exact bf3, by rw [f6.2.2.1, bs3]; simp, fun j hj => by rw [f6.2.2.2 j, if_pos (by omega)]; rfl, kp3.put p6 (Nat.le_refl _)⟩, by rw [p6.2.2, bh3, hh0]; simp⟩, fun fs hl => c8.trans (X8.areturnOut hexec rfl hret rfl (hb hbytes d58) hl)⟩
end Cmp3
namespace CodL
def yN : MethodName := ⟨"java/lang/StringUTF16", "coderFromArrayLen", "([BI)B"⟩
abbrev yB : ByteArray := jdk_52_method_15_code
theorem d0 : decode yB 0 = .ok (.iload_n 1, 1) := by decide +kernel
theorem d1 : decode yB 1 = .ok (.aload_n 0, 1) := by decide +kernel
theorem d2 : decode yB 2 = .ok (.arraylength, 1) := by decide +kernel
theorem d3 : decode yB 3 = .ok (.isub, 1) := by decide +kernel
theorem d4 : decode yB 4 = .ok (.bipush 31, 2) := by decide +kernel
theorem d6 : decode yB 6 = .ok (.iushr, 1) := by decide +kernel
theorem d7 : decode yB 7 = .ok (.i2b, 1) := by decide +kernel
theorem d8 : decode yB 8 = .ok (.ireturn, 1) := by decide +kernel
def site : List Cond := []
def tab : Cond := tabOf yN yB 2 (some .byte) site
def P (d : Addr) (B : Cell) (args : Array Value) (s : State) : Prop := args = #[.ref d, .int (Int32.ofNat B.slots.size)] ∧ Arr .byte d B s
def E (r : Option Value) (s u : State) : Prop := XT.PureE (some (.int 0)) r s u
/-- an array as long as the number of chars: LATIN1 -/
theorem law (l : Launch) (d : Addr) (B : Cell) : Law l yN 2 2 0 0 yB 2 (some .byte) site (P d B) E [] 0 0 := by
  refine Law.of_walk (plainFor_of_name (by decide +kernel)) (by decide +kernel) (by decide +kernel) (by decide) (fun _ _ h => by rw [h.1]; rfl) (fun _ U U' hal hh h => ⟨h.1, h.2.mv hal hh⟩) (fun r U U' V V' h1 hal h2 h => XT.PureE.mv r U U' V V' h1 hal h2 h) ?_
  intro p e s m args below meth c s₁ X0 hexec hbytes hml hret hlk hnm hown hh0 W hP
  obtain ⟨rfl, hB⟩ := hP
  have hB0 := hB.mv X0.warmed.alike hh0
  have c1 : Steps p.tables e below (s₁.setTop (entryFrame m #[.ref d, .int (Int32.ofNat B.slots.size)] 2)) (s₁.setTop (mkF m 0 #[.val (.ref d), .val (.int (Int32.ofNat B.slots.size))] [])) := entry rfl
  have c2 : Steps p.tables e below (s₁.setTop (entryFrame m #[.ref d, .int (Int32.ofNat B.slots.size)] 2)) (s₁.setTop (mkF m 2 #[.val (.ref d), .val (.int (Int32.ofNat B.slots.size))] [.ref d, .int (Int32.ofNat B.slots.size)])) := c1.trans (by
    refine XS.iloadN X0.here hexec rfl (hb hbytes d0) rfl ?_
    refine XS.aloadN X0.here hexec rfl (hb hbytes d1) rfl rfl ?_
    exact Steps.refl _)
  have c3 : Steps p.tables e below (s₁.setTop (entryFrame m #[.ref d, .int (Int32.ofNat B.slots.size)] 2)) (s₁.setTop (mkF m 8 #[.val (.ref d), .val (.int (Int32.ofNat B.slots.size))] [.int (lo8 (ushr (Int32.ofNat B.slots.size - Int32.ofNat B.slots.size) 31))])) := c2.trans (by
    refine X0.alen hexec hB0 rfl rfl (hb hbytes d2) ?_
    refine XS.isub X0.here hexec rfl (hb hbytes d3) rfl ?_
    refine bipushV X0.here hexec rfl 31 (hb hbytes d4) (by decide) ?_
    refine iushr X0.here hexec rfl (hb hbytes d6) rfl ?_
    refine i2b X0.here hexec rfl (hb hbytes d7) rfl ?_
    exact Steps.refl _)
  have e0 : lo8 (ushr (Int32.ofNat B.slots.size - Int32.ofNat B.slots.size) 31) = 0 := by rw [Int32.sub_self]; decide
  rw [e0] at c3
  exact ⟨s₁, some (.int 0), _, _, _, X0, rfl, rfl, rfl, (fun h => by cases h), ⟨rfl, hh0⟩, fun fs hl => c3.trans (X0.ireturnOut hexec hret rfl (Or.inr (Or.inr (Or.inl rfl))) (hb hbytes d8) hl)⟩
end CodL
/-- the String at a is Latin-1 over a new byte[] (the heap's one new cell): the low bytes of the len chars of A from o on; every cell but a is kept -/
def Got (a : Addr) (D : Cell) (fV fC : Field) (A : Cell) (o len : Nat) (r : Option Value) (s u : State) : Prop := r = none ∧ ∃ D' V : Cell, Blank "java/lang/String" a D' u ∧ Same D D' [fV.slot, fC.slot] ∧ D'.slots[fV.slot]? = some (.ref s.heap.size) ∧ D'.slots[fC.slot]? = some (.int 0) ∧ Arr .byte s.heap.size V u ∧ V.vm = .none ∧ u.vm.findClass "[B" = some V.cls ∧ V.slots.size = len ∧ (∀ j, j < len → V.slots[j]? = some (.int (lo8 (cv A (o + j))))) ∧ (∀ (y : Addr) (c : Cell), y ≠ a → s.heap[y]? = some c → u.heap[y]? = some c) ∧ u.heap.size = s.heap.size + 1
theorem Got.mv {a : Addr} {D A : Cell} {fV fC : Field} {o len : Nat} : ∀ r (U U' V V' : State), U'.heap = U.heap → V.vm.Alike V'.vm → V'.heap = V.heap → Got a D fV fC A o len r U V → Got a D fV fC A o len r U' V' :=
  fun r U U' V V' h1 hal h2 ⟨e0, D', X, a1, a2, a3, a4, a5, a6, a7, a8, a9, a10, a11⟩ => ⟨e0, D', X, a1.mv hal h2, a2, by rw [h1]; exact a3, a4, by rw [h1]; exact a5.mv hal h2, a6, by rw [hal.findClass]; exact a7, a8, a9, by rw [h1, h2]; exact a10, by rw [h1, h2]; exact a11⟩
namespace New4
def yN : MethodName := ⟨"java/lang/String", "<init>", "([CIILjava/lang/Void;)V"⟩
abbrev yB : ByteArray := jdk_42_method_149_code
theorem d0 : decode yB 0 = .ok (.aload_n 0, 1) := by decide +kernel
theorem d1 : decode yB 1 = .ok (.invokespecial 1, 3) := by decide +kernel
theorem d4 : decode yB 4 = .ok (.iload_n 3, 1) := by decide +kernel
theorem d5 : decode yB 5 = .ok (.ifCond (.ne) 22, 3) := by decide +kernel
theorem d27 : decode yB 27 = .ok (.getstatic 38, 3) := by decide +kernel
theorem d30 : decode yB 30 = .ok (.ifCond (.eq) 28, 3) := by decide +kernel
theorem d33 : decode yB 33 = .ok (.aload_n 1, 1) := by decide +kernel
theorem d34 : decode yB 34 = .ok (.iload_n 2, 1) := by decide +kernel
theorem d35 : decode yB 35 = .ok (.iload_n 3, 1) := by decide +kernel
theorem d36 : decode yB 36 = .ok (.invokestatic 177, 3) := by decide +kernel
theorem d39 : decode yB 39 = .ok (.astore 5, 2) := by decide +kernel
theorem d41 : decode yB 41 = .ok (.aload_n 0, 1) := by decide +kernel
theorem d42 : decode yB 42 = .ok (.aload 5, 2) := by decide +kernel
theorem d44 : decode yB 44 = .ok (.iload_n 3, 1) := by decide +kernel
theorem d45 : decode yB 45 = .ok (.invokestatic 47, 3) := by decide +kernel
theorem d48 : decode yB 48 = .ok (.putfield 15, 3) := by decide +kernel
theorem d51 : decode yB 51 = .ok (.aload_n 0, 1) := by decide +kernel
theorem d52 : decode yB 52 = .ok (.aload 5, 2) := by decide +kernel
theorem d54 : decode yB 54 = .ok (.putfield 9, 3) := by decide +kernel
theorem d57 : decode yB 57 = .ok (.return_, 1) := by decide +kernel
def site : List Cond := [.fieldLink "java/lang/String" 38 "java/lang/String" "COMPACT_STRINGS" "Z", Cmp3.tab, CodL.tab, .laysFinal "java/lang/String" "java/lang/String" "value" "[B", .fieldLink "java/lang/String" 9 "java/lang/String" "value" "[B", .laysFinal "java/lang/String" "java/lang/String" "coder" "B", .fieldLink "java/lang/String" 15 "java/lang/String" "coder" "B"] ++ objW "java/lang/String" 1 ++ staticW "java/lang/String" 177 Cmp3.yN ++ staticW "java/lang/String" 47 CodL.yN
def tab : Cond := tabOf yN yB 6 none site
def P (a : Addr) (D : Cell) (fV fC : Field) (b : Addr) (A : Cell) (z : Int32) (o len : Nat) (args : Array Value) (s : State) : Prop := args = #[.ref a, .ref b, .int (Int32.ofNat o), .int (Int32.ofNat len), .null] ∧ Blank "java/lang/String" a D s ∧ Found "java/lang/String" "value" "[B" fV s ∧ Found "java/lang/String" "coder" "B" fC s ∧ Ch b A s ∧ StaticIs s "java/lang/String" "COMPACT_STRINGS" "Z" (.int z) ∧ ¬ z = 0 ∧ 0 < len ∧ o + len ≤ A.slots.size ∧ len ≤ 536870912 ∧ ∀ i, i < len → ¬ 255 < cv A (o + i)
def E (a : Addr) (D : Cell) (fV fC : Field) (A : Cell) (o len : Nat) (r : Option Value) (s u : State) : Prop := Got a D fV fC A o len r s u
/-- len > 0, no char of the range above 255: a Latin-1 String of their low bytes -/
theorem law (l : Launch) (a : Addr) (D : Cell) (fV fC : Field) (b : Addr) (A : Cell) (z : Int32) (o len : Nat) : Law l yN 5 4 2 35 yB 6 none site (P a D fV fC b A z o len) (E a D fV fC A o len) [⟨a, fC.slot⟩, ⟨a, fV.slot⟩] 1 len := by
  refine Law.of_walk (plainFor_of_name (by decide +kernel)) (by decide +kernel) (by decide +kernel) (by decide) (fun _ _ h => by rw [h.1]; rfl) (fun _ U U' hal hh h => ⟨h.1, h.2.1.mv hal hh, h.2.2.1.al hal, h.2.2.2.1.al hal, h.2.2.2.2.1.mv hal hh, h.2.2.2.2.2.1.there hal hh, h.2.2.2.2.2.2⟩) (fun r U U' V V' h1 hal h2 h => Got.mv r U U' V V' h1 hal h2 h) ?_
  intro p e s m args below meth c s₁ X0 hexec hbytes hml hret hlk hnm hown hh0 W hP
  obtain ⟨rfl, hB, f1, f2, hA, s1, hz, l0, l1, l2, hp⟩ := hP
  have a31 := hA.1.2.2.2
  have c1 : Steps p.tables e below (s₁.setTop (entryFrame m #[.ref a, .ref b, .int (Int32.ofNat o), .int (Int32.ofNat len), .null] 6)) (s₁.setTop (mkF m 0 #[.val (.ref a), .val (.ref b), .val (.int (Int32.ofNat o)), .val (.int (Int32.ofNat len)), .val .null, .unset] [])) := entry rfl
  have c2 : Steps p.tables e below (s₁.setTop (entryFrame m #[.ref a, .ref b, .int (Int32.ofNat o), .int (Int32.ofNat len), .null] 6)) (s₁.setTop (mkF m 1 #[.val (.ref a), .val (.ref b), .val (.int (Int32.ofNat o)), .val (.int (Int32.ofNat len)), .val .null, .unset] [.ref a])) := c1.trans (by
    refine XS.aloadN X0.here hexec rfl (hb hbytes d0) rfl rfl ?_
    exact Steps.refl _)
  obtain ⟨T3, X3, q3, st3⟩ := X0.oinit hexec hown (wks W (objW "java/lang/String" 1)) (g := (mkF m 1 #[.val (.ref a), .val (.ref b), .val (.int (Int32.ofNat o)), .val (.int (Int32.ofNat len)), .val .null, .unset] [.ref a])) rfl (by rw [hml]; rfl) (rest := []) rfl (hb hbytes d1) (W := 0) (by show 2 * 0 + 0 ≤ _; decide) (Nat.le_of_ble_eq_true rfl) (Nat.le_of_ble_eq_true rfl)
  have hh3 := q3.trans hh0
  have c4 : Steps p.tables e below (s₁.setTop (entryFrame m #[.ref a, .ref b, .int (Int32.ofNat o), .int (Int32.ofNat len), .null] 6)) (T3.setTop (mkF m 27 #[.val (.ref a), .val (.ref b), .val (.int (Int32.ofNat o)), .val (.int (Int32.ofNat len)), .val .null, .unset] [])) := (c2.trans (st3 _ (Steps.refl _))).trans (by
    refine XS.iloadN X3.here hexec rfl (hb hbytes d4) rfl ?_
    refine XS.ifYes X3.here hexec rfl (pc0 := 5) rfl (hb hbytes d5) rfl (i0_ne_t (nz32 (by omega) l0)) (by decide) rfl ?_
    exact Steps.refl _)
  obtain ⟨T5, X5, q5, st5⟩ := X3.sget hexec hown (wk W (.fieldLink "java/lang/String" 38 "java/lang/String" "COMPACT_STRINGS" "Z")) s1 (fun _ _ h => by rw [hh3]; exact h) (g := (mkF m 27 #[.val (.ref a), .val (.ref b), .val (.int (Int32.ofNat o)), .val (.int (Int32.ofNat len)), .val .null, .unset] [])) rfl (hb hbytes d27)
  have hh5 := q5.trans hh3
  have c6 : Steps p.tables e below (s₁.setTop (entryFrame m #[.ref a, .ref b, .int (Int32.ofNat o), .int (Int32.ofNat len), .null] 6)) (T5.setTop (mkF m 30 #[.val (.ref a), .val (.ref b), .val (.int (Int32.ofNat o)), .val (.int (Int32.ofNat len)), .val .null, .unset] [.int z])) := c4.trans (st5 _ (Steps.refl _))
  have c7 : Steps p.tables e below (s₁.setTop (entryFrame m #[.ref a, .ref b, .int (Int32.ofNat o), .int (Int32.ofNat len), .null] 6)) (T5.setTop (mkF m 36 #[.val (.ref a), .val (.ref b), .val (.int (Int32.ofNat o)), .val (.int (Int32.ofNat len)), .val .null, .unset] [.int (Int32.ofNat len), .int (Int32.ofNat o), .ref b])) := c6.trans (by
    refine XS.ifNo X5.here hexec rfl (hb hbytes d30) rfl (i0_eq_f hz) ?_
    refine XS.aloadN X5.here hexec rfl (hb hbytes d33) rfl rfl ?_
    refine XS.iloadN X5.here hexec rfl (hb hbytes d34) rfl ?_
    refine XS.iloadN X5.here hexec rfl (hb hbytes d35) rfl ?_
    exact Steps.refl _)
  obtain ⟨v8, T8, X8, E8, g8⟩ := X5.callS hexec (Cmp3.law l b A o len) hown (wks W (staticW "java/lang/String" 177 Cmp3.yN)) (wk W Cmp3.tab) (W := 0) (Nat.le_of_ble_eq_true rfl) (Nat.le_of_ble_eq_true rfl) (Nat.le_refl _) (by show 0 + len ≤ len; omega) (g := (mkF m 36 #[.val (.ref a), .val (.ref b), .val (.int (Int32.ofNat o)), .val (.int (Int32.ofNat len)), .val .null, .unset] [.int (Int32.ofNat len), .int (Int32.ofNat o), .ref b])) rfl (by rw [hml]; rfl) c7 (argsL := [.ref b, .int (Int32.ofNat o), .int (Int32.ofNat len)]) (rest := []) rfl rfl (by show 2 * 0 + 0 ≤ _; decide) (hb hbytes d36) (⟨rfl, hA.mv X5.warmed.alike hh5, l1, l2, hp⟩)
  obtain ⟨e8, z8⟩ := E8
  obtain ⟨rfl, N, n1, n2, n3, n4, n5, n6⟩ := NewArr.mv _ T5 s _ _ hh5.symm (Vm.Alike.refl _) rfl e8
  rw [hh5] at z8
  have hB1 := hB.keep X8.warmed.alike (n6 _ _ hB.1)
  have hne : s.heap.size ≠ a := (Nat.ne_of_lt (Array.getElem?_eq_some_iff.mp hB.1).1).symm
  have c9 : Steps p.tables e below (s₁.setTop (entryFrame m #[.ref a, .ref b, .int (Int32.ofNat o), .int (Int32.ofNat len), .null] 6)) (T8.setTop (mkF m 39 #[.val (.ref a), .val (.ref b), .val (.int (Int32.ofNat o)), .val (.int (Int32.ofNat len)), .val .null, .unset] [.ref s.heap.size])) := g8
  have c10 : Steps p.tables e below (s₁.setTop (entryFrame m #[.ref a, .ref b, .int (Int32.ofNat o), .int (Int32.ofNat len), .null] 6)) (T8.setTop (mkF m 45 #[.val (.ref a), .val (.ref b), .val (.int (Int32.ofNat o)), .val (.int (Int32.ofNat len)), .val .null, .val (.ref s.heap.size)] [.int (Int32.ofNat N.slots.size), .ref s.heap.size, .ref a])) := by
    have hc : Steps p.tables e below (s₁.setTop (entryFrame m #[.ref a, .ref b, .int (Int32.ofNat o), .int (Int32.ofNat len), .null] 6)) (T8.setTop (mkF m 45 #[.val (.ref a), .val (.ref b), .val (.int (Int32.ofNat o)), .val (.int (Int32.ofNat len)), .val .null, .val (.ref s.heap.size)] [.int (Int32.ofNat len), .ref s.heap.size, .ref a])) := c9.trans (by
      refine XS.astore X8.here hexec rfl (hb hbytes d39) rfl rfl rfl ?_
      refine XS.aloadN X8.here hexec rfl (hb hbytes d41) rfl rfl ?_
      refine XS.aload X8.here hexec rfl (hb hbytes d42) rfl rfl ?_
      refine XS.iloadN X8.here hexec rfl (hb hbytes d44) rfl ?_
      exact Steps.refl _)
    rw [n4]; exact hc
  obtain ⟨v11, T11, X11, E11, g11⟩ := X8.callS hexec (CodL.law l s.heap.size N) hown (wks W (staticW "java/lang/String" 47 CodL.yN)) (wk W CodL.tab) (W := 1) (Nat.le_of_ble_eq_true rfl) (Nat.le_of_ble_eq_true rfl) (Nat.le_refl _) (by show 0 + len + 0 ≤ len; omega) (g := (mkF m 45 #[.val (.ref a), .val (.ref b), .val (.int (Int32.ofNat o)), .val (.int (Int32.ofNat len)), .val .null, .val (.ref s.heap.size)] [.int (Int32.ofNat N.slots.size), .ref s.heap.size, .ref a])) rfl (by rw [hml]; rfl) c10 (argsL := [.ref s.heap.size, .int (Int32.ofNat N.slots.size)]) (rest := [.ref a]) rfl rfl (by show 2 * 0 + (1 + 0) ≤ _; decide) (hb hbytes d45) (⟨rfl, n1⟩)
  obtain ⟨rfl, q11⟩ := E11
  have hB11 := hB1.mv (X8.warmed.alike.symm.trans X11.warmed.alike) q11
  have c12 : Steps p.tables e below (s₁.setTop (entryFrame m #[.ref a, .ref b, .int (Int32.ofNat o), .int (Int32.ofNat len), .null] 6)) (T11.setTop (mkF m 48 #[.val (.ref a), .val (.ref b), .val (.int (Int32.ofNat o)), .val (.int (Int32.ofNat len)), .val .null, .val (.ref s.heap.size)] [.int 0, .ref a])) := g11
  obtain ⟨T13, X13, p13, bl13, sl13, st13⟩ := X11.finit hexec hown (wk W (.fieldLink "java/lang/String" 15 "java/lang/String" "coder" "B")) (Or.inr ⟨_, (wk W (.laysFinal "java/lang/String" "java/lang/String" "coder" "B"))⟩) (Or.inl ⟨rfl, hnm⟩) f2 (Or.inl rfl) hB11 (t := .byte) (by decide +kernel) rfl (g := (mkF m 48 #[.val (.ref a), .val (.ref b), .val (.int (Int32.ofNat o)), .val (.int (Int32.ofNat len)), .val .null, .val (.ref s.heap.size)] [.int 0, .ref a])) rfl (rest := []) rfl (hb hbytes d48)
  have c14 : Steps p.tables e below (s₁.setTop (entryFrame m #[.ref a, .ref b, .int (Int32.ofNat o), .int (Int32.ofNat len), .null] 6)) (T13.setTop (mkF m 54 #[.val (.ref a), .val (.ref b), .val (.int (Int32.ofNat o)), .val (.int (Int32.ofNat len)), .val .null, .val (.ref s.heap.size)] [.ref s.heap.size, .ref a])) := (c12.trans (st13 _ (Steps.refl _))).trans (by
    refine XS.aloadN X13.here hexec rfl (hb hbytes d51) rfl rfl ?_
    refine XS.aload X13.here hexec rfl (hb hbytes d52) rfl rfl ?_
    exact Steps.refl _)
  obtain ⟨T15, X15, p15, bl15, sl15, st15⟩ := X13.finit hexec hown (wk W (.fieldLink "java/lang/String" 9 "java/lang/String" "value" "[B")) (Or.inr ⟨_, (wk W (.laysFinal "java/lang/String" "java/lang/String" "value" "[B"))⟩) (Or.inl ⟨rfl, hnm⟩) f1 (Or.inl rfl) bl13 (t := (.array .byte)) (by decide +kernel) rfl (g := (mkF m 54 #[.val (.ref a), .val (.ref b), .val (.int (Int32.ofNat o)), .val (.int (Int32.ofNat len)), .val .null, .val (.ref s.heap.size)] [.ref s.heap.size, .ref a])) rfl (rest := []) rfl (hb hbytes d54)
  have c16 : Steps p.tables e below (s₁.setTop (entryFrame m #[.ref a, .ref b, .int (Int32.ofNat o), .int (Int32.ofNat len), .null] 6)) (T15.setTop (mkF m 57 #[.val (.ref a), .val (.ref b), .val (.int (Int32.ofNat o)), .val (.int (Int32.ofNat len)), .val .null, .val (.ref s.heap.size)] [])) := c14.trans (st15 _ (Steps.refl _))
  have ap := apart (Or.inr ⟨_, (wk W (.laysFinal "java/lang/String" "java/lang/String" "value" "[B"))⟩) (Or.inr ⟨_, (wk W (.laysFinal "java/lang/String" "java/lang/String" "coder" "B"))⟩) f1 f2 (t₁ := .array .byte) (t₂ := .byte) (by decide +kernel) (by decide +kernel) (by decide)
  have al := X8.warmed.alike.symm.trans X15.warmed.alike
  have n7 : T11.heap[s.heap.size]? = some N := by rw [q11]; exact n1.1
  exact ⟨T15, none, _, _, _, X15, by simp, rfl, by omega, (fun _ => rfl), ⟨rfl, _, N, bl15, ((Same.refl D _).set _ (by simp)).set _ (by simp), sl15, (Cell.slots_setSlot_ne _ ap).trans sl13, n1.keep al (p15.other hne (p13.other hne n7)), n2, by rw [al.findClass]; exact n3, n4, n5, fun y c h1 h2 => p15.other h1 (p13.other h1 (by rw [q11]; exact n6 y c h2)), by rw [p15.2.2, p13.2.2, q11]; exact z8⟩, fun fs hl => c16.trans (X15.returnOut hexec hret (hb hbytes d57) hl)⟩
end New4
namespace New1
def yN : MethodName := ⟨"java/lang/String", "<init>", "([C)V"⟩
abbrev yB : ByteArray := jdk_42_method_3_code
theorem d0 : decode yB 0 = .ok (.aload_n 0, 1) := by decide +kernel
theorem d1 : decode yB 1 = .ok (.aload_n 1, 1) := by decide +kernel
theorem d2 : decode yB 2 = .ok (.iconst 0, 1) := by decide +kernel
theorem d3 : decode yB 3 = .ok (.aload_n 1, 1) := by decide +kernel
theorem d4 : decode yB 4 = .ok (.arraylength, 1) := by decide +kernel
theorem d5 : decode yB 5 = .ok (.aconst_null, 1) := by decide +kernel
theorem d6 : decode yB 6 = .ok (.invokespecial 27, 3) := by decide +kernel
theorem d9 : decode yB 9 = .ok (.return_, 1) := by decide +kernel
def site : List Cond := [New4.tab] ++ initW "java/lang/String" 27 New4.yN
def tab : Cond := tabOf yN yB 2 none site
def P (a : Addr) (D : Cell) (fV fC : Field) (b : Addr) (A : Cell) (z : Int32) (args : Array Value) (s : State) : Prop := args = #[.ref a, .ref b] ∧ Blank "java/lang/String" a D s ∧ Found "java/lang/String" "value" "[B" fV s ∧ Found "java/lang/String" "coder" "B" fC s ∧ Ch b A s ∧ StaticIs s "java/lang/String" "COMPACT_STRINGS" "Z" (.int z) ∧ ¬ z = 0 ∧ 0 < A.slots.size ∧ A.slots.size ≤ 536870912 ∧ ∀ i, i < A.slots.size → ¬ 255 < cv A i
def E (a : Addr) (D : Cell) (fV fC : Field) (A : Cell) (r : Option Value) (s u : State) : Prop := Got a D fV fC A 0 A.slots.size r s u
/-- new String(chars), not empty, no char above 255: a Latin-1 String of their low bytes -/
theorem law (l : Launch) (a : Addr) (D : Cell) (fV fC : Field) (b : Addr) (A : Cell) (z : Int32) : Law l yN 2 1 3 52 yB 2 none site (P a D fV fC b A z) (E a D fV fC A) [⟨a, fC.slot⟩, ⟨a, fV.slot⟩] 1 A.slots.size := by
  refine Law.of_walk (plainFor_of_name (by decide +kernel)) (by decide +kernel) (by decide +kernel) (by decide) (fun _ _ h => by rw [h.1]; rfl) (fun _ U U' hal hh h => ⟨h.1, h.2.1.mv hal hh, h.2.2.1.al hal, h.2.2.2.1.al hal, h.2.2.2.2.1.mv hal hh, h.2.2.2.2.2.1.there hal hh, h.2.2.2.2.2.2⟩) (fun r U U' V V' h1 hal h2 h => Got.mv r U U' V V' h1 hal h2 h) ?_
  intro p e s m args below meth c s₁ X0 hexec hbytes hml hret hlk hnm hown hh0 W hP
  obtain ⟨rfl, hB, f1, f2, hA, s1, hz, l0, l2, hp⟩ := hP
  have c1 : Steps p.tables e below (s₁.setTop (entryFrame m #[.ref a, .ref b] 2)) (s₁.setTop (mkF m 0 #[.val (.ref a), .val (.ref b)] [])) := entry rfl
  have c2 : Steps p.tables e below (s₁.setTop (entryFrame m #[.ref a, .ref b] 2)) (s₁.setTop (mkF m 6 #[.val (.ref a), .val (.ref b)] [.null, .int (Int32.ofNat A.slots.size), .int 0, .ref b, .ref a])) := c1.trans (by
    refine XS.aloadN X0.here hexec rfl (hb hbytes d0) rfl rfl ?_
    refine XS.aloadN X0.here hexec rfl (hb hbytes d1) rfl rfl ?_
    refine iconstV X0.here hexec rfl 0 (hb hbytes d2) (by decide) ?_
    refine XS.aloadN X0.here hexec rfl (hb hbytes d3) rfl rfl ?_
    refine X0.alen hexec (hA.1.mv X0.warmed.alike hh0) rfl rfl (hb hbytes d4) ?_
    refine XS.aconstNull X0.here hexec rfl (hb hbytes d5) ?_
    exact Steps.refl _)
  obtain ⟨v3, T3, X3, E3, g3⟩ := X0.callN hexec (New4.law l a D fV fC b A z 0 A.slots.size) rfl hown (wks W (initW "java/lang/String" 27 New4.yN)) (W New4.tab (by simp only [site, List.mem_cons, List.mem_append, true_or, or_true])) (W := 0) (Nat.le_of_ble_eq_true rfl) (Nat.le_of_ble_eq_true rfl) (Nat.le_refl _) (by show 0 + A.slots.size ≤ A.slots.size; omega) (g := (mkF m 6 #[.val (.ref a), .val (.ref b)] [.null, .int (Int32.ofNat A.slots.size), .int (Int32.ofNat 0), .ref b, .ref a])) rfl (by rw [hml]; rfl) c2 (argsL := [.ref b, .int (Int32.ofNat 0), .int (Int32.ofNat A.slots.size), .null]) (rest := []) rfl rfl (by show 2 * 0 + 0 ≤ _; decide) (hb hbytes d6) (⟨rfl, hB.mv X0.warmed.alike hh0, f1.al X0.warmed.alike, f2.al X0.warmed.alike, hA.mv X0.warmed.alike hh0, s1.there X0.warmed.alike hh0, hz, l0, by omega, l2, fun i hi => by rw [Nat.zero_add]; exact hp i hi⟩)
  have e0 := Got.mv _ s₁ s _ _ hh0.symm (Vm.Alike.refl _) rfl E3
  obtain rfl := e0.1
  have c4 : Steps p.tables e below (s₁.setTop (entryFrame m #[.ref a, .ref b] 2)) (T3.setTop (mkF m 9 #[.val (.ref a), .val (.ref b)] [])) := g3
  exact ⟨T3, none, _, _, _, X3, by simp, rfl, by omega, (fun _ => rfl), e0, fun fs hl => c4.trans (X3.returnOut hexec hret (hb hbytes d9) hl)⟩
theorem pays {l : Launch} {R : Room} {p : Program} {e : Env} {below : List Frame} {s : State} {sargs : Array Value} {len W : Nat} (a : Addr) (D : Cell) (fV fC : Field) (b : Addr) (A : Cell) (z : Int32) (htab : tab.before sargs s = true) (hfr : 4 ≤ R.frames) (hlo : W + 65 ≤ R.locals) :
    Back l R p e below s sargs yN len W (fun A₁ a₁ => A₁.cells + 1 ≤ R.cells ∧ A₁.slots + A.slots.size ≤ R.slots ∧ P a D fV fC b A z a₁ A₁.U) (fun A₁ _ v₁ B₁ => E a D fV fC A v₁ A₁.U B₁.U ∧ B₁.locs = A₁.locs ++ [⟨a, fC.slot⟩, ⟨a, fV.slot⟩] ∧ B₁.cells = A₁.cells + 1 ∧ B₁.slots = A₁.slots + A.slots.size) :=
  (law l a D fV fC b A z).pays htab hfr (by omega)
end New1
/-- the byte, read back as charAt reads it, is the char -/
theorem lo8_mask {x : Int32} (h0 : ¬ x < 0) (h1 : ¬ 255 < x) : lo8 x &&& 255 = x := by
  have t : ∀ k : Fin 256, lo8 (Int32.ofNat k.val) &&& 255 = Int32.ofNat k.val := by decide +kernel
  rw [Int32.lt_iff_toInt_lt] at h0 h1
  have e0 : (0 : Int32).toInt = 0 := rfl
  have e1 : (255 : Int32).toInt = 255 := rfl
  obtain ⟨k, hk⟩ : ∃ k : Nat, x.toInt = k := ⟨x.toInt.toNat, by omega⟩
  have hx : x = Int32.ofNat k := Int32.toInt_inj.mp (by rw [hk, Int32.toInt_ofNat_small (by omega)])
  rw [hx]
  exact t ⟨k, by omega⟩
end StrChars
namespace StrChars.Road
open Jvm Sem ClassFile Op Lib Jvm.Stand Jvm.Free Jvm.Free.XT
open Jvm.Lib.Cold (StaticIs)
abbrev ST : String := "java/lang/String"
/-- every table word that New1's law asks, flat -/
abbrev words : List Jvm.Cond := [.code New1.yN New1.yB 2 none, .initialized ST, .methodLink ST 27 New4.yN, .instanceMethod New4.yN,
  .code New4.yN New4.yB 6 none, .fieldLink ST 38 ST "COMPACT_STRINGS" "Z", .laysFinal ST ST "value" "[B", .fieldLink ST 9 ST "value" "[B", .laysFinal ST ST "coder" "B", .fieldLink ST 15 ST "coder" "B",
  .methodLink ST 1 Lib.objectInit, .instanceMethod Lib.objectInit, .code Lib.objectInit ⟨#[0xb1]⟩ 1 none, .methodLink ST 177 Cmp3.yN, .static Cmp3.yN, .methodLink ST 47 CodL.yN, .static CodL.yN,
  .code Cmp3.yN Cmp3.yB 6 (some (.array .byte)), .initialized U16, .arrayClass .byte, .methodLink U16 115 Cmp5.yN, .static Cmp5.yN, .code Cmp5.yN Cmp5.yB 7 (some .int), .code CodL.yN CodL.yB 2 (some .byte)]
theorem tab_of {a : Array Value} {s : State} (h : ∀ w ∈ words, w.before a s = true) : New1.tab.before a s = true := by
  have h5 : Cmp5.tab.before a s = true := unparts (wk h (.code Cmp5.yN Cmp5.yB 7 (some .int))) (wks h (.initialized Cmp5.yN.cls :: Cmp5.site))
  have hc : CodL.tab.before a s = true := unparts (wk h (.code CodL.yN CodL.yB 2 (some .byte))) (wks h (.initialized CodL.yN.cls :: CodL.site))
  have q5 : ∀ w ∈ Cmp5.tab :: words, w.before a s = true := fun w hw => (List.mem_cons.mp hw).elim (fun e => e ▸ h5) (h w)
  have h3 : Cmp3.tab.before a s = true := unparts (wk q5 (.code Cmp3.yN Cmp3.yB 6 (some (.array .byte)))) (wks q5 (.initialized Cmp3.yN.cls :: Cmp3.site))
  have q3 : ∀ w ∈ Cmp3.tab :: CodL.tab :: words, w.before a s = true := fun w hw => (List.mem_cons.mp hw).elim (fun e => e ▸ h3) fun hw => (List.mem_cons.mp hw).elim (fun e => e ▸ hc) (h w)
  have h4 : New4.tab.before a s = true := unparts (wk q3 (.code New4.yN New4.yB 6 none)) (wks q3 (.initialized New4.yN.cls :: New4.site))
  have q4 : ∀ w ∈ New4.tab :: words, w.before a s = true := fun w hw => (List.mem_cons.mp hw).elim (fun e => e ▸ h4) (h w)
  exact unparts (wk q4 (.code New1.yN New1.yB 2 none)) (wks q4 (.initialized New1.yN.cls :: New1.site))
/-- the words ride from the start Z to the walk's own state -/
theorem moved {Z s : State} {a0 args : Array Value} (hZ : Z.Warmed39 s.vm) (hw : ∀ d ∈ words, d.before a0 Z = true) : ∀ d ∈ words, d.before args s = true := fun d hd => by
  have q := hw d hd
  have t : ∀ d ∈ words, d = .arrayClass .byte ∨ (d.onTables && d.keepsFace) = true := by decide +kernel
  rcases t d hd with rfl | t
  · exact RoadKit.mvA hZ q
  · exact RoadKit.mv hZ q t
/-- WHAT COMES BACK, over the tables of the start Z: h the heap at the call, h' behind it -/
def Q (Z : State) (x : Addr) (A : Cell) (h : Heap) (v : Option Value) (h' : Heap) (L : List Loc) : Prop := v = none ∧ (∀ y ∈ L, y.base = x) ∧ RoadKit.Keep h h' [x] ∧ h'.size = h.size + 1 ∧ RoadKit.Exa Z h' x ST ∧ RoadKit.Fld Z h' x ST "value" "[B" (.ref h.size) ∧ RoadKit.Fld Z h' x ST "coder" "B" (.int 0) ∧
  (∃ V : Cell, RoadKit.Arr Z h' h.size V .byte ∧ V.vm = .none ∧ Z.vm.findClass "[B" = some V.cls ∧ V.slots.size = A.slots.size ∧ ∀ j, j < A.slots.size → V.slots[j]? = some (.int (lo8 (cv A j)))) ∧
  ∀ (O n d : String) (w : Value), RoadKit.Fld Z h x O n d w → RoadKit.slotOf Z O n d ≠ RoadKit.slotOf Z ST "value" "[B" → RoadKit.slotOf Z O n d ≠ RoadKit.slotOf Z ST "coder" "B" → RoadKit.Fld Z h' x O n d w
/-- **new String(chars) AT A CALL, IN THE ROAD'S FORM**: for specialBack behind newO: x the fresh String, b the char[] with the cell A -/
theorem back {p : Program} {l : Launch} {e : Env} {R : Room} {s : State} {args : Array Value} {below : List Frame} {len W : Nat} {Z : State} {a0 : Array Value} {h : Heap} (hZ : Z.Warmed39 s.vm) (hw : ∀ d ∈ words, d.before a0 Z = true) {kI : Nat} (wi : (Jvm.Cond.instantiable ST kI).before a0 Z = true)
    {x b : Addr} {A : Cell} {z : Int32} {v0 c0 : Value} (E : RoadKit.Exa Z h x ST) (V : RoadKit.Fld Z h x ST "value" "[B" v0) (C : RoadKit.Fld Z h x ST "coder" "B" c0) (K : RoadKit.Arr Z h b A .char) (hty : Typed .char A) (S : RoadKit.Sta Z h ST "COMPACT_STRINGS" "Z" (.int z)) (hz : ¬ z = 0)
    (l0 : 0 < A.slots.size) (l2 : A.slots.size ≤ 536870912) (hp : ∀ i, i < A.slots.size → ¬ 255 < cv A i) (hfr : 4 ≤ R.frames) (hlo : W + 65 ≤ R.locals) :
    Back l R p e below s args New1.yN len W (fun P a => a = #[.ref x, .ref b] ∧ P.U.heap = h ∧ P.cells + 1 ≤ R.cells ∧ P.slots + A.slots.size ≤ R.slots)
      (fun P _ v B => ∃ L, Q Z x A h v B.U.heap L ∧ B.locs = P.locs ++ L ∧ B.cells = P.cells + 1 ∧ B.slots = P.slots + A.slots.size) := by
  intro m meth c P g ig mk a X hg hsize hdg hW hn hp'
  obtain ⟨rfl, rfl, r1, r2⟩ := hp'
  have al : Z.vm.Alike P.U.vm := hZ.alike.trans X.warmed.alike
  obtain ⟨D, cfV, kV, iV, fV, hD, gV, stV, knV, obV, asV, slV⟩ := id V
  obtain ⟨D', cfC, kC, iC, fC, hD', gC, stC, -, -, asC, slC⟩ := id C
  cases hD.symm.trans hD'
  obtain ⟨D2, kD, e1, e2, e3, e4, e5⟩ := id E
  cases hD.symm.trans e1
  obtain ⟨c2, k2, i1, i2, i3, -⟩ := Cond.instantiable_spec wi
  cases e2.symm.trans i1
  cases e3.symm.trans i2
  obtain ⟨kU, u1, u2⟩ := al.2.2 _ _ e3
  have hB : Blank ST x D P.U := ⟨hD, ⟨knV, fun q hq => by rw [hq] at obV; cases obV⟩, by rw [al.findClass]; exact e2, kU, u1, by rw [u2]; exact i3, by rw [u2]; exact e5 i3⟩
  have F1 : Found ST "value" "[B" fV P.U := ⟨SBG.found_only al ⟨cfV, kV, iV, gV⟩, stV⟩
  have F2 : Found ST "coder" "B" fC P.U := ⟨SBG.found_only al ⟨cfC, kC, iC, gC⟩, stC⟩
  have hA : Ch b A P.U := ⟨⟨K.1, State.isArrayOf_alike al K.2.1, K.2.2, by omega⟩, hty⟩
  have hS : StaticIs P.U ST "COMPACT_STRINGS" "Z" (.int z) := by
    obtain ⟨cfS, iS, kS, fS, st, cS, t1, t2, t3, t4, t5, t6, t7⟩ := S
    exact StaticIs.there (s := { Z with heap := P.U.heap }) ⟨cfS, iS, kS, fS, st, cS, t1, t2, t3, t4, t5, (fun q => by rw [q] at t6; cases t6), t7⟩ al rfl
  obtain ⟨v, B, X', ⟨⟨hv, E', V', q1, q2, q3, q4, q5, q6, q7, q8, q9, q10, q11⟩, hl, hc, hs⟩, st⟩ := New1.pays x D fV fC b A z (tab_of (moved hZ hw)) hfr hlo m meth c P g ig mk _ X hg hsize hdg hW hn ⟨r1, r2, rfl, hB, F1, F2, hA, hS, hz, l0, l2, hp⟩
  have al' : Z.vm.Alike B.U.vm := hZ.alike.trans X'.warmed.alike
  have hsz : E'.slots.size = D.slots.size := by
    obtain ⟨-, -, -, kB, w1, w2, w3⟩ := q1
    obtain ⟨kB', y1, y2⟩ := al'.2.2 _ _ e3
    rw [q2.2.1] at w1
    cases w1.symm.trans y1
    rw [w3, e5 i3, y2]
  refine ⟨v, B, X', ⟨_, ⟨hv, ?_, ⟨by omega, fun y cy hy hn' => q10 y cy (by simpa using hn') hy, fun y cy hy => ?_⟩, q11, ⟨E', _, q1.1, by rw [q2.2.1]; exact e2, by rw [q2.2.1]; exact e3, by rw [q2.1]; exact obV, fun _ => by rw [hsz]; exact e5 i3⟩,
    ⟨E', cfV, kV, iV, fV, q1.1, gV, stV, by rw [q2.1]; exact knV, by rw [q2.1]; exact obV, by rw [q2.2.1]; exact asV, q3⟩, ⟨E', cfC, kC, iC, fC, q1.1, gC, stC, by rw [q2.1]; exact knV, by rw [q2.1]; exact obV, by rw [q2.2.1]; exact asC, q4⟩,
    ⟨V', ⟨q5.1, State.isArrayOf_alike al'.symm q5.2.1, q5.2.2.1⟩, q6, by rw [← al'.findClass]; exact q7, q8, fun j hj => by have := q9 j hj; rwa [Nat.zero_add] at this⟩, fun O n d w F n1 n2 => ?_⟩, hl, hc, hs⟩, st⟩
  · intro y hy
    simp only [List.mem_cons, List.not_mem_nil, or_false] at hy
    rcases hy with rfl | rfl <;> rfl
  · by_cases q : y = x
    · subst q
      cases hD.symm.trans hy
      exact ⟨E', q1.1, q2.2.1, q2.1, hsz⟩
    · exact ⟨cy, q10 y cy q hy, rfl, rfl, rfl⟩
  · obtain ⟨D3, cf, k, i, f, g1, g2, g3, g4, g5, g6, g7⟩ := F
    cases hD.symm.trans g1
    simp only [RoadKit.slotOf, g2, gV, gC, Option.map_some, Option.getD_some] at n1 n2
    exact ⟨E', cf, k, i, f, q1.1, g2, g3, by rw [q2.1]; exact g4, by rw [q2.1]; exact g5, by rw [q2.2.1]; exact g6, by rw [q2.2.2 f.slot (by simp [n1, n2])]; exact g7⟩
end StrChars.Road
namespace StrChars.Road
open Jvm Sem ClassFile Op Lib Jvm.Stand Jvm.Free Jvm.Free.XT
/-- WHAT COMES BACK, the byte[] as a list of values -/
def QA (Z : State) (x : Addr) (zn : Int32) (cs : List Int32) (h : Heap) (v : Option Value) (h' : Heap) (L : List Loc) : Prop := v = none ∧ (∀ y ∈ L, y.base = x) ∧ RoadKit.Keep h h' [x] ∧ h'.size = h.size + 1 ∧ RoadKit.Exa Z h' x ST ∧ RoadKit.Fld Z h' x ST "value" "[B" (.ref h.size) ∧ RoadKit.Fld Z h' x ST "coder" "B" (.int 0) ∧
  (∃ kb, Z.vm.findClass "[B" = some kb ∧ RoadKit.Arv Z h' h.size kb .byte zn (cs.map fun c => .int (lo8 c)) (.int 0)) ∧
  ∀ (O n d : String) (w : Value), RoadKit.Fld Z h x O n d w → RoadKit.slotOf Z O n d ≠ RoadKit.slotOf Z ST "value" "[B" → RoadKit.slotOf Z O n d ≠ RoadKit.slotOf Z ST "coder" "B" → RoadKit.Fld Z h' x O n d w
/-- **new String(chars) AT A CALL, THE ARRAYS AS LISTS**: the char[] at b holds cs, not empty, no char above 255 -/
theorem backArv {p : Program} {l : Launch} {e : Env} {R : Room} {s : State} {args : Array Value} {below : List Frame} {len W : Nat} {Z : State} {a0 : Array Value} {h : Heap} (hZ : Z.Warmed39 s.vm) (hw : ∀ d ∈ words, d.before a0 Z = true) {kI : Nat} (wi : (Jvm.Cond.instantiable ST kI).before a0 Z = true)
    {x b : Addr} {k : ClassId} {zn z : Int32} {cs : List Int32} {dv v0 c0 : Value} (E : RoadKit.Exa Z h x ST) (V : RoadKit.Fld Z h x ST "value" "[B" v0) (C : RoadKit.Fld Z h x ST "coder" "B" c0) (K : RoadKit.Arv Z h b k .char zn (cs.map Value.int) dv) (S : RoadKit.Sta Z h ST "COMPACT_STRINGS" "Z" (.int z)) (hz : ¬ z = 0)
    (hlen : zn.toNatClampNeg = cs.length) (h0 : 0 < cs.length) (hbig : cs.length ≤ 536870912) (hall : ∀ c ∈ cs, ¬ 255 < c) (hfr : 4 ≤ R.frames) (hlo : W + 65 ≤ R.locals) :
    Back l R p e below s args New1.yN len W (fun P a => a = #[.ref x, .ref b] ∧ P.U.heap = h ∧ P.cells + 1 ≤ R.cells ∧ P.slots + cs.length ≤ R.slots)
      (fun P _ v B => ∃ L, QA Z x zn cs h v B.U.heap L ∧ B.locs = P.locs ++ L ∧ B.cells = P.cells + 1 ∧ B.slots = P.slots + cs.length) := by
  obtain ⟨A, K1, K2, K3, K4, K5, K6⟩ := K
  have e : A.slots.size = cs.length := K3.trans hlen
  have hat : ∀ (i : Nat) (hi : i < cs.length), A.slots[i]? = some (.int cs[i]) := fun i hi => by rw [K5 i (by omega)]; simp [List.getD_eq_getElem?_getD, hi]
  have hcv : ∀ (i : Nat) (hi : i < cs.length), cv A i = cs[i] := fun i hi => by unfold cv; rw [hat i hi]
  have hty : Typed .char A := fun i v hv => by
    have hi : i < A.slots.size := (Array.getElem?_eq_some_iff.mp hv).1
    have q := K5 i hi
    rw [hv] at q
    rw [Option.some.inj q]
    exact K6 i hi
  refine Back.mono (back hZ hw wi E V C K1 hty S hz (by omega) (by omega) (fun i hi => by rw [hcv i (by omega)]; exact hall _ (List.getElem_mem _)) hfr hlo) (fun P a hp => ⟨hp.1, hp.2.1, hp.2.2.1, by rw [e]; exact hp.2.2.2⟩) (fun P a v B hp hq => ?_)
  obtain ⟨L, ⟨q1, q2, q3, q4, q5, q6, q7, ⟨V', v1, v2, v3, v4, v5⟩, q9⟩, hl, hc, hs⟩ := hq
  refine ⟨L, ⟨q1, q2, q3, q4, q5, q6, q7, ⟨V'.cls, v3, V', v1, rfl, by rw [v4, e, hlen], K4, fun i hi => ?_, fun i hi => ?_⟩, q9⟩, hl, hc, by rw [hs, e]⟩
  · have hi' : i < cs.length := by omega
    rw [v5 i (by omega), hcv i hi']; simp [List.getD_eq_getElem?_getD, hi']
  · have hi' : i < cs.length := by omega
    simp only [List.getD_eq_getElem?_getD, List.getElem?_map, List.getElem?_eq_getElem hi', Option.map_some, Option.getD_some]
    exact fits_lo8 _
end StrChars.Road
namespace StrChars.Road
open Jvm Sem ClassFile Op Lib Jvm.Stand Jvm.Free Jvm.Free.XT
/-- WHAT COMES BACK, in the writer's own shape -/
def QV (Z : State) (x : Addr) (N : Int32) (bs : List Int32) (h : Heap) (n0 : Nat) (v : Option Value) (h' : Heap) (L : List Loc) : Prop := v = none ∧ RoadKit.Fr n0 L ∧ RoadKit.Keep h h' [x] ∧ RoadKit.Exa Z h' x ST ∧ RoadKit.Fld Z h' x ST "coder" "B" (.int 0) ∧
  ∃ (t : Addr) (kb : ClassId), n0 ≤ t ∧ h.size ≤ t ∧ ¬ t = x ∧ RoadKit.Fld Z h' x ST "value" "[B" (.ref t) ∧ RoadKit.Arv Z h' t kb .byte N (bs.map Value.int) (.int 0)
/-- **new String(chars) AT A CALL, FOR THE WRITER**: a char[] of n known ints, each 0 to 255 -/
theorem backV {p : Program} {l : Launch} {e : Env} {R : Room} {s : State} {args : Array Value} {below : List Frame} {len W : Nat} {Z : State} {a0 : Array Value} {h : Heap} (hZ : Z.Warmed39 s.vm) (hw : ∀ d ∈ words, d.before a0 Z = true) {kI : Nat} (wi : (Jvm.Cond.instantiable ST kI).before a0 Z = true)
    {x b : Addr} {kC : ClassId} {cs bs : List Int32} {d v0 c0 : Value} {z N : Int32} {n n0 : Nat} (hx0 : n0 ≤ x) (hh0 : n0 ≤ h.size) (E : RoadKit.Exa Z h x ST) (V : RoadKit.Fld Z h x ST "value" "[B" v0) (C : RoadKit.Fld Z h x ST "coder" "B" c0) (K : RoadKit.Arv Z h b kC .char N (cs.map Value.int) d) (S : RoadKit.Sta Z h ST "COMPACT_STRINGS" "Z" (.int z)) (hz : ¬ z = 0)
    (hn : cs.length = n) (hN : N = Int32.ofNat n) (l0 : 0 < n) (l2 : n ≤ 4000) (hp : ∀ c ∈ cs, ¬ c < 0 ∧ ¬ (255 : Int32) < c) (hb : bs = cs.map (fun c => c.toInt8.toInt32)) (hfr : 4 ≤ R.frames) (hlo : W + 65 ≤ R.locals) :
    Back l R p e below s args (⟨"java/lang/String", "<init>", "([C)V"⟩ : MethodName) len W (fun P a => a = #[.ref x, .ref b] ∧ P.U.heap = h ∧ P.cells + 1 ≤ R.cells ∧ P.slots + n ≤ R.slots)
      (fun P _ v B => ∃ L, QV Z x N bs h n0 v B.U.heap L ∧ B.locs = P.locs ++ L ∧ B.cells = P.cells + 1 ∧ B.slots = P.slots + n) := by
  subst hn hN hb
  refine Back.mono (backArv hZ hw wi E V C K S hz (n32 (by omega)) l0 (by omega) (fun c hc => (hp c hc).2) hfr hlo) (fun P a hp => hp) (fun P a v B hp hq => ?_)
  obtain ⟨L, ⟨q1, q2, q3, q4, q5, q6, q7, ⟨kb, v1, v2⟩, q9⟩, hl, hc, hs⟩ := hq
  exact ⟨L, ⟨q1, fun y hy => by rw [q2 y hy]; exact hx0, q3, q5, q7, h.size, kb, hh0, Nat.le_refl _, Nat.ne_of_gt E.lt, q6, by rw [List.map_map]; exact v2⟩, hl, hc, hs⟩
end StrChars.Road
namespace StrChars
open Jvm Sem ClassFile Op Lib Jvm.Stand Jvm.Free.XT Jvm.Free.ALB Jvm.Free.JM Jvm.Free
open Jvm.Lib.Cold (StaticIs)
def hi8 (x : Int32) : Int32 := lo8 (x >>> ((8 : Int32) &&& 31))
/-- what StringUTF16.getChar makes of two bytes -/
def pairCh (u v : Int32) : Int32 := (((u &&& 255) <<< ((0 : Int32) &&& 31)) ||| ((v &&& 255) <<< ((8 : Int32) &&& 31))).toUInt32.toUInt16.toUInt32.toInt32
theorem lo8_and (x : Int32) : (lo8 x &&& 255).toBitVec.toNat = x.toBitVec.toNat % 256 := by
  have h : (lo8 x).toBitVec = (x.toBitVec.signExtend 8).signExtend 32 := by rw [lo8, Int8.toBitVec_toInt32, Int32.toBitVec_toInt8]
  rw [Int32.toBitVec_and, BitVec.toNat_and, h]
  have e : ((x.toBitVec.signExtend 8).signExtend 32).toNat % 256 = x.toBitVec.toNat % 256 := by
    rw [BitVec.toNat_signExtend]
    have hlt := x.toBitVec.isLt
    simp only [BitVec.toNat_setWidth, BitVec.toNat_signExtend]
    split <;> split <;> omega
  rw [← e]
  exact Nat.and_two_pow_sub_one_eq_mod _ 8
theorem pair_says {c : Int32} (h0 : ¬ c < 0) (h1 : ¬ 65535 < c) : pairCh (lo8 c) (hi8 c) = c := by
  rw [Int32.lt_iff_toInt_lt] at h0 h1
  have e0 : (0 : Int32).toInt = 0 := rfl
  have e1 : (65535 : Int32).toInt = 65535 := rfl
  have hc : c.toInt = c.toBitVec.toNat := by
    have := c.toBitVec.isLt
    have e : c.toInt = c.toBitVec.toInt := rfl
    rw [e] at h0 h1
    rw [e]
    rw [BitVec.toInt_eq_toNat_cond] at h0 h1 ⊢
    split at h0 <;> split <;> omega
  have hn : c.toBitVec.toNat < 65536 := by omega
  have a1 := lo8_and c
  have a2 : (hi8 c &&& 255).toBitVec.toNat = c.toBitVec.toNat / 256 := by
    rw [hi8, lo8_and]
    have e : ((8 : Int32) &&& 31) = 8 := by decide
    rw [e, Int32.toBitVec_shiftRight]
    have e2 : ((8 : Int32).toBitVec.smod 32) = 8#32 := by decide
    rw [e2, BitVec.sshiftRight_eq', BitVec.toNat_sshiftRight_of_msb_false (by rw [BitVec.msb_eq_false_iff_two_mul_lt]; omega)]
    show c.toBitVec.toNat >>> 8 % 256 = _
    rw [Nat.shiftRight_eq_div_pow]
    omega
  unfold pairCh
  apply Int32.toBitVec_inj.mp
  apply BitVec.eq_of_toNat_eq
  have f0 : ((0 : Int32) &&& 31) = 0 := by decide
  have f8 : ((8 : Int32) &&& 31) = 8 := by decide
  rw [f0, f8]
  have g : (((lo8 c &&& 255) <<< (0 : Int32)) ||| ((hi8 c &&& 255) <<< (8 : Int32))).toBitVec.toNat = c.toBitVec.toNat := by
    rw [Int32.toBitVec_or, Int32.toBitVec_shiftLeft, Int32.toBitVec_shiftLeft]
    have s0 : ((0 : Int32).toBitVec.smod 32) = 0#32 := by decide
    have s8 : ((8 : Int32).toBitVec.smod 32) = 8#32 := by decide
    rw [s0, s8, BitVec.toNat_or]
    simp only [BitVec.shiftLeft_eq', BitVec.toNat_shiftLeft, a1, a2]
    show (c.toBitVec.toNat % 256) <<< 0 % 2 ^ 32 ||| (c.toBitVec.toNat / 256) <<< 8 % 2 ^ 32 = _
    rw [Nat.shiftLeft_zero, Nat.mod_eq_of_lt (show c.toBitVec.toNat % 256 < 2 ^ 32 by omega), Nat.mod_eq_of_lt (show (c.toBitVec.toNat / 256) <<< 8 < 2 ^ 32 by rw [Nat.shiftLeft_eq]; omega), Nat.or_comm, ← Nat.shiftLeft_add_eq_or_of_lt (by omega), Nat.shiftLeft_eq]
    omega
  show BitVec.toNat (((((lo8 c &&& 255) <<< (0 : Int32)) ||| ((hi8 c &&& 255) <<< (8 : Int32))).toBitVec.setWidth 16).setWidth 32) = _
  rw [BitVec.toNat_setWidth, BitVec.toNat_setWidth, g]
  omega
end StrChars
namespace StrChars
open Jvm Sem ClassFile Op Lib Jvm.Stand Jvm.Free.XT Jvm.Free.ALB Jvm.Free.JM Jvm.Free
open Jvm.Lib.Cold (StaticIs)
/-- charAt's cast of a byte read back -/
def chr8 (u : Int32) : Int32 := (u &&& 255).toUInt32.toUInt16.toUInt32.toInt32
theorem chr8_lo8 {c : Int32} (h0 : ¬ c < 0) (h1 : ¬ 255 < c) : chr8 (lo8 c) = c := by
  have t : ∀ k : Fin 256, (Int32.ofNat k.val).toUInt32.toUInt16.toUInt32.toInt32 = Int32.ofNat k.val := by decide +kernel
  unfold chr8
  rw [lo8_mask h0 h1]
  rw [Int32.lt_iff_toInt_lt] at h0 h1
  have e0 : (0 : Int32).toInt = 0 := rfl
  have e1 : (255 : Int32).toInt = 255 := rfl
  obtain ⟨k, hk⟩ : ∃ k : Nat, c.toInt = k := ⟨c.toInt.toNat, by omega⟩
  have hx : c = Int32.ofNat k := Int32.toInt_inj.mp (by rw [hk, Int32.toInt_ofNat_small (by omega)])
  rw [hx]
  exact t ⟨k, by omega⟩
theorem narrow_ch {c : Int32} (h0 : ¬ c < 0) (h1 : ¬ 65535 < c) : narrow .char (.int c) = .int c := by
  have q : narrow .char (.int (pairCh (lo8 c) (hi8 c))) = .int (pairCh (lo8 c) (hi8 c)) := narrow_c _
  rwa [pair_says h0 h1] at q
/-- the array's cell V codes the n chars f 0 .. f (n - 1) by the coder cd, as the JDK does: coder 1 just where some char is above 255 -/
def Cod (cd : Int32) (n : Nat) (f : Nat → Int32) (V : Cell) : Prop := (cd = 0 ∧ V.slots.size = n ∧ ∀ j, j < n → V.slots[j]? = some (.int (lo8 (f j))) ∧ ¬ 255 < f j) ∨ (cd = 1 ∧ V.slots.size = 2 * n ∧ (∀ j, j < n → V.slots[2 * j]? = some (.int (lo8 (f j))) ∧ V.slots[2 * j + 1]? = some (.int (hi8 (f j)))) ∧ ∃ j, j < n ∧ 255 < f j)
theorem Cod.cd {cd : Int32} {n : Nat} {f : Nat → Int32} {V : Cell} (h : Cod cd n f V) : cd = 0 ∨ cd = 1 := h.imp (fun q => q.1) fun q => q.1
/-- **x is a String of the n chars f 0 .. f (n - 1)**, Latin-1 or UTF-16; its array at t has the cell V -/
def Txt (x t : Addr) (V : Cell) (cd : Int32) (n : Nat) (f : Nat → Int32) (U : State) : Prop := Exact "java/lang/String" x U ∧ Has x "java/lang/String" "value" "[B" (.ref t) U ∧ Has x "java/lang/String" "coder" "B" (.int cd) U ∧ XT.Arr .byte t V U ∧ Cod cd n f V ∧ ∀ j, j < n → ¬ f j < 0 ∧ ¬ 65535 < f j
theorem Txt.mv {x t : Addr} {V : Cell} {cd : Int32} {n : Nat} {f : Nat → Int32} {U U' : State} (h : Txt x t V cd n f U) (hal : U.vm.Alike U'.vm) (hh : U'.heap = U.heap) : Txt x t V cd n f U' := ⟨h.1.mv hal hh, h.2.1.mv hal hh, h.2.2.1.mv hal hh, h.2.2.2.1.mv hal hh, h.2.2.2.2⟩
namespace IsL
def yN : MethodName := ⟨"java/lang/String", "isLatin1", "()Z"⟩
abbrev yB : ByteArray := jdk_42_method_154_code
theorem d0 : decode yB 0 = .ok (.getstatic 38, 3) := by decide +kernel
theorem d3 : decode yB 3 = .ok (.ifCond (.eq) 14, 3) := by decide +kernel
theorem d6 : decode yB 6 = .ok (.aload_n 0, 1) := by decide +kernel
theorem d7 : decode yB 7 = .ok (.getfield 15, 3) := by decide +kernel
theorem d10 : decode yB 10 = .ok (.ifCond (.ne) 7, 3) := by decide +kernel
theorem d13 : decode yB 13 = .ok (.iconst 1, 1) := by decide +kernel
theorem d14 : decode yB 14 = .ok (.goto 4, 3) := by decide +kernel
theorem d17 : decode yB 17 = .ok (.iconst 0, 1) := by decide +kernel
theorem d18 : decode yB 18 = .ok (.ireturn, 1) := by decide +kernel
def site : List Cond := [.fieldLink "java/lang/String" 38 "java/lang/String" "COMPACT_STRINGS" "Z", .fieldLink "java/lang/String" 15 "java/lang/String" "coder" "B"]
def tab : Cond := tabOf yN yB 1 (some .boolean) site
def P (x : Addr) (cd z : Int32) (args : Array Value) (s : State) : Prop := args = #[.ref x] ∧ Has x "java/lang/String" "coder" "B" (.int cd) s ∧ (cd = 0 ∨ cd = 1) ∧ StaticIs s "java/lang/String" "COMPACT_STRINGS" "Z" (.int z) ∧ ¬ z = 0
def E (cd : Int32) (r : Option Value) (s u : State) : Prop := XT.PureE (some (.int (1 - cd))) r s u
theorem law (l : Launch) (x : Addr) (cd z : Int32) : Law l yN 1 0 0 0 yB 1 (some .boolean) site (P x cd z) (E cd) [] 0 0 := by
  refine Law.of_walk (plainFor_of_name (by decide +kernel)) (by decide +kernel) (by decide +kernel) (by decide) (fun _ _ h => by rw [h.1]; rfl) (fun _ U U' hal hh h => ⟨h.1, h.2.1.mv hal hh, h.2.2.1, h.2.2.2.1.there hal hh, h.2.2.2.2⟩) (fun r U U' V V' h1 hal h2 h => XT.PureE.mv r U U' V V' h1 hal h2 h) ?_
  intro p e s m args below meth c s₁ X0 hexec hbytes hml hret hlk hnm hown hh0 W hP
  obtain ⟨rfl, hx, hc, s1, hz⟩ := hP
  have c1 : Steps p.tables e below (s₁.setTop (entryFrame m #[.ref x] 1)) (s₁.setTop (mkF m 0 #[.val (.ref x)] [])) := entry rfl
  obtain ⟨T2, X2, q2, st2⟩ := X0.sget hexec hown (wk W (.fieldLink "java/lang/String" 38 "java/lang/String" "COMPACT_STRINGS" "Z")) s1 (fun _ _ h => by rw [hh0]; exact h) (g := (mkF m 0 #[.val (.ref x)] [])) rfl (hb hbytes d0)
  have hh2 := q2.trans hh0
  have c3 : Steps p.tables e below (s₁.setTop (entryFrame m #[.ref x] 1)) (T2.setTop (mkF m 7 #[.val (.ref x)] [.ref x])) := (c1.trans (st2 _ (Steps.refl _))).trans (by
    refine XS.ifNo X2.here hexec rfl (hb hbytes d3) rfl (i0_eq_f hz) ?_
    refine XS.aloadN X2.here hexec rfl (hb hbytes d6) rfl rfl ?_
    exact Steps.refl _)
  obtain ⟨T4, X4, q4, st4⟩ := X2.hget hexec hown (wk W (.fieldLink "java/lang/String" 15 "java/lang/String" "coder" "B")) (hx.mv X2.warmed.alike hh2) (g := (mkF m 7 #[.val (.ref x)] [.ref x])) rfl (rest := []) rfl (hb hbytes d7)
  have c5 : Steps p.tables e below (s₁.setTop (entryFrame m #[.ref x] 1)) (T4.setTop (mkF m 10 #[.val (.ref x)] [.int cd])) := c3.trans (st4 _ (Steps.refl _))
  have c6 : Steps p.tables e below (s₁.setTop (entryFrame m #[.ref x] 1)) (T4.setTop (mkF m 18 #[.val (.ref x)] [.int (1 - cd)])) := by
    rcases hc with rfl | rfl
    · exact c5.trans (by
        refine XS.ifNo X4.here hexec rfl (hb hbytes d10) rfl (i0_ne_f rfl) ?_
        refine iconstV X4.here hexec rfl 1 (hb hbytes d13) (by decide) ?_
        refine XS.goto X4.here hexec rfl (pc0 := 14) rfl (hb hbytes d14) (by decide) rfl ?_
        exact Steps.refl _)
    · exact c5.trans (by
        refine XS.ifYes X4.here hexec rfl (pc0 := 10) rfl (hb hbytes d10) rfl (i0_ne_t (by decide)) (by decide) rfl ?_
        refine iconstV X4.here hexec rfl 0 (hb hbytes d17) (by decide) ?_
        exact Steps.refl _)
  exact ⟨T4, some (.int (1 - cd)), _, _, _, X4, rfl, rfl, rfl, (fun h => by cases h), ⟨rfl, q4.trans hh2⟩, fun fs hl => c6.trans (X4.ireturnOut hexec hret (by rcases hc with rfl | rfl <;> rfl) (Or.inr (Or.inl rfl)) (hb hbytes d18) hl)⟩
end IsL
namespace LChA
def yN : MethodName := ⟨"java/lang/StringLatin1", "charAt", "([BI)C"⟩
abbrev yB : ByteArray := jdk_43_method_2_code
theorem d0 : decode yB 0 = .ok (.iload_n 1, 1) := by decide +kernel
theorem d1 : decode yB 1 = .ok (.aload_n 0, 1) := by decide +kernel
theorem d2 : decode yB 2 = .ok (.arraylength, 1) := by decide +kernel
theorem d3 : decode yB 3 = .ok (.invokestatic 9, 3) := by decide +kernel
theorem d6 : decode yB 6 = .ok (.aload_n 0, 1) := by decide +kernel
theorem d7 : decode yB 7 = .ok (.iload_n 1, 1) := by decide +kernel
theorem d8 : decode yB 8 = .ok (.baload, 1) := by decide +kernel
theorem d9 : decode yB 9 = .ok (.sipush 255, 3) := by decide +kernel
theorem d12 : decode yB 12 = .ok (.iand, 1) := by decide +kernel
theorem d13 : decode yB 13 = .ok (.i2c, 1) := by decide +kernel
theorem d14 : decode yB 14 = .ok (.ireturn, 1) := by decide +kernel
def site : List Cond := [JO.Str_checkIndex.tab] ++ staticW "java/lang/StringLatin1" 9 JO.Str_checkIndex.yN
def tab : Cond := tabOf yN yB 2 (some .char) site
def P (t : Addr) (V : Cell) (i : Nat) (u : Int32) (fm : Value) (args : Array Value) (s : State) : Prop := args = #[.ref t, .int (Int32.ofNat i)] ∧ XT.Arr .byte t V s ∧ V.slots[i]? = some (.int u) ∧ (StaticIs s "jdk/internal/util/Preconditions" "SIOOBE_FORMATTER" "Ljava/util/function/BiFunction;" fm ∧ fm.isRef = true)
def E (u : Int32) (r : Option Value) (s w : State) : Prop := XT.PureE (some (.int (chr8 u))) r s w
theorem law (l : Launch) (t : Addr) (V : Cell) (i : Nat) (u : Int32) (fm : Value) : Law l yN 2 2 2 27 yB 2 (some .char) site (P t V i u fm) (E u) [] 0 0 := by
  refine Law.of_walk (plainFor_of_name (by decide +kernel)) (by decide +kernel) (by decide +kernel) (by decide) (fun _ _ h => by rw [h.1]; rfl) (fun _ U U' hal hh h => ⟨h.1, h.2.1.mv hal hh, h.2.2.1, h.2.2.2.1.there hal hh, h.2.2.2.2⟩) (fun r U U' V V' h1 hal h2 h => XT.PureE.mv r U U' V V' h1 hal h2 h) ?_
  intro p e s m args below meth c s₁ X0 hexec hbytes hml hret hlk hnm hown hh0 W hP
  obtain ⟨rfl, hV, hu, s1, rf⟩ := hP
  have v31 := hV.2.2.2
  have hi : i < V.slots.size := (Array.getElem?_eq_some_iff.mp hu).1
  have c1 : Steps p.tables e below (s₁.setTop (entryFrame m #[.ref t, .int (Int32.ofNat i)] 2)) (s₁.setTop (mkF m 0 #[.val (.ref t), .val (.int (Int32.ofNat i))] [])) := entry rfl
  have c2 : Steps p.tables e below (s₁.setTop (entryFrame m #[.ref t, .int (Int32.ofNat i)] 2)) (s₁.setTop (mkF m 3 #[.val (.ref t), .val (.int (Int32.ofNat i))] [.int (Int32.ofNat V.slots.size), .int (Int32.ofNat i)])) := c1.trans (by
    refine XS.iloadN X0.here hexec rfl (hb hbytes d0) rfl ?_
    refine XS.aloadN X0.here hexec rfl (hb hbytes d1) rfl rfl ?_
    refine X0.alen hexec (hV.mv X0.warmed.alike hh0) rfl rfl (hb hbytes d2) ?_
    exact Steps.refl _)
  obtain ⟨v3, T3, X3, E3, g3⟩ := X0.callS hexec (JO.Str_checkIndex.law l (Int32.ofNat i) (Int32.ofNat V.slots.size) fm) hown (wks W (staticW "java/lang/StringLatin1" 9 JO.Str_checkIndex.yN)) (wk W JO.Str_checkIndex.tab) (W := 0) (Nat.le_of_ble_eq_true rfl) (Nat.le_of_ble_eq_true rfl) (Nat.le_refl _) (Nat.le_refl _) (g := (mkF m 3 #[.val (.ref t), .val (.int (Int32.ofNat i))] [.int (Int32.ofNat V.slots.size), .int (Int32.ofNat i)])) rfl (by rw [hml]; rfl) c2 (argsL := [.int (Int32.ofNat i), .int (Int32.ofNat V.slots.size)]) (rest := []) rfl rfl (by show 2 * 0 + 0 ≤ _; decide) (hb hbytes d3) (⟨rfl, rf, s1.there X0.warmed.alike hh0, Int32.ofNat_not_neg (by omega), lt32 v31 hi⟩)
  obtain ⟨rfl, q3⟩ := E3
  have hh3 := q3.trans hh0
  have c4 : Steps p.tables e below (s₁.setTop (entryFrame m #[.ref t, .int (Int32.ofNat i)] 2)) (T3.setTop (mkF m 14 #[.val (.ref t), .val (.int (Int32.ofNat i))] [.int (chr8 u)])) := Steps.trans g3 (by
    refine XS.aloadN X3.here hexec rfl (hb hbytes d6) rfl rfl ?_
    refine XS.iloadN X3.here hexec rfl (hb hbytes d7) rfl ?_
    refine X3.aget hexec (hV.mv X3.warmed.alike hh3) rfl hu rfl rfl (hb hbytes d8) ?_
    refine sipushV X3.here hexec rfl 255 (hb hbytes d9) (by decide) ?_
    refine XS.iand X3.here hexec rfl (hb hbytes d12) rfl ?_
    refine i2c X3.here hexec rfl (hb hbytes d13) rfl ?_
    exact Steps.refl _)
  exact ⟨T3, some (.int (chr8 u)), _, _, _, X3, rfl, rfl, rfl, (fun h => by cases h), ⟨rfl, hh3⟩, fun fs hl => c4.trans (X3.ireturnOut hexec hret (narrow_c _) (Or.inr (Or.inr (Or.inr (Or.inl rfl)))) (hb hbytes d14) hl)⟩
end LChA
end StrChars
namespace StrChars.Road
open Jvm Sem ClassFile Op Lib Jvm.Stand Jvm.Free Jvm.Free.XT
open Jvm.Lib.Cold (StaticIs)
theorem consq {a : Array Value} {s : State} {c : Jvm.Cond} {L : List Jvm.Cond} (h0 : c.before a s = true) (h : ∀ w ∈ L, w.before a s = true) : ∀ w ∈ c :: L, w.before a s = true := fun w hw => (List.mem_cons.mp hw).elim (fun e => e ▸ h0) (h w)
/-- the bytes of the chars cs, low before high -/
def wideBytes : List Int32 → List Value
  | [] => []
  | c :: cs => .int (lo8 c) :: .int (hi8 c) :: wideBytes cs
theorem wide_lo (d : Value) : ∀ (cs : List Int32) (j : Nat), j < cs.length → (wideBytes cs).getD (2 * j) d = .int (lo8 (cs.getD j 0))
  | [], j, h => absurd h (Nat.not_lt_zero j)
  | c :: cs, 0, _ => rfl
  | c :: cs, j + 1, h => by
    have q := wide_lo d cs j (by simpa using h)
    rw [show 2 * (j + 1) = 2 * j + 1 + 1 from by omega]
    simpa [wideBytes] using q
theorem wide_hi (d : Value) : ∀ (cs : List Int32) (j : Nat), j < cs.length → (wideBytes cs).getD (2 * j + 1) d = .int (hi8 (cs.getD j 0))
  | [], j, h => absurd h (Nat.not_lt_zero j)
  | c :: cs, 0, _ => rfl
  | c :: cs, j + 1, h => by
    have q := wide_hi d cs j (by simpa using h)
    rw [show 2 * (j + 1) + 1 = 2 * j + 1 + 1 + 1 from by omega]
    simpa [wideBytes] using q
theorem low_at (d : Value) (cs : List Int32) (j : Nat) (h : j < cs.length) : (cs.map fun c => Value.int (lo8 c)).getD j d = .int (lo8 (cs.getD j 0)) := by
  simp [List.getD_eq_getElem?_getD, h]
/-- an array of N2 bytes vs codes the chars cs by the coder cd -/
def CodA (cs : List Int32) (cd N2 : Int32) (vs : List Value) : Prop := (cd = 0 ∧ N2 = Int32.ofNat cs.length ∧ vs = (cs.map fun c => Value.int (lo8 c)) ∧ ∀ c ∈ cs, ¬ 255 < c) ∨ (cd = 1 ∧ N2 = Int32.ofNat (2 * cs.length) ∧ vs = wideBytes cs ∧ ∃ c ∈ cs, 255 < c)
theorem CodA.cod {cs : List Int32} {cd N2 : Int32} {vs : List Value} {V : Cell} (h : CodA cs cd N2 vs) (hn : 2 * cs.length < 2 ^ 31) (hs : V.slots.size = N2.toNatClampNeg) (hv : RoadKit.Has V vs (.int 0)) : Cod cd cs.length (fun j => cs.getD j 0) V := by
  rcases h with ⟨rfl, rfl, rfl, h⟩ | ⟨rfl, rfl, rfl, c, hc, hw⟩
  · rw [n32 (by omega)] at hs
    exact Or.inl ⟨rfl, hs, fun j hj => ⟨by rw [hv j (by omega), low_at _ _ _ hj], by
      have e : cs.getD j 0 = cs[j] := by simp [List.getD_eq_getElem?_getD, hj]
      show ¬ 255 < cs.getD j 0
      rw [e]; exact h _ (List.getElem_mem _)⟩⟩
  · rw [n32 (by omega)] at hs
    obtain ⟨j, hj, rfl⟩ := List.getElem_of_mem hc
    exact Or.inr ⟨rfl, hs, fun j hj => ⟨by rw [hv _ (by omega), wide_lo _ _ _ hj], by rw [hv _ (by omega), wide_hi _ _ _ hj]⟩, j, hj, by
      have e : cs.getD j 0 = cs[j] := by simp [List.getD_eq_getElem?_getD, hj]
      show 255 < cs.getD j 0
      rw [e]; exact hw⟩
/-- an object of exactly java/lang/String, its two fields found: as the laws ask it -/
theorem strObj {Z U : State} {a0 : Array Value} {kI : Nat} (wi : (Jvm.Cond.instantiable ST kI).before a0 Z = true) (al : Z.vm.Alike U.vm) {x : Addr} {v0 c0 : Value} (E : RoadKit.Exa Z U.heap x ST) (V : RoadKit.Fld Z U.heap x ST "value" "[B" v0) (C : RoadKit.Fld Z U.heap x ST "coder" "B" c0) :
    ∃ (D : Cell) (fV fC : Field), Blank ST x D U ∧ Found ST "value" "[B" fV U ∧ Found ST "coder" "B" fC U ∧ D.slots[fV.slot]? = some v0 ∧ D.slots[fC.slot]? = some c0 ∧ RoadKit.slotOf Z ST "value" "[B" = fV.slot ∧ RoadKit.slotOf Z ST "coder" "B" = fC.slot := by
  obtain ⟨D, cfV, kV, iV, fV, hD, gV, stV, knV, obV, asV, slV⟩ := V
  obtain ⟨D', cfC, kC, iC, fC, hD', gC, stC, -, -, asC, slC⟩ := C
  cases hD.symm.trans hD'
  obtain ⟨D2, kD, e1, e2, e3, e4, e5⟩ := E
  cases hD.symm.trans e1
  obtain ⟨c2, k2, i1, i2, i3, -⟩ := Cond.instantiable_spec wi
  cases e2.symm.trans i1
  cases e3.symm.trans i2
  obtain ⟨kU, u1, u2⟩ := al.2.2 _ _ e3
  exact ⟨D, fV, fC, ⟨hD, ⟨knV, fun q hq => by rw [hq] at obV; cases obV⟩, by rw [al.findClass]; exact e2, kU, u1, by rw [u2]; exact i3, by rw [u2]; exact e5 i3⟩, ⟨SBG.found_only al ⟨cfV, kV, iV, gV⟩, stV⟩, ⟨SBG.found_only al ⟨cfC, kC, iC, gC⟩, stC⟩, slV, slC, by simp [RoadKit.slotOf, gV], by simp [RoadKit.slotOf, gC]⟩
theorem sta_is {Z U : State} (al : Z.vm.Alike U.vm) {C n d : String} {v : Value} (S : RoadKit.Sta Z U.heap C n d v) : StaticIs U C n d v := by
  obtain ⟨cfS, iS, kS, fS, st, cS, t1, t2, t3, t4, t5, t6, t7⟩ := S
  exact StaticIs.there (s := { Z with heap := U.heap }) ⟨cfS, iS, kS, fS, st, cS, t1, t2, t3, t4, t5, (fun q => by rw [q] at t6; cases t6), t7⟩ al rfl
end StrChars.Road
namespace StrChars
open Jvm Sem ClassFile Op Lib Jvm.Stand Jvm.Free.XT Jvm.Free.ALB Jvm.Free.JM Jvm.Free
open Jvm.Lib.Cold (StaticIs)
/-- what place i of a byte[]'s cell holds -/
def yv (A : Cell) (i : Nat) : Int32 := match A.slots[i]? with | some (.int x) => x | _ => 0
theorem yv_get {a : Addr} {A : Cell} {U : State} (h : XT.Arr .byte a A U) (ht : Typed .byte A) {i : Nat} (hi : i < A.slots.size) : A.slots[i]? = some (.int (yv A i)) := by
  have e := Array.getElem?_eq_getElem hi
  have f := ht i _ e
  unfold yv; rw [e]
  generalize A.slots[i] = v at f
  cases v <;> simp [fits] at f ⊢
/-- the two arrays are equal, place for place -/
def EqC (A B : Cell) : Prop := A.slots.size = B.slots.size ∧ ∀ i, i < A.slots.size → yv A i = yv B i
/-- a boolean that says whether p -/
def Says01 (q : Prop) (r : Option Value) (s u : State) : Prop := ∃ v : Int32, r = some (.int v) ∧ u.heap = s.heap ∧ ((v = 1 ∧ q) ∨ (v = 0 ∧ ¬ q))
theorem Says01.mv {q : Prop} : ∀ r (U U' V V' : State), U'.heap = U.heap → V.vm.Alike V'.vm → V'.heap = V.heap → Says01 q r U V → Says01 q r U' V' :=
  fun r U U' V V' h1 _ h2 ⟨v, a, b, c⟩ => ⟨v, a, by rw [h1, h2]; exact b, c⟩
namespace LEq
def yN : MethodName := ⟨"java/lang/StringLatin1", "equals", "([B[B)Z"⟩
abbrev yB : ByteArray := jdk_43_method_13_code
theorem d0 : decode yB 0 = .ok (.aload_n 0, 1) := by decide +kernel
theorem d1 : decode yB 1 = .ok (.arraylength, 1) := by decide +kernel
theorem d2 : decode yB 2 = .ok (.aload_n 1, 1) := by decide +kernel
theorem d3 : decode yB 3 = .ok (.arraylength, 1) := by decide +kernel
theorem d4 : decode yB 4 = .ok (.if_icmp (.ne) 30, 3) := by decide +kernel
theorem d7 : decode yB 7 = .ok (.iconst 0, 1) := by decide +kernel
theorem d8 : decode yB 8 = .ok (.istore_n 2, 1) := by decide +kernel
theorem d9 : decode yB 9 = .ok (.iload_n 2, 1) := by decide +kernel
theorem d10 : decode yB 10 = .ok (.aload_n 0, 1) := by decide +kernel
theorem d11 : decode yB 11 = .ok (.arraylength, 1) := by decide +kernel
theorem d12 : decode yB 12 = .ok (.if_icmp (.ge) 20, 3) := by decide +kernel
theorem d15 : decode yB 15 = .ok (.aload_n 0, 1) := by decide +kernel
theorem d16 : decode yB 16 = .ok (.iload_n 2, 1) := by decide +kernel
theorem d17 : decode yB 17 = .ok (.baload, 1) := by decide +kernel
theorem d18 : decode yB 18 = .ok (.aload_n 1, 1) := by decide +kernel
theorem d19 : decode yB 19 = .ok (.iload_n 2, 1) := by decide +kernel
theorem d20 : decode yB 20 = .ok (.baload, 1) := by decide +kernel
theorem d21 : decode yB 21 = .ok (.if_icmp (.eq) 5, 3) := by decide +kernel
theorem d24 : decode yB 24 = .ok (.iconst 0, 1) := by decide +kernel
theorem d25 : decode yB 25 = .ok (.ireturn, 1) := by decide +kernel
theorem d26 : decode yB 26 = .ok (.iinc 2 1, 3) := by decide +kernel
theorem d29 : decode yB 29 = .ok (.goto (-20), 3) := by decide +kernel
theorem d32 : decode yB 32 = .ok (.iconst 1, 1) := by decide +kernel
theorem d33 : decode yB 33 = .ok (.ireturn, 1) := by decide +kernel
theorem d34 : decode yB 34 = .ok (.iconst 0, 1) := by decide +kernel
theorem d35 : decode yB 35 = .ok (.ireturn, 1) := by decide +kernel
def site : List Cond := []
def tab : Cond := tabOf yN yB 3 (some .boolean) site
def P (a : Addr) (A : Cell) (b : Addr) (B : Cell) (args : Array Value) (s : State) : Prop := args = #[.ref a, .ref b] ∧ XT.Arr .byte a A s ∧ Typed .byte A ∧ XT.Arr .byte b B s ∧ Typed .byte B
/-- whether two byte[] are equal, place for place -/
theorem law (l : Launch) (a : Addr) (A : Cell) (b : Addr) (B : Cell) : Law l yN 2 2 0 0 yB 3 (some .boolean) site (P a A b B) (Says01 (EqC A B)) [] 0 0 := by
  refine Law.of_walk (plainFor_of_name (by decide +kernel)) (by decide +kernel) (by decide +kernel) (by decide) (fun _ _ h => by rw [h.1]; rfl) (fun _ U U' hal hh h => ⟨h.1, h.2.1.mv hal hh, h.2.2.1, h.2.2.2.1.mv hal hh, h.2.2.2.2⟩) (fun r U U' V V' h1 hal h2 h => Says01.mv r U U' V V' h1 hal h2 h) ?_
  intro p e s m args below meth c s₁ X0 hexec hbytes hml hret hlk hnm hown hh0 W hP
  obtain ⟨rfl, hA, tA, hB, tB⟩ := hP
  have a31 := hA.2.2.2
  have b31 := hB.2.2.2
  have hA0 := hA.mv X0.warmed.alike hh0
  have hB0 := hB.mv X0.warmed.alike hh0
  have c1 : Steps p.tables e below (s₁.setTop (entryFrame m #[.ref a, .ref b] 3)) (s₁.setTop (mkF m 0 #[.val (.ref a), .val (.ref b), .unset] [])) := entry rfl
  have c2 : Steps p.tables e below (s₁.setTop (entryFrame m #[.ref a, .ref b] 3)) (s₁.setTop (mkF m 4 #[.val (.ref a), .val (.ref b), .unset] [.int (Int32.ofNat B.slots.size), .int (Int32.ofNat A.slots.size)])) := c1.trans (by
    refine XS.aloadN X0.here hexec rfl (hb hbytes d0) rfl rfl ?_
    refine X0.alen hexec hA0 rfl rfl (hb hbytes d1) ?_
    refine XS.aloadN X0.here hexec rfl (hb hbytes d2) rfl rfl ?_
    refine X0.alen hexec hB0 rfl rfl (hb hbytes d3) ?_
    exact Steps.refl _)
  by_cases hs : A.slots.size = B.slots.size
  · have c3 : Steps p.tables e below (s₁.setTop (entryFrame m #[.ref a, .ref b] 3)) (s₁.setTop (mkF m 9 #[.val (.ref a), .val (.ref b), .val (.int 0)] [])) := c2.trans (by
      refine XS.icmpNo X0.here hexec rfl (hb hbytes d4) rfl (ii_ne_f (by rw [hs])) ?_
      refine iconstV X0.here hexec rfl 0 (hb hbytes d7) (by decide) ?_
      refine XS.istoreN X0.here hexec rfl (hb hbytes d8) rfl rfl ?_
      exact Steps.refl _)
    have loop : ∀ (r i : Nat), i + r = A.slots.size → (∀ j, j < i → yv A j = yv B j) → Steps p.tables e below (s₁.setTop (entryFrame m #[.ref a, .ref b] 3)) (s₁.setTop (mkF m 9 #[.val (.ref a), .val (.ref b), .val (.int (Int32.ofNat i))] [])) → ∃ (pc : Nat) (Ls : Array Slot) (v : Int32), (pc = 25 ∨ pc = 33) ∧ ((v = 1 ∧ EqC A B) ∨ (v = 0 ∧ ¬ EqC A B)) ∧ Steps p.tables e below (s₁.setTop (entryFrame m #[.ref a, .ref b] 3)) (s₁.setTop (mkF m pc Ls [.int v])) := by
      intro r
      induction r with
      | zero =>
        intro i hi he cl
        exact ⟨33, _, 1, Or.inr rfl, Or.inl ⟨rfl, hs, fun j hj => he j (by omega)⟩, cl.trans (by
          refine XS.iloadN X0.here hexec rfl (hb hbytes d9) rfl ?_
          refine XS.aloadN X0.here hexec rfl (hb hbytes d10) rfl rfl ?_
          refine X0.alen hexec hA0 rfl rfl (hb hbytes d11) ?_
          refine XS.icmpYes X0.here hexec rfl (pc0 := 12) rfl (hb hbytes d12) rfl (ii_ge_t (nlt32 (by omega) (by omega))) (by decide) rfl ?_
          refine iconstV X0.here hexec rfl 1 (hb hbytes d32) (by decide) ?_
          exact Steps.refl _)⟩
      | succ r ih =>
        intro i hi he cl
        have c4 : Steps p.tables e below (s₁.setTop (entryFrame m #[.ref a, .ref b] 3)) (s₁.setTop (mkF m 21 #[.val (.ref a), .val (.ref b), .val (.int (Int32.ofNat i))] [.int (yv B i), .int (yv A i)])) := cl.trans (by
          refine XS.iloadN X0.here hexec rfl (hb hbytes d9) rfl ?_
          refine XS.aloadN X0.here hexec rfl (hb hbytes d10) rfl rfl ?_
          refine X0.alen hexec hA0 rfl rfl (hb hbytes d11) ?_
          refine XS.icmpNo X0.here hexec rfl (hb hbytes d12) rfl (ii_ge_f (lt32 (by omega) (by omega))) ?_
          refine XS.aloadN X0.here hexec rfl (hb hbytes d15) rfl rfl ?_
          refine XS.iloadN X0.here hexec rfl (hb hbytes d16) rfl ?_
          refine X0.aget hexec hA0 rfl (yv_get hA tA (i := i) (by omega)) rfl rfl (hb hbytes d17) ?_
          refine XS.aloadN X0.here hexec rfl (hb hbytes d18) rfl rfl ?_
          refine XS.iloadN X0.here hexec rfl (hb hbytes d19) rfl ?_
          refine X0.aget hexec hB0 rfl (yv_get hB tB (i := i) (by omega)) rfl rfl (hb hbytes d20) ?_
          exact Steps.refl _)
        by_cases hv : yv A i = yv B i
        · have c5 : Steps p.tables e below (s₁.setTop (entryFrame m #[.ref a, .ref b] 3)) (s₁.setTop (mkF m 9 #[.val (.ref a), .val (.ref b), .val (.int (Int32.ofNat i + 1))] [])) := c4.trans (by
            refine XS.icmpYes X0.here hexec rfl (pc0 := 21) rfl (hb hbytes d21) rfl (ii_eq_t hv) (by decide) rfl ?_
            refine iincV X0.here hexec rfl 1 (hb hbytes d26) (by decide) rfl rfl ?_
            refine XS.goto X0.here hexec rfl (pc0 := 29) rfl (hb hbytes d29) (by decide) rfl ?_
            exact Steps.refl _)
          rw [succ32] at c5
          exact ih (i + 1) (by omega) (fun j hj => by
            by_cases e : j = i
            · rw [e]; exact hv
            · exact he j (by omega)) c5
        · exact ⟨25, _, 0, Or.inl rfl, Or.inr ⟨rfl, fun q => hv (q.2 i (by omega))⟩, c4.trans (by
            refine XS.icmpNo X0.here hexec rfl (hb hbytes d21) rfl (ii_eq_f hv) ?_
            refine iconstV X0.here hexec rfl 0 (hb hbytes d24) (by decide) ?_
            exact Steps.refl _)⟩
    obtain ⟨pc, Ls, v, hpc, hv, cz⟩ := loop A.slots.size 0 (by omega) (fun j hj => absurd hj (Nat.not_lt_zero j)) c3
    have nv : narrow .boolean (.int v) = .int v := by rcases hv with ⟨rfl, -⟩ | ⟨rfl, -⟩ <;> rfl
    rcases hpc with rfl | rfl
    · exact ⟨s₁, some (.int v), _, _, _, X0, rfl, rfl, rfl, (fun h => by cases h), ⟨v, rfl, hh0, hv⟩, fun fs hl => cz.trans (X0.ireturnOut hexec hret nv (Or.inr (Or.inl rfl)) (hb hbytes d25) hl)⟩
    · exact ⟨s₁, some (.int v), _, _, _, X0, rfl, rfl, rfl, (fun h => by cases h), ⟨v, rfl, hh0, hv⟩, fun fs hl => cz.trans (X0.ireturnOut hexec hret nv (Or.inr (Or.inl rfl)) (hb hbytes d33) hl)⟩
  · have c3 : Steps p.tables e below (s₁.setTop (entryFrame m #[.ref a, .ref b] 3)) (s₁.setTop (mkF m 35 #[.val (.ref a), .val (.ref b), .unset] [.int 0])) := c2.trans (by
      refine XS.icmpYes X0.here hexec rfl (pc0 := 4) rfl (hb hbytes d4) rfl (ii_ne_t (ne32 a31 b31 hs)) (by decide) rfl ?_
      refine iconstV X0.here hexec rfl 0 (hb hbytes d34) (by decide) ?_
      exact Steps.refl _)
    exact ⟨s₁, some (.int 0), _, _, _, X0, rfl, rfl, rfl, (fun h => by cases h), ⟨0, rfl, hh0, Or.inr ⟨rfl, fun q => hs q.1⟩⟩, fun fs hl => c3.trans (X0.ireturnOut hexec hret rfl (Or.inr (Or.inl rfl)) (hb hbytes d35) hl)⟩
end LEq
theorem Cod.ty {cd : Int32} {n : Nat} {f : Nat → Int32} {V : Cell} (h : Cod cd n f V) : Typed .byte V := fun i v hv => by
  have hi : i < V.slots.size := (Array.getElem?_eq_some_iff.mp hv).1
  rcases h with ⟨-, k1, k2⟩ | ⟨-, k1, k2, -⟩
  · rw [(k2 i (by omega)).1] at hv; cases hv; exact fits_lo8 _
  · rcases Nat.mod_two_eq_zero_or_one i with e | e
    · obtain ⟨j, rfl⟩ : ∃ j, i = 2 * j := ⟨i / 2, by omega⟩
      rw [(k2 j (by omega)).1] at hv; cases hv; exact fits_lo8 _
    · obtain ⟨j, rfl⟩ : ∃ j, i = 2 * j + 1 := ⟨i / 2, by omega⟩
      rw [(k2 j (by omega)).2] at hv; cases hv; exact fits_lo8 _
/-- the same text -/
def SameT (n : Nat) (f : Nat → Int32) (k : Nat) (g : Nat → Int32) : Prop := n = k ∧ ∀ j, j < n → f j = g j
theorem lo8_inj {x y : Int32} (h0 : ¬ x < 0) (h1 : ¬ 255 < x) (k0 : ¬ y < 0) (k1 : ¬ 255 < y) (h : lo8 x = lo8 y) : x = y := by
  rw [← lo8_mask h0 h1, ← lo8_mask k0 k1, h]
/-- arrays coded by one coder are equal just where the texts are -/
theorem Cod.eqv {cd : Int32} {n k : Nat} {f g : Nat → Int32} {V V' : Cell} (h : Cod cd n f V) (h' : Cod cd k g V') (hf : ∀ j, j < n → ¬ f j < 0 ∧ ¬ 65535 < f j) (hg : ∀ j, j < k → ¬ g j < 0 ∧ ¬ 65535 < g j) : EqC V V' ↔ SameT n f k g := by
  have yvv : ∀ {W : Cell} {i : Nat} {x : Int32}, W.slots[i]? = some (.int x) → yv W i = x := fun q => by unfold yv; rw [q]
  rcases h with ⟨rfl, k1, k2⟩ | ⟨rfl, k1, k2, -⟩
  · rcases h' with ⟨-, m1, m2⟩ | ⟨e, -⟩
    · constructor
      · rintro ⟨e1, e2⟩
        refine ⟨by omega, fun j hj => ?_⟩
        have q := e2 j (by omega)
        rw [yvv (k2 j hj).1, yvv (m2 j (by omega)).1] at q
        exact lo8_inj (hf j hj).1 (k2 j hj).2 (hg j (by omega)).1 (m2 j (by omega)).2 q
      · rintro ⟨rfl, e2⟩
        refine ⟨by omega, fun j hj => ?_⟩
        rw [yvv (k2 j (by omega)).1, yvv (m2 j (by omega)).1, e2 j (by omega)]
    · exact absurd e (by decide)
  · rcases h' with ⟨e, -⟩ | ⟨-, m1, m2, -⟩
    · exact absurd e (by decide)
    · constructor
      · rintro ⟨e1, e2⟩
        refine ⟨by omega, fun j hj => ?_⟩
        have q1 := e2 (2 * j) (by omega)
        have q2 := e2 (2 * j + 1) (by omega)
        rw [yvv (k2 j hj).1, yvv (m2 j (by omega)).1] at q1
        rw [yvv (k2 j hj).2, yvv (m2 j (by omega)).2] at q2
        rw [← pair_says (hf j hj).1 (hf j hj).2, ← pair_says (hg j (by omega)).1 (hg j (by omega)).2, q1, q2]
      · rintro ⟨rfl, e2⟩
        refine ⟨by omega, fun i hi => ?_⟩
        rcases Nat.mod_two_eq_zero_or_one i with e | e
        · obtain ⟨j, rfl⟩ : ∃ j, i = 2 * j := ⟨i / 2, by omega⟩
          rw [yvv (k2 j (by omega)).1, yvv (m2 j (by omega)).1, e2 j (by omega)]
        · obtain ⟨j, rfl⟩ : ∃ j, i = 2 * j + 1 := ⟨i / 2, by omega⟩
          rw [yvv (k2 j (by omega)).2, yvv (m2 j (by omega)).2, e2 j (by omega)]
/-- two codings differ: so do the texts -/
theorem Cod.dif {cd cd' : Int32} {n k : Nat} {f g : Nat → Int32} {V V' : Cell} (h : Cod cd n f V) (h' : Cod cd' k g V') (hne : ¬ cd = cd') : ¬ SameT n f k g := by
  rintro ⟨rfl, e⟩
  rcases h with ⟨rfl, -, k2⟩ | ⟨rfl, -, -, j, hj, hw⟩
  · rcases h' with ⟨rfl, -⟩ | ⟨-, -, -, j, hj, hw⟩
    · exact hne rfl
    · exact (k2 j hj).2 (by rw [e j hj]; exact hw)
  · rcases h' with ⟨-, -, m2⟩ | ⟨rfl, -⟩
    · exact (m2 j hj).2 (by rw [← e j hj]; exact hw)
    · exact hne rfl
/-- an object of exactly C is an instance of C -/
theorem cinst {p : Program} {l : Launch} {e : Env} {R : Room} {s : State} {m : MethodId} {args : Array Value} {below : List Frame} {meth : Method} {c : Code} {T : State} {locs : List Loc} {cells slots : Nat} (X : Stand p l e R s m args below meth c T locs cells slots) (hexec : p.tables.exec = Jvm.exec) {own C : String} {index : Nat} (hown : s.vm.findClass own = some m.cls) (hlink : (Cond.classLink own index C).before args s = true) {a : Addr} (hE : Exact C a T)
    {g : JFrame} (hg : g.method = m) {rest : List Value} (hstack : g.stack = .ref a :: rest) (hdg : decode c.code g.pc = .ok (.instanceof index, 3)) :
    ∃ T', Stand p l e R s m args below meth c T' locs cells slots ∧ T'.heap = T.heap ∧ ∀ target, Steps p.tables e below (T'.setTop { g with pc := g.pc + 3, stack := .int 1 :: rest }) target → Steps p.tables e below (T.setTop g) target := by
  obtain ⟨cB, h1, D, h2, h3, h4⟩ := hE
  have h1' : s.vm.findClass C = some cB := by rw [← X.warmed.alike.findClass]; exact h1
  obtain ⟨vm', X', st⟩ := X.instanceofYes hexec hown hlink h2 h4 h1' (by rw [h3]; exact Jvm.Free.SB.assignable_self _ _) hg hstack hdg
  exact ⟨_, X', rfl, st⟩
theorem cself {p : Program} {l : Launch} {e : Env} {R : Room} {s : State} {m : MethodId} {args : Array Value} {below : List Frame} {meth : Method} {c : Code} {T : State} {locs : List Loc} {cells slots : Nat} (X : Stand p l e R s m args below meth c T locs cells slots) (hexec : p.tables.exec = Jvm.exec) {own C : String} {index : Nat} (hown : s.vm.findClass own = some m.cls) (hlink : (Cond.classLink own index C).before args s = true) {a : Addr} (hE : Exact C a T)
    {g : JFrame} (hg : g.method = m) {rest : List Value} (hstack : g.stack = .ref a :: rest) (hdg : decode c.code g.pc = .ok (.checkcast index, 3)) :
    ∃ T', Stand p l e R s m args below meth c T' locs cells slots ∧ T'.heap = T.heap ∧ ∀ target, Steps p.tables e below (T'.setTop { g with pc := g.pc + 3, stack := .ref a :: rest }) target → Steps p.tables e below (T.setTop g) target := by
  obtain ⟨cB, h1, D, h2, h3, h4⟩ := hE
  have h1' : s.vm.findClass C = some cB := by rw [← X.warmed.alike.findClass]; exact h1
  obtain ⟨vm', X', st⟩ := X.checkcastYes hexec hown hlink h2 h4 h1' (by rw [h3]; exact Jvm.Free.SB.assignable_self _ _) hg hstack hdg
  exact ⟨_, X', rfl, fun t h => st t (by rw [← hstack] at h; exact h)⟩
namespace SEq
def yN : MethodName := ⟨"java/lang/String", "equals", "(Ljava/lang/Object;)Z"⟩
abbrev yB : ByteArray := jdk_42_method_66_code
theorem d0 : decode yB 0 = .ok (.aload_n 0, 1) := by decide +kernel
theorem d1 : decode yB 1 = .ok (.aload_n 1, 1) := by decide +kernel
theorem d2 : decode yB 2 = .ok (.if_acmp (.ne) 5, 3) := by decide +kernel
theorem d5 : decode yB 5 = .ok (.iconst 1, 1) := by decide +kernel
theorem d6 : decode yB 6 = .ok (.ireturn, 1) := by decide +kernel
theorem d7 : decode yB 7 = .ok (.aload_n 1, 1) := by decide +kernel
theorem d8 : decode yB 8 = .ok (.instanceof 10, 3) := by decide +kernel
theorem d11 : decode yB 11 = .ok (.ifCond (.eq) 43, 3) := by decide +kernel
theorem d14 : decode yB 14 = .ok (.aload_n 1, 1) := by decide +kernel
theorem d15 : decode yB 15 = .ok (.checkcast 10, 3) := by decide +kernel
theorem d18 : decode yB 18 = .ok (.astore_n 2, 1) := by decide +kernel
theorem d19 : decode yB 19 = .ok (.getstatic 38, 3) := by decide +kernel
theorem d22 : decode yB 22 = .ok (.ifCond (.eq) 14, 3) := by decide +kernel
theorem d25 : decode yB 25 = .ok (.aload_n 0, 1) := by decide +kernel
theorem d26 : decode yB 26 = .ok (.getfield 15, 3) := by decide +kernel
theorem d29 : decode yB 29 = .ok (.aload_n 2, 1) := by decide +kernel
theorem d30 : decode yB 30 = .ok (.getfield 15, 3) := by decide +kernel
theorem d33 : decode yB 33 = .ok (.if_icmp (.ne) 21, 3) := by decide +kernel
theorem d36 : decode yB 36 = .ok (.aload_n 0, 1) := by decide +kernel
theorem d37 : decode yB 37 = .ok (.getfield 9, 3) := by decide +kernel
theorem d40 : decode yB 40 = .ok (.aload_n 2, 1) := by decide +kernel
theorem d41 : decode yB 41 = .ok (.getfield 9, 3) := by decide +kernel
theorem d44 : decode yB 44 = .ok (.invokestatic 541, 3) := by decide +kernel
theorem d47 : decode yB 47 = .ok (.ifCond (.eq) 7, 3) := by decide +kernel
theorem d50 : decode yB 50 = .ok (.iconst 1, 1) := by decide +kernel
theorem d51 : decode yB 51 = .ok (.goto 4, 3) := by decide +kernel
theorem d54 : decode yB 54 = .ok (.iconst 0, 1) := by decide +kernel
theorem d55 : decode yB 55 = .ok (.ireturn, 1) := by decide +kernel
def site : List Cond := [.classLink "java/lang/String" 10 "java/lang/String", .fieldLink "java/lang/String" 38 "java/lang/String" "COMPACT_STRINGS" "Z", .fieldLink "java/lang/String" 15 "java/lang/String" "coder" "B", .fieldLink "java/lang/String" 9 "java/lang/String" "value" "[B", LEq.tab] ++ staticW "java/lang/String" 541 LEq.yN
def tab : Cond := tabOf yN yB 3 (some .boolean) site
def P (x t : Addr) (V : Cell) (cd : Int32) (n : Nat) (f : Nat → Int32) (y t' : Addr) (V' : Cell) (cd' : Int32) (k : Nat) (g : Nat → Int32) (z : Int32) (args : Array Value) (s : State) : Prop := args = #[.ref x, .ref y] ∧ Txt x t V cd n f s ∧ Txt y t' V' cd' k g s ∧ StaticIs s "java/lang/String" "COMPACT_STRINGS" "Z" (.int z) ∧ ¬ z = 0
/-- equals(Object) of two Strings: whether the texts are the same -/
theorem law (l : Launch) (x t : Addr) (V : Cell) (cd : Int32) (n : Nat) (f : Nat → Int32) (y t' : Addr) (V' : Cell) (cd' : Int32) (k : Nat) (g : Nat → Int32) (z : Int32) : Law l yN 2 1 1 14 yB 3 (some .boolean) site (P x t V cd n f y t' V' cd' k g z) (Says01 (SameT n f k g)) [] 0 0 := by
  refine Law.of_walk (plainFor_of_name (by decide +kernel)) (by decide +kernel) (by decide +kernel) (by decide) (fun _ _ h => by rw [h.1]; rfl) (fun _ U U' hal hh h => ⟨h.1, h.2.1.mv hal hh, h.2.2.1.mv hal hh, h.2.2.2.1.there hal hh, h.2.2.2.2⟩) (fun r U U' V V' h1 hal h2 h => Says01.mv r U U' V V' h1 hal h2 h) ?_
  intro p e s m args below meth c s₁ X0 hexec hbytes hml hret hlk hnm hown hh0 W hP
  obtain ⟨rfl, hx, hy, s1, hz⟩ := hP
  have c1 : Steps p.tables e below (s₁.setTop (entryFrame m #[.ref x, .ref y] 3)) (s₁.setTop (mkF m 2 #[.val (.ref x), .val (.ref y), .unset] [.ref y, .ref x])) := Steps.trans (entry rfl) (by
    show Steps p.tables e below (s₁.setTop (mkF m 0 #[.val (.ref x), .val (.ref y), .unset] [])) _
    refine XS.aloadN X0.here hexec rfl (hb hbytes d0) rfl rfl ?_
    refine XS.aloadN X0.here hexec rfl (hb hbytes d1) rfl rfl ?_
    exact Steps.refl _)
  by_cases hxy : x = y
  · have c2 : Steps p.tables e below (s₁.setTop (entryFrame m #[.ref x, .ref y] 3)) (s₁.setTop (mkF m 6 #[.val (.ref x), .val (.ref y), .unset] [.int 1])) := c1.trans (by
      refine acmpNo X0.here hexec rfl (hb hbytes d2) rfl rfl rfl (by simp [acmp, hxy]) ?_
      refine iconstV X0.here hexec rfl 1 (hb hbytes d5) (by decide) ?_
      exact Steps.refl _)
    subst hxy
    have ec : cd = cd' := by
      obtain ⟨D, fd, a1, a2, a3⟩ := hx.2.2.1
      obtain ⟨D', fd', b1, b2, b3⟩ := hy.2.2.1
      cases a1.symm.trans b1
      obtain ⟨q1, q2, q3, q4⟩ := a2.1
      obtain ⟨r1, r2, r3, r4⟩ := b2.1
      cases q4.symm.trans r4
      cases a3.symm.trans b3; rfl
    have et : t = t' := by
      obtain ⟨D, fd, a1, a2, a3⟩ := hx.2.1
      obtain ⟨D', fd', b1, b2, b3⟩ := hy.2.1
      cases a1.symm.trans b1
      obtain ⟨q1, q2, q3, q4⟩ := a2.1
      obtain ⟨r1, r2, r3, r4⟩ := b2.1
      cases q4.symm.trans r4
      cases a3.symm.trans b3; rfl
    subst ec et
    have ev : V = V' := by cases hx.2.2.2.1.1.symm.trans hy.2.2.2.1.1; rfl
    subst ev
    have hs : SameT n f k g := (Cod.eqv hx.2.2.2.2.1 hy.2.2.2.2.1 hx.2.2.2.2.2 hy.2.2.2.2.2).mp ⟨rfl, fun _ _ => rfl⟩
    exact ⟨s₁, some (.int 1), _, _, _, X0, rfl, rfl, rfl, (fun h => by cases h), ⟨1, rfl, hh0, Or.inl ⟨rfl, hs⟩⟩, fun fs hl => c2.trans (X0.ireturnOut hexec hret rfl (Or.inr (Or.inl rfl)) (hb hbytes d6) hl)⟩
  · have c2 : Steps p.tables e below (s₁.setTop (entryFrame m #[.ref x, .ref y] 3)) (s₁.setTop (mkF m 8 #[.val (.ref x), .val (.ref y), .unset] [.ref y])) := c1.trans (by
      refine acmpYes X0.here hexec rfl (pc0 := 2) rfl (hb hbytes d2) rfl rfl rfl (by simp [acmp, hxy]) (by decide) rfl ?_
      refine XS.aloadN X0.here hexec rfl (hb hbytes d7) rfl rfl ?_
      exact Steps.refl _)
    obtain ⟨T3, X3, q3, st3⟩ := cinst X0 hexec hown (wk W (.classLink "java/lang/String" 10 "java/lang/String")) (hy.mv X0.warmed.alike hh0).1 (g := (mkF m 8 #[.val (.ref x), .val (.ref y), .unset] [.ref y])) rfl (rest := []) rfl (hb hbytes d8)
    have hh3 := q3.trans hh0
    have c4 : Steps p.tables e below (s₁.setTop (entryFrame m #[.ref x, .ref y] 3)) (T3.setTop (mkF m 15 #[.val (.ref x), .val (.ref y), .unset] [.ref y])) := (c2.trans (st3 _ (Steps.refl _))).trans (by
      refine XS.ifNo X3.here hexec rfl (hb hbytes d11) rfl (i0_eq_f (by decide)) ?_
      refine XS.aloadN X3.here hexec rfl (hb hbytes d14) rfl rfl ?_
      exact Steps.refl _)
    obtain ⟨T5, X5, q5, st5⟩ := cself X3 hexec hown (wk W (.classLink "java/lang/String" 10 "java/lang/String")) (hy.mv X3.warmed.alike hh3).1 (g := (mkF m 15 #[.val (.ref x), .val (.ref y), .unset] [.ref y])) rfl (rest := []) rfl (hb hbytes d15)
    have hh5 := q5.trans hh3
    have c6 : Steps p.tables e below (s₁.setTop (entryFrame m #[.ref x, .ref y] 3)) (T5.setTop (mkF m 19 #[.val (.ref x), .val (.ref y), .val (.ref y)] [])) := (c4.trans (st5 _ (Steps.refl _))).trans (by
      refine XS.astoreN X5.here hexec rfl (hb hbytes d18) rfl rfl rfl ?_
      exact Steps.refl _)
    obtain ⟨T7, X7, q7, st7⟩ := X5.sget hexec hown (wk W (.fieldLink "java/lang/String" 38 "java/lang/String" "COMPACT_STRINGS" "Z")) s1 (fun _ _ h => by rw [hh5]; exact h) (g := (mkF m 19 #[.val (.ref x), .val (.ref y), .val (.ref y)] [])) rfl (hb hbytes d19)
    have hh7 := q7.trans hh5
    have c8 : Steps p.tables e below (s₁.setTop (entryFrame m #[.ref x, .ref y] 3)) (T7.setTop (mkF m 26 #[.val (.ref x), .val (.ref y), .val (.ref y)] [.ref x])) := (c6.trans (st7 _ (Steps.refl _))).trans (by
      refine XS.ifNo X7.here hexec rfl (hb hbytes d22) rfl (i0_eq_f hz) ?_
      refine XS.aloadN X7.here hexec rfl (hb hbytes d25) rfl rfl ?_
      exact Steps.refl _)
    obtain ⟨T9, X9, q9, st9⟩ := X7.hget hexec hown (wk W (.fieldLink "java/lang/String" 15 "java/lang/String" "coder" "B")) (hx.mv X7.warmed.alike hh7).2.2.1 (g := (mkF m 26 #[.val (.ref x), .val (.ref y), .val (.ref y)] [.ref x])) rfl (rest := []) rfl (hb hbytes d26)
    have hh9 := q9.trans hh7
    have c10 : Steps p.tables e below (s₁.setTop (entryFrame m #[.ref x, .ref y] 3)) (T9.setTop (mkF m 30 #[.val (.ref x), .val (.ref y), .val (.ref y)] [.ref y, .int cd])) := (c8.trans (st9 _ (Steps.refl _))).trans (by
      refine XS.aloadN X9.here hexec rfl (hb hbytes d29) rfl rfl ?_
      exact Steps.refl _)
    obtain ⟨T11, X11, q11, st11⟩ := X9.hget hexec hown (wk W (.fieldLink "java/lang/String" 15 "java/lang/String" "coder" "B")) (hy.mv X9.warmed.alike hh9).2.2.1 (g := (mkF m 30 #[.val (.ref x), .val (.ref y), .val (.ref y)] [.ref y, .int cd])) rfl (rest := [.int cd]) rfl (hb hbytes d30)
    have hh11 := q11.trans hh9
    have c12 : Steps p.tables e below (s₁.setTop (entryFrame m #[.ref x, .ref y] 3)) (T11.setTop (mkF m 33 #[.val (.ref x), .val (.ref y), .val (.ref y)] [.int cd', .int cd])) := c10.trans (st11 _ (Steps.refl _))
    by_cases hcd : cd = cd'
    · subst hcd
      have c13 : Steps p.tables e below (s₁.setTop (entryFrame m #[.ref x, .ref y] 3)) (T11.setTop (mkF m 37 #[.val (.ref x), .val (.ref y), .val (.ref y)] [.ref x])) := c12.trans (by
        refine XS.icmpNo X11.here hexec rfl (hb hbytes d33) rfl (ii_ne_f rfl) ?_
        refine XS.aloadN X11.here hexec rfl (hb hbytes d36) rfl rfl ?_
        exact Steps.refl _)
      obtain ⟨T14, X14, q14, st14⟩ := X11.hget hexec hown (wk W (.fieldLink "java/lang/String" 9 "java/lang/String" "value" "[B")) (hx.mv X11.warmed.alike hh11).2.1 (g := (mkF m 37 #[.val (.ref x), .val (.ref y), .val (.ref y)] [.ref x])) rfl (rest := []) rfl (hb hbytes d37)
      have hh14 := q14.trans hh11
      have c15 : Steps p.tables e below (s₁.setTop (entryFrame m #[.ref x, .ref y] 3)) (T14.setTop (mkF m 41 #[.val (.ref x), .val (.ref y), .val (.ref y)] [.ref y, .ref t])) := (c13.trans (st14 _ (Steps.refl _))).trans (by
        refine XS.aloadN X14.here hexec rfl (hb hbytes d40) rfl rfl ?_
        exact Steps.refl _)
      obtain ⟨T16, X16, q16, st16⟩ := X14.hget hexec hown (wk W (.fieldLink "java/lang/String" 9 "java/lang/String" "value" "[B")) (hy.mv X14.warmed.alike hh14).2.1 (g := (mkF m 41 #[.val (.ref x), .val (.ref y), .val (.ref y)] [.ref y, .ref t])) rfl (rest := [.ref t]) rfl (hb hbytes d41)
      have hh16 := q16.trans hh14
      have c17 : Steps p.tables e below (s₁.setTop (entryFrame m #[.ref x, .ref y] 3)) (T16.setTop (mkF m 44 #[.val (.ref x), .val (.ref y), .val (.ref y)] [.ref t', .ref t])) := c15.trans (st16 _ (Steps.refl _))
      obtain ⟨v18, T18, X18, E18, g18⟩ := X16.callS hexec (LEq.law l t V t' V') hown (wks W (staticW "java/lang/String" 541 LEq.yN)) (wk W LEq.tab) (W := 0) (Nat.le_of_ble_eq_true rfl) (Nat.le_of_ble_eq_true rfl) (Nat.le_refl _) (Nat.le_refl _) (g := (mkF m 44 #[.val (.ref x), .val (.ref y), .val (.ref y)] [.ref t', .ref t])) rfl (by rw [hml]; rfl) c17 (argsL := [.ref t, .ref t']) (rest := []) rfl rfl (by show 2 * 0 + 0 ≤ _; decide) (hb hbytes d44) (⟨rfl, hx.2.2.2.1.mv X16.warmed.alike hh16, hx.2.2.2.2.1.ty, hy.2.2.2.1.mv X16.warmed.alike hh16, hy.2.2.2.2.1.ty⟩)
      obtain ⟨v, rfl, q18, hv⟩ := E18
      have iff := Cod.eqv hx.2.2.2.2.1 hy.2.2.2.2.1 hx.2.2.2.2.2 hy.2.2.2.2.2
      rcases hv with ⟨rfl, he⟩ | ⟨rfl, he⟩
      · have c19 : Steps p.tables e below (s₁.setTop (entryFrame m #[.ref x, .ref y] 3)) (T18.setTop (mkF m 55 #[.val (.ref x), .val (.ref y), .val (.ref y)] [.int 1])) := Steps.trans g18 (by
          refine XS.ifNo X18.here hexec rfl (hb hbytes d47) rfl (i0_eq_f (by decide)) ?_
          refine iconstV X18.here hexec rfl 1 (hb hbytes d50) (by decide) ?_
          refine XS.goto X18.here hexec rfl (pc0 := 51) rfl (hb hbytes d51) (by decide) rfl ?_
          exact Steps.refl _)
        exact ⟨T18, some (.int 1), _, _, _, X18, rfl, rfl, rfl, (fun h => by cases h), ⟨1, rfl, q18.trans hh16, Or.inl ⟨rfl, iff.mp he⟩⟩, fun fs hl => c19.trans (X18.ireturnOut hexec hret rfl (Or.inr (Or.inl rfl)) (hb hbytes d55) hl)⟩
      · have c19 : Steps p.tables e below (s₁.setTop (entryFrame m #[.ref x, .ref y] 3)) (T18.setTop (mkF m 55 #[.val (.ref x), .val (.ref y), .val (.ref y)] [.int 0])) := Steps.trans g18 (by
          refine XS.ifYes X18.here hexec rfl (pc0 := 47) rfl (hb hbytes d47) rfl (i0_eq_t rfl) (by decide) rfl ?_
          refine iconstV X18.here hexec rfl 0 (hb hbytes d54) (by decide) ?_
          exact Steps.refl _)
        exact ⟨T18, some (.int 0), _, _, _, X18, rfl, rfl, rfl, (fun h => by cases h), ⟨0, rfl, q18.trans hh16, Or.inr ⟨rfl, fun q => he (iff.mpr q)⟩⟩, fun fs hl => c19.trans (X18.ireturnOut hexec hret rfl (Or.inr (Or.inl rfl)) (hb hbytes d55) hl)⟩
    · have c13 : Steps p.tables e below (s₁.setTop (entryFrame m #[.ref x, .ref y] 3)) (T11.setTop (mkF m 55 #[.val (.ref x), .val (.ref y), .val (.ref y)] [.int 0])) := c12.trans (by
        refine XS.icmpYes X11.here hexec rfl (pc0 := 33) rfl (hb hbytes d33) rfl (ii_ne_t hcd) (by decide) rfl ?_
        refine iconstV X11.here hexec rfl 0 (hb hbytes d54) (by decide) ?_
        exact Steps.refl _)
      exact ⟨T11, some (.int 0), _, _, _, X11, rfl, rfl, rfl, (fun h => by cases h), ⟨0, rfl, hh11, Or.inr ⟨rfl, Cod.dif hx.2.2.2.2.1 hy.2.2.2.2.1 hcd⟩⟩, fun fs hl => c13.trans (X11.ireturnOut hexec hret rfl (Or.inr (Or.inl rfl)) (hb hbytes d55) hl)⟩
theorem pays {l : Launch} {R : Room} {p : Program} {e : Env} {below : List Frame} {s : State} {sargs : Array Value} {len W : Nat} (x t : Addr) (V : Cell) (cd : Int32) (n : Nat) (f : Nat → Int32) (y t' : Addr) (V' : Cell) (cd' : Int32) (k : Nat) (g : Nat → Int32) (z : Int32) (htab : tab.before sargs s = true) (hfr : 2 ≤ R.frames) (hlo : W + 28 ≤ R.locals) :
    Back l R p e below s sargs yN len W (fun A₁ a₁ => A₁.cells + 0 ≤ R.cells ∧ A₁.slots + 0 ≤ R.slots ∧ P x t V cd n f y t' V' cd' k g z a₁ A₁.U) (fun A₁ _ v₁ B₁ => Says01 (SameT n f k g) v₁ A₁.U B₁.U ∧ B₁.locs = A₁.locs ++ [] ∧ B₁.cells = A₁.cells + 0 ∧ B₁.slots = A₁.slots + 0) :=
  (law l x t V cd n f y t' V' cd' k g z).pays htab hfr (by omega)
end SEq
end StrChars
namespace StrChars.Road
open Jvm Sem ClassFile Op Lib Jvm.Stand Jvm.Free Jvm.Free.XT
open Jvm.Lib.Cold (StaticIs)
/-- the words of String.equals(Object) -/
abbrev wordsEq : List Jvm.Cond := [.code SEq.yN SEq.yB 3 (some .boolean), .initialized ST, .classLink ST 10 ST, .fieldLink ST 38 ST "COMPACT_STRINGS" "Z", .fieldLink ST 15 ST "coder" "B", .fieldLink ST 9 ST "value" "[B", .methodLink ST 541 LEq.yN, .static LEq.yN, .code LEq.yN LEq.yB 3 (some .boolean), .initialized "java/lang/StringLatin1"]
theorem tabEq_of {a : Array Value} {s : State} (h : ∀ w ∈ wordsEq, w.before a s = true) : SEq.tab.before a s = true := by
  have hl : LEq.tab.before a s = true := unparts (wk h (.code LEq.yN LEq.yB 3 (some .boolean))) (wks h (.initialized LEq.yN.cls :: LEq.site))
  have q := consq hl h
  exact unparts (wk q (.code SEq.yN SEq.yB 3 (some .boolean))) (wks q (.initialized SEq.yN.cls :: SEq.site))
theorem movedEq {Z s : State} {a0 args : Array Value} (hZ : Z.Warmed39 s.vm) (hw : ∀ d ∈ wordsEq, d.before a0 Z = true) : ∀ d ∈ wordsEq, d.before args s = true := fun d hd => by
  have t : ∀ d ∈ wordsEq, (d.onTables && d.keepsFace) = true := by decide +kernel
  exact RoadKit.mv hZ (hw d hd) (t d hd)
/-- the road's facts of a String, as the laws ask it -/
theorem txt_of {Z U : State} {a0 : Array Value} {kI : Nat} (wi : (Jvm.Cond.instantiable ST kI).before a0 Z = true) (al : Z.vm.Alike U.vm) {x t : Addr} {kb : ClassId} {cs : List Int32} {cd N2 : Int32} {vs : List Value} (E : RoadKit.Exa Z U.heap x ST) (V : RoadKit.Fld Z U.heap x ST "value" "[B" (.ref t)) (C : RoadKit.Fld Z U.heap x ST "coder" "B" (.int cd)) (K : RoadKit.Arv Z U.heap t kb .byte N2 vs (.int 0)) (hc : CodA cs cd N2 vs) (hb : ∀ c ∈ cs, ¬ c < 0 ∧ ¬ (65535 : Int32) < c) (l2 : cs.length ≤ 4000) :
    ∃ A, Txt x t A cd cs.length (fun j => cs.getD j 0) U := by
  obtain ⟨A, K1, K2, K3, K4, K5, K6⟩ := K
  have hcod := hc.cod (by omega) K3 K5
  obtain ⟨D, fV, fC, hB, F1, F2, g1, g2, -, -⟩ := strObj wi al E V C
  exact ⟨A, ⟨_, hB.2.2.1, D, hB.1, rfl, by cases q : D.vm <;> first | rfl | exact absurd q (hB.2.1.2 _)⟩, Has.of hB F1 g1, Has.of hB F2 g2, ⟨K1.1, State.isArrayOf_alike al K1.2.1, K1.2.2, by rcases hcod with ⟨-, q, -⟩ | ⟨-, q, -⟩ <;> omega⟩, hcod, fun j hj => by
    have e : cs.getD j 0 = cs[j] := by simp [List.getD_eq_getElem?_getD, hj]
    show ¬ cs.getD j 0 < 0 ∧ ¬ 65535 < cs.getD j 0
    rw [e]; exact hb _ (List.getElem_mem _)⟩
theorem same_list (cs ds : List Int32) : SameT cs.length (fun j => cs.getD j 0) ds.length (fun j => ds.getD j 0) ↔ cs = ds := by
  constructor
  · rintro ⟨e, q⟩
    refine List.ext_getElem e fun j h1 h2 => ?_
    have := q j h1
    simpa [List.getD_eq_getElem?_getD, h1, h2] using this
  · rintro rfl
    exact ⟨rfl, fun _ _ => rfl⟩
/-- **equals(Object) OF TWO SUCH STRINGS**: 1 just where the chars are the same -/
theorem eqW {p : Program} {l : Launch} {e : Env} {R : Room} {s : State} {args : Array Value} {below : List Frame} {len W : Nat} {Z : State} {a0 : Array Value} {h : Heap} (hZ : Z.Warmed39 s.vm) (hw : ∀ d ∈ wordsEq, d.before a0 Z = true) {kI : Nat} (wi : (Jvm.Cond.instantiable ST kI).before a0 Z = true)
    {x t : Addr} {kb : ClassId} {cs : List Int32} {cd N2 : Int32} {vs : List Value} (E : RoadKit.Exa Z h x ST) (V : RoadKit.Fld Z h x ST "value" "[B" (.ref t)) (C : RoadKit.Fld Z h x ST "coder" "B" (.int cd)) (K : RoadKit.Arv Z h t kb .byte N2 vs (.int 0)) (hc : CodA cs cd N2 vs) (hb : ∀ c ∈ cs, ¬ c < 0 ∧ ¬ (65535 : Int32) < c) (l2 : cs.length ≤ 4000)
    {y t' : Addr} {kb' : ClassId} {ds : List Int32} {cd' N2' : Int32} {vs' : List Value} (E' : RoadKit.Exa Z h y ST) (V' : RoadKit.Fld Z h y ST "value" "[B" (.ref t')) (C' : RoadKit.Fld Z h y ST "coder" "B" (.int cd')) (K' : RoadKit.Arv Z h t' kb' .byte N2' vs' (.int 0)) (hc' : CodA ds cd' N2' vs') (hb' : ∀ c ∈ ds, ¬ c < 0 ∧ ¬ (65535 : Int32) < c) (l2' : ds.length ≤ 4000)
    {z : Int32} (S : RoadKit.Sta Z h ST "COMPACT_STRINGS" "Z" (.int z)) (hz : ¬ z = 0) (hfr : 2 ≤ R.frames) (hlo : W + 28 ≤ R.locals) :
    Back l R p e below s args (⟨"java/lang/String", "equals", "(Ljava/lang/Object;)Z"⟩ : MethodName) len W (fun P a => a = #[.ref x, .ref y] ∧ P.U.heap = h ∧ P.cells + 0 ≤ R.cells ∧ P.slots + 0 ≤ R.slots)
      (fun P _ v B => ∃ L, (((v = some (.int 1) ∧ cs = ds) ∨ (v = some (.int 0) ∧ ¬ cs = ds)) ∧ L = [] ∧ B.U.heap = h) ∧ B.locs = P.locs ++ L ∧ B.cells = P.cells + 0 ∧ B.slots = P.slots + 0) := by
  intro m meth c P g ig mk a X hg hsize hdg hW hn hp'
  obtain ⟨rfl, rfl, r1, r2⟩ := hp'
  have al : Z.vm.Alike P.U.vm := hZ.alike.trans X.warmed.alike
  obtain ⟨A, hx⟩ := txt_of wi al E V C K hc hb l2
  obtain ⟨A', hy⟩ := txt_of wi al E' V' C' K' hc' hb' l2'
  obtain ⟨v, B, X', ⟨⟨w, hv, hh, hq⟩, hl, hk, hs⟩, st⟩ := SEq.pays x t A cd cs.length (fun j => cs.getD j 0) y t' A' cd' ds.length (fun j => ds.getD j 0) z (tabEq_of (movedEq hZ hw)) hfr hlo m meth c P g ig mk _ X hg hsize hdg hW hn ⟨r1, r2, rfl, hx, hy, sta_is al S, hz⟩
  refine ⟨v, B, X', ⟨[], ⟨?_, rfl, hh⟩, hl, hk, hs⟩, st⟩
  rcases hq with ⟨rfl, q⟩ | ⟨rfl, q⟩
  · exact Or.inl ⟨hv, (same_list cs ds).mp q⟩
  · exact Or.inr ⟨hv, fun e => q ((same_list cs ds).mpr e)⟩
end StrChars.Road
namespace StrChars
open Jvm Sem ClassFile Op Lib Jvm.Stand Jvm.Free.XT Jvm.Free.ALB Jvm.Free.JM Jvm.Free
open Jvm.Lib.Cold (StaticIs)
namespace ChN
def yN : MethodName := ⟨"java/lang/String", "charAt", "(I)C"⟩
abbrev yB : ByteArray := jdk_42_method_56_code
theorem d0 : decode yB 0 = .ok (.aload_n 0, 1) := by decide +kernel
theorem d1 : decode yB 1 = .ok (.invokevirtual 492, 3) := by decide +kernel
theorem d4 : decode yB 4 = .ok (.ifCond (.eq) 12, 3) := by decide +kernel
theorem d7 : decode yB 7 = .ok (.aload_n 0, 1) := by decide +kernel
theorem d8 : decode yB 8 = .ok (.getfield 9, 3) := by decide +kernel
theorem d11 : decode yB 11 = .ok (.iload_n 1, 1) := by decide +kernel
theorem d12 : decode yB 12 = .ok (.invokestatic 495, 3) := by decide +kernel
theorem d15 : decode yB 15 = .ok (.ireturn, 1) := by decide +kernel
def site : List Cond := [.fieldLink "java/lang/String" 9 "java/lang/String" "value" "[B", IsL.tab, LChA.tab] ++ virtW "java/lang/String" 492 "java/lang/String" IsL.yN IsL.yN ++ staticW "java/lang/String" 495 LChA.yN
def tab : Cond := tabOf yN yB 2 (some .char) site
def P (x t : Addr) (V : Cell) (n : Nat) (f : Nat → Int32) (z : Int32) (fm : Value) (i : Nat) (args : Array Value) (s : State) : Prop := args = #[.ref x, .int (Int32.ofNat i)] ∧ Txt x t V 0 n f s ∧ i < n ∧ StaticIs s "java/lang/String" "COMPACT_STRINGS" "Z" (.int z) ∧ ¬ z = 0 ∧ StaticIs s "jdk/internal/util/Preconditions" "SIOOBE_FORMATTER" "Ljava/util/function/BiFunction;" fm ∧ fm.isRef = true
def E (f : Nat → Int32) (i : Nat) (r : Option Value) (s u : State) : Prop := XT.PureE (some (.int (f i))) r s u
/-- charAt(i) of a Latin-1 String of n chars, i < n: f i -/
theorem law (l : Launch) (x t : Addr) (V : Cell) (n : Nat) (f : Nat → Int32) (z : Int32) (fm : Value) (i : Nat) : Law l yN 2 1 3 40 yB 2 (some .char) site (P x t V n f z fm i) (E f i) [] 0 0 := by
  refine Law.of_walk (plainFor_of_name (by decide +kernel)) (by decide +kernel) (by decide +kernel) (by decide) (fun _ _ h => by rw [h.1]; rfl) (fun _ U U' hal hh h => ⟨h.1, h.2.1.mv hal hh, h.2.2.1, h.2.2.2.1.there hal hh, h.2.2.2.2.1, h.2.2.2.2.2.1.there hal hh, h.2.2.2.2.2.2⟩) (fun r U U' V V' h1 hal h2 h => XT.PureE.mv r U U' V V' h1 hal h2 h) ?_
  intro p e s m args below meth c s₁ X0 hexec hbytes hml hret hlk hnm hown hh0 W hP
  obtain ⟨rfl, hx, hi, s1, hz, s3, rf⟩ := hP
  have v31 := hx.2.2.2.1.2.2.2
  have hr := hx.2.2.2.2.2 i hi
  have hx0 := hx.mv X0.warmed.alike hh0
  have c1 : Steps p.tables e below (s₁.setTop (entryFrame m #[.ref x, .int (Int32.ofNat i)] 2)) (s₁.setTop (mkF m 1 #[.val (.ref x), .val (.int (Int32.ofNat i))] [.ref x])) := Steps.trans (entry rfl) (by
    show Steps p.tables e below (s₁.setTop (mkF m 0 #[.val (.ref x), .val (.int (Int32.ofNat i))] [])) _
    refine XS.aloadN X0.here hexec rfl (hb hbytes d0) rfl rfl ?_
    exact Steps.refl _)
  obtain ⟨v2, T2, X2, E2, g2⟩ := X0.callV hexec (IsL.law l x 0 z) hown (wks W (virtW "java/lang/String" 492 "java/lang/String" IsL.yN IsL.yN)) rfl (by decide) (wk W IsL.tab) (W := 0) (Nat.le_of_ble_eq_true rfl) (Nat.le_of_ble_eq_true rfl) (Nat.le_refl _) (Nat.le_refl _) (hx0.1.fc X0.warmed.alike) hx0.1.is (g := (mkF m 1 #[.val (.ref x), .val (.int (Int32.ofNat i))] [.ref x])) rfl (by rw [hml]; rfl) c1 (argsL := []) (rest := []) rfl rfl (by show 2 * 0 + 0 ≤ _; decide) (hb hbytes d1) (⟨rfl, hx0.2.2.1, hx.2.2.2.2.1.cd, s1.there X0.warmed.alike hh0, hz⟩)
  obtain ⟨rfl, q2⟩ := E2
  have hh2 := q2.trans hh0
  have hx2 := hx.mv X2.warmed.alike hh2
  obtain ⟨-, k1, k2⟩ | ⟨k0, -⟩ := hx.2.2.2.2.1
  · have c3 : Steps p.tables e below (s₁.setTop (entryFrame m #[.ref x, .int (Int32.ofNat i)] 2)) (T2.setTop (mkF m 8 #[.val (.ref x), .val (.int (Int32.ofNat i))] [.ref x])) := Steps.trans g2 (by
      refine XS.ifNo X2.here hexec rfl (hb hbytes d4) rfl (i0_eq_f (by decide)) ?_
      refine XS.aloadN X2.here hexec rfl (hb hbytes d7) rfl rfl ?_
      exact Steps.refl _)
    obtain ⟨T4, X4, q4, st4⟩ := X2.hget hexec hown (wk W (.fieldLink "java/lang/String" 9 "java/lang/String" "value" "[B")) hx2.2.1 (g := (mkF m 8 #[.val (.ref x), .val (.int (Int32.ofNat i))] [.ref x])) rfl (rest := []) rfl (hb hbytes d8)
    have hh4 := q4.trans hh2
    have c5 : Steps p.tables e below (s₁.setTop (entryFrame m #[.ref x, .int (Int32.ofNat i)] 2)) (T4.setTop (mkF m 12 #[.val (.ref x), .val (.int (Int32.ofNat i))] [.int (Int32.ofNat i), .ref t])) := (c3.trans (st4 _ (Steps.refl _))).trans (by
      refine XS.iloadN X4.here hexec rfl (hb hbytes d11) rfl ?_
      exact Steps.refl _)
    obtain ⟨v6, T6, X6, E6, g6⟩ := X4.callS hexec (LChA.law l t V i (lo8 (f i)) fm) hown (wks W (staticW "java/lang/String" 495 LChA.yN)) (wk W LChA.tab) (W := 0) (Nat.le_of_ble_eq_true rfl) (Nat.le_of_ble_eq_true rfl) (Nat.le_refl _) (Nat.le_refl _) (g := (mkF m 12 #[.val (.ref x), .val (.int (Int32.ofNat i))] [.int (Int32.ofNat i), .ref t])) rfl (by rw [hml]; rfl) c5 (argsL := [.ref t, .int (Int32.ofNat i)]) (rest := []) rfl rfl (by show 2 * 0 + 0 ≤ _; decide) (hb hbytes d12) (⟨rfl, hx.2.2.2.1.mv X4.warmed.alike hh4, (k2 i hi).1, s3.there X4.warmed.alike hh4, rf⟩)
    obtain ⟨rfl, q6⟩ := E6
    rw [chr8_lo8 hr.1 (k2 i hi).2] at g6
    exact ⟨T6, some (.int (f i)), _, _, _, X6, rfl, rfl, rfl, (fun h => by cases h), ⟨rfl, q6.trans hh4⟩, fun fs hl => Steps.trans g6 (X6.ireturnOut hexec hret (narrow_ch hr.1 hr.2) (Or.inr (Or.inr (Or.inr (Or.inl rfl)))) (hb hbytes d15) hl)⟩
  · exact absurd k0 (by decide)
theorem pays {l : Launch} {R : Room} {p : Program} {e : Env} {below : List Frame} {s : State} {sargs : Array Value} {len W : Nat} (x t : Addr) (V : Cell) (n : Nat) (f : Nat → Int32) (z : Int32) (fm : Value) (i : Nat) (htab : tab.before sargs s = true) (hfr : 4 ≤ R.frames) (hlo : W + 53 ≤ R.locals) :
    Back l R p e below s sargs yN len W (fun A₁ a₁ => A₁.cells + 0 ≤ R.cells ∧ A₁.slots + 0 ≤ R.slots ∧ P x t V n f z fm i a₁ A₁.U) (fun A₁ _ v₁ B₁ => E f i v₁ A₁.U B₁.U ∧ B₁.locs = A₁.locs ++ [] ∧ B₁.cells = A₁.cells + 0 ∧ B₁.slots = A₁.slots + 0) :=
  (law l x t V n f z fm i).pays htab hfr (by omega)
end ChN
end StrChars
namespace StrChars.Road
open Jvm Sem ClassFile Op Lib Jvm.Stand Jvm.Free Jvm.Free.XT
open Jvm.Lib.Cold (StaticIs)
/-- the words of String.charAt(int), the Latin-1 road alone -/
abbrev wordsChN : List Jvm.Cond := [.code ChN.yN ChN.yB 2 (some .char), .initialized ST, .fieldLink ST 9 ST "value" "[B", .fieldLink ST 38 ST "COMPACT_STRINGS" "Z", .fieldLink ST 15 ST "coder" "B", .code IsL.yN IsL.yB 1 (some .boolean), .methodLink ST 492 IsL.yN, .declares IsL.yN, .selects ST IsL.yN IsL.yN, .instanceMethod IsL.yN,
  .methodLink ST 495 LChA.yN, .static LChA.yN, .code LChA.yN LChA.yB 2 (some .char), .initialized "java/lang/StringLatin1", .methodLink "java/lang/StringLatin1" 9 JO.Str_checkIndex.yN, .static JO.Str_checkIndex.yN, .code JO.Str_checkIndex.yN JO.Str_checkIndex.yB 2 none,
  .fieldLink ST 1053 "jdk/internal/util/Preconditions" "SIOOBE_FORMATTER" "Ljava/util/function/BiFunction;", .methodLink ST 1059 JC.PreCheck.yN, .static JC.PreCheck.yN, .code JC.PreCheck.yN JC.PreCheck.yB 3 (some .int), .initialized "jdk/internal/util/Preconditions"]
theorem tabChN_of {a : Array Value} {s : State} (h : ∀ w ∈ wordsChN, w.before a s = true) : ChN.tab.before a s = true := by
  have hp : JC.PreCheck.tab.before a s = true := unparts (wk h (.code JC.PreCheck.yN JC.PreCheck.yB 3 (some .int))) (wks h (.initialized JC.PreCheck.yN.cls :: JC.PreCheck.site))
  have qk := consq hp h
  have hk : JO.Str_checkIndex.tab.before a s = true := unparts (wk qk (.code JO.Str_checkIndex.yN JO.Str_checkIndex.yB 2 none)) (wks qk (.initialized JO.Str_checkIndex.yN.cls :: JO.Str_checkIndex.site))
  have ql := consq hk h
  have hl : LChA.tab.before a s = true := unparts (wk ql (.code LChA.yN LChA.yB 2 (some .char))) (wks ql (.initialized LChA.yN.cls :: LChA.site))
  have hi : IsL.tab.before a s = true := unparts (wk h (.code IsL.yN IsL.yB 1 (some .boolean))) (wks h (.initialized IsL.yN.cls :: IsL.site))
  have q := consq hi (consq hl h)
  exact unparts (wk q (.code ChN.yN ChN.yB 2 (some .char))) (wks q (.initialized ChN.yN.cls :: ChN.site))
theorem movedChN {Z s : State} {a0 args : Array Value} (hZ : Z.Warmed39 s.vm) (hw : ∀ d ∈ wordsChN, d.before a0 Z = true) : ∀ d ∈ wordsChN, d.before args s = true := fun d hd => by
  have t : ∀ d ∈ wordsChN, (d.onTables && d.keepsFace) = true := by decide +kernel
  exact RoadKit.mv hZ (hw d hd) (t d hd)
/-- **charAt(i) OF A LATIN-1 STRING**, i < n: the char -/
theorem chN {p : Program} {l : Launch} {e : Env} {R : Room} {s : State} {args : Array Value} {below : List Frame} {len W : Nat} {Z : State} {a0 : Array Value} {h : Heap} (hZ : Z.Warmed39 s.vm) (hw : ∀ d ∈ wordsChN, d.before a0 Z = true) {kI : Nat} (wi : (Jvm.Cond.instantiable ST kI).before a0 Z = true)
    {x t : Addr} {kb : ClassId} {cs : List Int32} {N2 z : Int32} {vs : List Value} {fm : Value} {i : Nat} {j : Int32} (E : RoadKit.Exa Z h x ST) (V : RoadKit.Fld Z h x ST "value" "[B" (.ref t)) (C : RoadKit.Fld Z h x ST "coder" "B" (.int 0)) (K : RoadKit.Arv Z h t kb .byte N2 vs (.int 0)) (hc : CodA cs 0 N2 vs) (hb : ∀ c ∈ cs, ¬ c < 0 ∧ ¬ (65535 : Int32) < c)
    (S : RoadKit.Sta Z h ST "COMPACT_STRINGS" "Z" (.int z)) (hz : ¬ z = 0) (F : RoadKit.Sta Z h "jdk/internal/util/Preconditions" "SIOOBE_FORMATTER" "Ljava/util/function/BiFunction;" fm) (rf : fm.isRef = true) (l2 : cs.length ≤ 4000) (hi : i < cs.length) (hj : j = Int32.ofNat i) (hfr : 4 ≤ R.frames) (hlo : W + 53 ≤ R.locals) :
    Back l R p e below s args (⟨"java/lang/String", "charAt", "(I)C"⟩ : MethodName) len W (fun P a => a = #[.ref x, .int j] ∧ P.U.heap = h ∧ P.cells + 0 ≤ R.cells ∧ P.slots + 0 ≤ R.slots)
      (fun P _ v B => ∃ L, (v = some (.int (cs.getD i 0)) ∧ L = [] ∧ B.U.heap = h) ∧ B.locs = P.locs ++ L ∧ B.cells = P.cells + 0 ∧ B.slots = P.slots + 0) := by
  subst hj
  intro m meth c P g ig mk a X hg hsize hdg hW hn hp'
  obtain ⟨rfl, rfl, r1, r2⟩ := hp'
  have al : Z.vm.Alike P.U.vm := hZ.alike.trans X.warmed.alike
  obtain ⟨A, hx⟩ := txt_of wi al E V C K hc hb l2
  obtain ⟨v, B, X', ⟨⟨hv, hh⟩, hl, hk, hs⟩, st⟩ := ChN.pays x t A cs.length (fun j => cs.getD j 0) z fm i (tabChN_of (movedChN hZ hw)) hfr hlo m meth c P g ig mk _ X hg hsize hdg hW hn ⟨r1, r2, rfl, hx, hi, sta_is al S, hz, sta_is al F, rf⟩
  exact ⟨v, B, X', ⟨[], ⟨hv, rfl, hh⟩, hl, hk, hs⟩, st⟩
/-- what backV says of its String, as the contracts of this text ask it: cs's low bytes, coder 0 -/
theorem codOf {cs : List Int32} {n : Nat} (hn : cs.length = n) (hb : ∀ c ∈ cs, ¬ 255 < c) : CodA cs 0 (Int32.ofNat n) ((cs.map lo8).map Value.int) := Or.inl ⟨rfl, by rw [hn], by simp [List.map_map, Function.comp_def], hb⟩
end StrChars.Road
end Jvm.Pilot.@@N@@
namespace Jvm.Pilot.@@N@@
open Jvm Jvm.ClassFile Sem Op Lib Jvm.Free Jvm.Stand Jvm.LawKit Jvm.RoadKit Bundle Jvm.Pilot.@@N@@.Jvm.D
theorem own_pack {p : Program} {l : Launch} {e : Env} {R : Room} {s : State} {m : MethodId} {args : Array Value} {below : List Frame} {meth : Method} {c : Code} {T : State} {locs : List Loc} {cells slots n0 : Nat} (X : Stand p l e R s m args below meth c T locs cells slots) (N : Fr n0 locs) : ∃ L, Stand p l e R s m args below meth c T L cells slots ∧ Fr n0 L := ⟨_, X, N⟩
theorem own_c0 {P : Int32 → Prop} : ∀ x ∈ ([] : List Int32), P x := fun _ h => nomatch h
theorem own_cS {P : Int32 → Prop} {y : Int32} {L : List Int32} (q : P y) (r : ∀ x ∈ L, P x) : ∀ x ∈ y :: L, P x := fun x h => (List.mem_cons.mp h).elim (fun e => e ▸ q) (r x)
theorem own_up (cs : List Int32) (h : ∀ c ∈ cs, ¬ c < 0 ∧ ¬ (255 : Int32) < c) : ∀ c ∈ cs, ¬ c < 0 ∧ ¬ (65535 : Int32) < c := fun c hc => ⟨(h c hc).1, fun q => (h c hc).2 (by rw [Int32.lt_iff_toInt_lt] at q ⊢; have e1 : (65535 : Int32).toInt = 65535 := rfl; have e2 : (255 : Int32).toInt = 255 := rfl; omega)⟩
theorem own_m32 (x : Int32) : ∃ k : Fin 256, (x &&& 255) = Int32.ofNat k.val := by
  have h : (x &&& 255).toBitVec.toNat < 256 := by
    simp only [Int32.toBitVec_and, BitVec.toNat_and]
    exact Nat.lt_succ_of_le Nat.and_le_right
  refine ⟨⟨_, h⟩, ?_⟩
  apply Int32.toBitVec_inj.mp
  show _ = BitVec.ofNat 32 _
  rw [BitVec.ofNat_toNat]; simp
theorem own_m64 (x : Int64) : ∃ k : Fin 256, (x &&& 255).toInt32 = Int32.ofNat k.val := by
  have h : (x &&& 255).toBitVec.toNat < 256 := by
    simp only [Int64.toBitVec_and, BitVec.toNat_and]
    exact Nat.lt_succ_of_le Nat.and_le_right
  refine ⟨⟨_, h⟩, ?_⟩
  have e : (x &&& 255) = Int64.ofNat (x &&& 255).toBitVec.toNat := by
    apply Int64.toBitVec_inj.mp
    show _ = BitVec.ofNat 64 _
    rw [BitVec.ofNat_toNat]; simp
  have t : ∀ k : Fin 256, (Int64.ofNat k.val).toInt32 = Int32.ofNat k.val := by decide +kernel
  exact (congrArg Int64.toInt32 e).trans (t ⟨_, h⟩)
theorem own_eqint {args : Array Value} {s : State} {t : Term} {k : Int32} (h : (Jvm.Cond.eq t (.int k)).value args s none s [] = some true) : t.eval args s none [] s = some (.int k) := by
  simp only [Cond.value, Term.eval] at h
  cases ht : t.eval args s none [] s with
  | none => simp [ht] at h
  | some x => cases x <;> simp [ht] at h ⊢ <;> exact h
def own_Qlaw (h0 : Heap) (n0 : Nat) (v : Option Value) (h : Heap) (L : List Loc) : Prop := v = some (.int 1) ∧ Fr n0 L
theorem own_hws_words : ∀ d ∈ StrChars.Road.words, d ∈ tables_1 := by decide +kernel
theorem own_hws_wordsChN : ∀ d ∈ StrChars.Road.wordsChN, d ∈ tables_1 := by decide +kernel
theorem own_hws_wordsEq : ∀ d ∈ StrChars.Road.wordsEq, d ∈ tables_1 := by decide +kernel
theorem own_strAtoms : ∀ d ∈ Bundle.stringAtoms, d ∈ tables_1 := by decide +kernel
def own_iteq (u w a b : Int32) : Int32 := if u = w then a else b
def own_itlt (u w a b : Int32) : Int32 := if u < w then a else b
def own_Glob (Z : State) (G1 : Int32) (G3 : Value) (k_EMPTY : Addr) (k_ENGLISH : Addr) (s_ENGLISH : Addr) (t_ENGLISH : Addr) (kb_ENGLISH : ClassId) (k_JAPANESE : Addr) (s_JAPANESE : Addr) (t_JAPANESE : Addr) (kb_JAPANESE : ClassId) (k_CHINESE : Addr) (s_CHINESE : Addr) (t_CHINESE : Addr) (kb_CHINESE : ClassId) (k_VALUES : Addr) (kv_VALUES : ClassId) : Prop := (Sta Z Z.heap "java/lang/String" "COMPACT_STRINGS" "Z" (.int G1)) ∧ (¬ (G1 = (0 : Int32))) ∧ (Sta Z Z.heap "jdk/internal/util/Preconditions" "SIOOBE_FORMATTER" "Ljava/util/function/BiFunction;" G3) ∧ (G3.isRef = true) ∧ (Sta Z Z.heap "java/util/Optional" "EMPTY" "Ljava/util/Optional;" (.ref k_EMPTY)) ∧ (Exa Z Z.heap k_EMPTY "java/util/Optional") ∧ (Fld Z Z.heap k_EMPTY "java/util/Optional" "value" "Ljava/lang/Object;" .null) ∧ (Sta Z Z.heap "com/example/dragoman/dragoman/core/Language" "ENGLISH" "Lcom/example/dragoman/dragoman/core/Language;" (.ref k_ENGLISH)) ∧ (Exa Z Z.heap k_ENGLISH "com/example/dragoman/dragoman/core/Language") ∧ (Fld Z Z.heap k_ENGLISH "com/example/dragoman/dragoman/core/Language" "code" "Ljava/lang/String;" (.ref s_ENGLISH)) ∧ (Exa Z Z.heap s_ENGLISH "java/lang/String") ∧ (Fld Z Z.heap s_ENGLISH "java/lang/String" "coder" "B" (.int (0 : Int32))) ∧ (Fld Z Z.heap s_ENGLISH "java/lang/String" "value" "[B" (.ref t_ENGLISH)) ∧ (Arv Z Z.heap t_ENGLISH kb_ENGLISH .byte (2 : Int32) ((([(101 : Int32), (110 : Int32)] : List Int32).map (fun c => c.toInt8.toInt32)).map Value.int) (.int (0 : Int32))) ∧ (Sta Z Z.heap "com/example/dragoman/dragoman/core/Language" "JAPANESE" "Lcom/example/dragoman/dragoman/core/Language;" (.ref k_JAPANESE)) ∧ (Exa Z Z.heap k_JAPANESE "com/example/dragoman/dragoman/core/Language") ∧ (Fld Z Z.heap k_JAPANESE "com/example/dragoman/dragoman/core/Language" "code" "Ljava/lang/String;" (.ref s_JAPANESE)) ∧ (Exa Z Z.heap s_JAPANESE "java/lang/String") ∧ (Fld Z Z.heap s_JAPANESE "java/lang/String" "coder" "B" (.int (0 : Int32))) ∧ (Fld Z Z.heap s_JAPANESE "java/lang/String" "value" "[B" (.ref t_JAPANESE)) ∧ (Arv Z Z.heap t_JAPANESE kb_JAPANESE .byte (2 : Int32) ((([(106 : Int32), (97 : Int32)] : List Int32).map (fun c => c.toInt8.toInt32)).map Value.int) (.int (0 : Int32))) ∧ (Sta Z Z.heap "com/example/dragoman/dragoman/core/Language" "CHINESE" "Lcom/example/dragoman/dragoman/core/Language;" (.ref k_CHINESE)) ∧ (Exa Z Z.heap k_CHINESE "com/example/dragoman/dragoman/core/Language") ∧ (Fld Z Z.heap k_CHINESE "com/example/dragoman/dragoman/core/Language" "code" "Ljava/lang/String;" (.ref s_CHINESE)) ∧ (Exa Z Z.heap s_CHINESE "java/lang/String") ∧ (Fld Z Z.heap s_CHINESE "java/lang/String" "coder" "B" (.int (0 : Int32))) ∧ (Fld Z Z.heap s_CHINESE "java/lang/String" "value" "[B" (.ref t_CHINESE)) ∧ (Arv Z Z.heap t_CHINESE kb_CHINESE .byte (2 : Int32) ((([(122 : Int32), (104 : Int32)] : List Int32).map (fun c => c.toInt8.toInt32)).map Value.int) (.int (0 : Int32))) ∧ (Sta Z Z.heap "com/example/dragoman/dragoman/core/Language" "$VALUES" "[Lcom/example/dragoman/dragoman/core/Language;" (.ref k_VALUES)) ∧ (Exa Z Z.heap k_VALUES "[Lcom/example/dragoman/dragoman/core/Language;") ∧ (Arv Z Z.heap k_VALUES kv_VALUES (.object "com/example/dragoman/dragoman/core/Language") (3 : Int32) [(.ref k_ENGLISH), (.ref k_JAPANESE), (.ref k_CHINESE)] .null)
theorem own_EW {Z : State} {a0 : Array Value} (hw : ∀ d ∈ tables_1, d.before a0 Z = true) : EW Z a0 consts_1 := (EW.cons (hw _ (List.mem_of_getElem? (i := 83) rfl)) (by decide) (EW.cons (hw _ (List.mem_of_getElem? (i := 18) rfl)) (by decide) EW.nil))
theorem own_safeS {Z : State} {EL : List (String × Nat)} {vm : Vm} {h : Heap} {x : Addr} (hal : Z.vm.Alike vm) (E : Exa Z h x "java/lang/String") (F : Fld Z h x "java/lang/String" "value" "[B" .null) : Safe Z EL vm h x := fun B => by
  obtain ⟨cell, k, e1, e2, e3, -, -⟩ := E
  obtain ⟨cell', cf, kf, i, f, g1, g2, -, -, -, -, g7⟩ := F
  cases e1.symm.trans g1
  obtain ⟨p, -, u, a, -, q, -, G, rfl | rfl⟩ := B
  · cases (show h[q.sa]? = some q.sC from G.ha).symm.trans e1
    obtain ⟨cS, ⟨⟨-, -, -, ⟨c1, k1, i1, f1, -⟩, -, -, -, v1, -⟩, -⟩, -⟩ := G
    obtain ⟨k3, e3', -⟩ := State.fieldFound?_setVm (s := Z) hal g2
    have e4 := (show (Wst Z vm h).fieldFound? _ _ _ = _ from e3').symm.trans f1
    simp only [Option.some.injEq, Prod.mk.injEq] at e4
    rw [e4.2.2.2, v1] at g7
    cases g7
  · cases (show h[q.sd]? = some q.SA from G.hd).symm.trans e1
    obtain ⟨cS, -, -, ff, -⟩ := G
    rw [show (Wst Z vm h).vm.findClass "[B" = Z.vm.findClass "[B" from hal.findClass _ _] at ff
    obtain ⟨k1, q1, q2⟩ := Vm.findClass_spec ff
    obtain ⟨k2, q3, q4⟩ := Vm.findClass_spec e2
    cases q1.symm.trans q3
    exact absurd (q2.symm.trans q4) (by decide)
theorem own_eqref {args : Array Value} {s : State} {t u : Term} {k : Addr} (h : (Jvm.Cond.eq t u).value args s none s [] = some true) (hu : u.eval args s none [] s = some (.ref k)) : t.eval args s none [] s = some (.ref k) := by
  simp only [Cond.value, hu] at h
  cases ht : t.eval args s none [] s with
  | none => simp [ht] at h
  | some x => cases x <;> simp [ht] at h ⊢ <;> exact h
theorem own_len {args : Array Value} {s : State} {t : Term} {x : Addr} {cl : Cell} {ty : FieldType} {n : Int32} (h : (Term.length t).eval args s none [] s = some (.int n)) (ht : t.eval args s none [] s = some (.ref x)) (A : Arr s s.heap x cl ty) : cl.slots.size < 2 ^ 31 ∧ cl.slots.size.toInt32 = n := by
  have ha := A.fin (Vm.Alike.refl _)
  simp only [Term.eval, ht, ha, Option.bind_eq_bind, Option.bind_some] at h
  split at h
  · rename_i q
    exact ⟨q, by simpa using h⟩
  · simp at h
theorem own_elem {args : Array Value} {s : State} {t : Term} {x : Addr} {cl : Cell} {ty : FieldType} {v : Value} {j : Nat} {i : Int32} (h : (Term.elem t (.int i)).eval args s none [] s = some v) (ht : t.eval args s none [] s = some (.ref x)) (A : Arr s s.heap x cl ty) (hj : i.toNatClampNeg = j) : cl.slots[j]? = some v := by
  subst hj; exact (elem_in h ht (Term.int_eval i) A.1).2
def own_md (p : Int32) : Int32 := (p &&& (7 : Int32))
def own_n (p : Int32) : Int32 := (nar .char ((p &&& (255 : Int32)).toUInt32.toUInt16.toUInt32.toInt32))
def own_k6 (p : Int32) : Int32 := ((p &&& (255 : Int32)) % (6 : Int32))
def own_ez (k : Int32) : Int32 := if k = 0 then 101 else if k = 1 then 110 else if k = 2 then 106 else if k = 3 then 97 else if k = 4 then 122 else 104
def own_pk (p : Int32) : Int32 := if (p &&& (256 : Int32)) = (0 : Int32) then own_n p else own_ez (own_k6 p)
def own_q (p : Int32) : Int32 := (nar .char (own_pk p))
theorem own_rng_n (p : Int32) : ¬ own_n p < 0 ∧ ¬ (255 : Int32) < own_n p := by
  have t : ∀ k : Fin 256, ¬ nar .char ((Int32.ofNat k.val).toUInt32.toUInt16.toUInt32.toInt32) < 0 ∧ ¬ (255 : Int32) < nar .char ((Int32.ofNat k.val).toUInt32.toUInt16.toUInt32.toInt32) := by decide +kernel
  unfold own_n
  obtain ⟨k, hk⟩ := own_m32 p
  rw [hk]; exact t k
theorem own_k6c (p : Int32) : own_k6 p = 0 ∨ own_k6 p = 1 ∨ own_k6 p = 2 ∨ own_k6 p = 3 ∨ own_k6 p = 4 ∨ own_k6 p = 5 := by
  have t : ∀ k : Fin 256, (Int32.ofNat k.val % (6 : Int32)) = 0 ∨ (Int32.ofNat k.val % (6 : Int32)) = 1 ∨ (Int32.ofNat k.val % (6 : Int32)) = 2 ∨ (Int32.ofNat k.val % (6 : Int32)) = 3 ∨ (Int32.ofNat k.val % (6 : Int32)) = 4 ∨ (Int32.ofNat k.val % (6 : Int32)) = 5 := by decide +kernel
  unfold own_k6
  obtain ⟨k, hk⟩ := own_m32 p
  rw [hk]; exact t k
theorem own_rng_pk (p : Int32) : ¬ own_pk p < 0 ∧ ¬ (255 : Int32) < own_pk p := by
  unfold own_pk
  split
  · exact own_rng_n p
  · rcases own_k6c p with h | h | h | h | h | h <;> rw [h] <;> decide
theorem own_narL (x : Int32) (h : ¬ x < 0 ∧ ¬ (255 : Int32) < x) : nar .char x = x := by
  have g := c_i2c x
  have e0 : (0 : Int32).toInt = 0 := rfl
  have e1 : (255 : Int32).toInt = 255 := rfl
  obtain ⟨h1, h2⟩ := h
  rw [Int32.lt_iff_toInt_lt] at h1 h2
  apply Int32.toInt_inj.mp
  show (x.toUInt32.toUInt16.toUInt32.toInt32).toInt = _
  omega
theorem own_qe (p : Int32) : own_q p = own_pk p := own_narL _ (own_rng_pk p)
theorem own_rng_q (p : Int32) : ¬ own_q p < 0 ∧ ¬ (255 : Int32) < own_q p := own_qe p ▸ own_rng_pk p
theorem own_l2 {a b x y : Int32} (h1 : own_pk a = x) (h2 : own_pk b = y) : ([x, y] : List Int32) = [own_q a, own_q b] := by rw [own_qe, own_qe, h1, h2]
theorem own_na {a b x y : Int32} (h1 : ¬ (own_pk a = x)) : ¬ (([x, y] : List Int32) = [own_q a, own_q b]) := fun q => h1 (by have e : x = own_q a := (List.cons.inj q).1; rw [e, own_qe])
theorem own_nb {a b x y : Int32} (h1 : ¬ (own_pk b = y)) : ¬ (([x, y] : List Int32) = [own_q a, own_q b]) := fun q => h1 (by have e : y = own_q b := (List.cons.inj (List.cons.inj q).2).1; rw [e, own_qe])
theorem own_cx {a x y : Int32} (h : a = x) (q : ¬ (x = y)) : ¬ (a = y) := fun e => q (h.symm.trans e)
theorem own_mdc (p : Int32) : own_md p = 0 ∨ own_md p = 1 ∨ own_md p = 2 ∨ own_md p = 3 ∨ own_md p = 4 ∨ own_md p = 5 ∨ own_md p = 6 ∨ own_md p = 7 := by
  have h := c_mask p 7 3 (by decide) (by decide)
  have q : (p &&& 7).toInt = 0 ∨ (p &&& 7).toInt = 1 ∨ (p &&& 7).toInt = 2 ∨ (p &&& 7).toInt = 3 ∨ (p &&& 7).toInt = 4 ∨ (p &&& 7).toInt = 5 ∨ (p &&& 7).toInt = 6 ∨ (p &&& 7).toInt = 7 := by rw [h]; simp only [show ((2 ^ 3 : Nat) : Int) = 8 from rfl]; omega
  rcases q with q | q | q | q | q | q | q | q
  · exact Or.inl (Int32.toInt_inj.mp q)
  · exact Or.inr (Or.inl (Int32.toInt_inj.mp q))
  · exact Or.inr (Or.inr (Or.inl (Int32.toInt_inj.mp q)))
  · exact Or.inr (Or.inr (Or.inr (Or.inl (Int32.toInt_inj.mp q))))
  · exact Or.inr (Or.inr (Or.inr (Or.inr (Or.inl (Int32.toInt_inj.mp q)))))
  · exact Or.inr (Or.inr (Or.inr (Or.inr (Or.inr (Or.inl (Int32.toInt_inj.mp q))))))
  · exact Or.inr (Or.inr (Or.inr (Or.inr (Or.inr (Or.inr (Or.inl (Int32.toInt_inj.mp q)))))))
  · exact Or.inr (Or.inr (Or.inr (Or.inr (Or.inr (Or.inr (Or.inr (Int32.toInt_inj.mp q)))))))
theorem own_d_jdk_42_method_149_0 : decode jdk_42_method_149_code 0 = .ok (.aload_n 0, 1) := by decide +kernel
theorem own_d_jdk_42_method_149_1 : decode jdk_42_method_149_code 1 = .ok (.invokespecial 1, 3) := by decide +kernel
theorem own_d_jdk_42_method_149_4 : decode jdk_42_method_149_code 4 = .ok (.iload_n 3, 1) := by decide +kernel
theorem own_d_jdk_42_method_149_5 : decode jdk_42_method_149_code 5 = .ok (.ifCond .ne 22, 3) := by decide +kernel
theorem own_d_jdk_42_method_149_8 : decode jdk_42_method_149_code 8 = .ok (.aload_n 0, 1) := by decide +kernel
theorem own_d_jdk_42_method_149_9 : decode jdk_42_method_149_code 9 = .ok (.ldc 7, 2) := by decide +kernel
theorem own_d_jdk_42_method_149_11 : decode jdk_42_method_149_code 11 = .ok (.getfield 9, 3) := by decide +kernel
theorem own_d_jdk_42_method_149_14 : decode jdk_42_method_149_code 14 = .ok (.putfield 9, 3) := by decide +kernel
theorem own_d_jdk_42_method_149_17 : decode jdk_42_method_149_code 17 = .ok (.aload_n 0, 1) := by decide +kernel
theorem own_d_jdk_42_method_149_18 : decode jdk_42_method_149_code 18 = .ok (.ldc 7, 2) := by decide +kernel
theorem own_d_jdk_42_method_149_20 : decode jdk_42_method_149_code 20 = .ok (.getfield 15, 3) := by decide +kernel
theorem own_d_jdk_42_method_149_23 : decode jdk_42_method_149_code 23 = .ok (.putfield 15, 3) := by decide +kernel
theorem own_d_jdk_42_method_149_26 : decode jdk_42_method_149_code 26 = .ok (.return_, 1) := by decide +kernel
theorem own_pn0 : plainName "java/lang/String" = true := by first | (simp [plainName, overriddenIn]; done) | decide +kernel
def own_Qrm_i4e (Z : State) (G1 : Int32) (G3 : Value) (k_EMPTY : Addr) (k_ENGLISH : Addr) (s_ENGLISH : Addr) (t_ENGLISH : Addr) (kb_ENGLISH : ClassId) (k_JAPANESE : Addr) (s_JAPANESE : Addr) (t_JAPANESE : Addr) (kb_JAPANESE : ClassId) (k_CHINESE : Addr) (s_CHINESE : Addr) (t_CHINESE : Addr) (kb_CHINESE : ClassId) (k_VALUES : Addr) (kv_VALUES : ClassId) (a1 : Addr) (a2 : Addr) (h0 : Heap) (n0 : Nat) (v : Option Value) (h : Heap) (L : List Loc) : Prop := ∃ (lb2 : Addr), ∃ (lk2 : ClassId), (v = none) ∧ (Fr n0 L) ∧ (Keep h0 h [a1]) ∧ (Exa Z h a1 "java/lang/String") ∧ (Fld Z h a1 "java/lang/String" "value" "[B" (.ref lb2)) ∧ (Fld Z h a1 "java/lang/String" "coder" "B" (.int (0 : Int32))) ∧ (Arv Z h lb2 lk2 .byte (0 : Int32) ((([] : List Int32).map (fun c => c.toInt8.toInt32)).map Value.int) (.int (0 : Int32))) ∧ (∀ c ∈ ([] : List Int32), ¬ c < 0 ∧ ¬ (255 : Int32) < c)
theorem own_efrm_i4e (m : MethodId) (a1 : Addr) (a2 : Addr) : entryFrame m #[(.ref a1), (.ref a2), (.int (0 : Int32)), (.int (0 : Int32)), .null] 6 = mkF m 0 #[.val (.ref a1), .val (.ref a2), .val (.int (0 : Int32)), .val (.int (0 : Int32)), .val .null, .unset] [] := by first | (simp [entryFrame, mkF, argsToLocals, Value.category]; done) | rfl
set_option maxRecDepth 65536 in
set_option maxHeartbeats 40000000 in
theorem own_rm_i4e (l : Launch) (Z : State) (a0 : Array Value) (hw : ∀ d ∈ tables_1, d.before a0 Z = true) (ws : List Jvm.Cond) (G1 : Int32) (G3 : Value) (k_EMPTY : Addr) (k_ENGLISH : Addr) (s_ENGLISH : Addr) (t_ENGLISH : Addr) (kb_ENGLISH : ClassId) (k_JAPANESE : Addr) (s_JAPANESE : Addr) (t_JAPANESE : Addr) (kb_JAPANESE : ClassId) (k_CHINESE : Addr) (s_CHINESE : Addr) (t_CHINESE : Addr) (kb_CHINESE : ClassId) (k_VALUES : Addr) (kv_VALUES : ClassId) (gl : own_Glob Z G1 G3 k_EMPTY k_ENGLISH s_ENGLISH t_ENGLISH kb_ENGLISH k_JAPANESE s_JAPANESE t_JAPANESE kb_JAPANESE k_CHINESE s_CHINESE t_CHINESE kb_CHINESE k_VALUES kv_VALUES) (a1 : Addr) (a2 : Addr) (h0 : Heap) (n0 : Nat) (Z0 : n0 ≤ h0.size) (P1 : Exa Z h0 a1 "java/lang/String") (P2 : Fld Z h0 a1 "java/lang/String" "value" "[B" .null) (P3 : Fld Z h0 a1 "java/lang/String" "coder" "B" (.int (0 : Int32))) (P4 : n0 ≤ a1) :
    MetFree l (⟨"java/lang/String", "<init>", "([CIILjava/lang/Void;)V"⟩ : MethodName) (head1 (Jvm.Cond.code (⟨"java/lang/String", "<init>", "([CIILjava/lang/Void;)V"⟩ : MethodName) jdk_42_method_149_code 6 none :: ws) ({ frames := 1, cells := 4, slots := 8, locals := 12 } : Room)) (fun a U => a = #[(.ref a1), (.ref a2), (.int (0 : Int32)), (.int (0 : Int32)), .null] ∧ Z.Warmed39 U.vm ∧ U.heap = h0 ∧ CHv Z consts_1 U.vm h0) (fun _ _ _ _ _ => True) (fun _ U o U' => ∃ v L, o = .returned v ∧ own_Qrm_i4e Z G1 G3 k_EMPTY k_ENGLISH s_ENGLISH t_ENGLISH kb_ENGLISH k_JAPANESE s_JAPANESE t_JAPANESE kb_JAPANESE k_CHINESE s_CHINESE t_CHINESE kb_CHINESE k_VALUES kv_VALUES a1 a2 h0 n0 v U'.heap L ∧ CHr Z consts_1 U.vm U.heap U'.vm U'.heap ∧ ReturnedEndW U o U' L ({ frames := 1, cells := 4, slots := 8, locals := 12 } : Room).cells ({ frames := 1, cells := 4, slots := 8, locals := 12 } : Room).slots) := by
  refine MetFree.of_bodySF (plainFor_of_name own_pn0) hisR ?_
  intro p e s m args below meth c s₁ Bd hml0 hP hK
  obtain ⟨rfl, hZ, hh, hCH⟩ := hP
  obtain ⟨O_CS, P_CS, O_SI, P_SI, O_EMPTY, E_EMPTY, F_EMPTY, O_ENGLISH, E_ENGLISH, Fs_ENGLISH, Es_ENGLISH, Fc_ENGLISH, Fv_ENGLISH, V_ENGLISH, O_JAPANESE, E_JAPANESE, Fs_JAPANESE, Es_JAPANESE, Fc_JAPANESE, Fv_JAPANESE, V_JAPANESE, O_CHINESE, E_CHINESE, Fs_CHINESE, Es_CHINESE, Fc_CHINESE, Fv_CHINESE, V_CHINESE, O_VALUES, E_VALUES, V_VALUES⟩ := id gl
  have hx := Bd.exec
  have hby := Bd.bytes
  have hml : c.maxLocals = 6 := hml0
  have hown : s.vm.findClass "java/lang/String" = some m.cls := findClass_of_methodNamed Bd.named
  have hnm := (name_of_methodNamed Bd.named Bd.method).1
  have X0 : Stand p l e ({ frames := 1, cells := 4, slots := 8, locals := 12 } : Room) s m #[(.ref a1), (.ref a2), (.int (0 : Int32)), (.int (0 : Int32)), .null] below meth c s₁ [] 0 0 := Stand.of_body Bd
  have e0 : s₁.heap = h0 := by rw [← hh, Bd.state]; rfl
  have N0 := Fr.nil n0
  have pre0 : ∀ t, Steps p.tables e below (s₁.setTop (mkF m 0 #[.val (.ref a1), .val (.ref a2), .val (.int (0 : Int32)), .val (.int (0 : Int32)), .val .null, .unset] [])) t → Steps p.tables e below (s₁.setTop (entryFrame m #[(.ref a1), (.ref a2), (.int (0 : Int32)), (.int (0 : Int32)), .null] 6)) t := fun t k => castTop (own_efrm_i4e m a1 a2) k
  obtain ⟨T1, X1, e1, st1⟩ := initO X0 hx hZ hown (hw _ (List.mem_of_getElem? (i := 15) rfl)) (hw _ (List.mem_of_getElem? (i := 16) rfl)) (hw _ (List.mem_of_getElem? (i := 17) rfl)) e0 (g := (mkF m 1 #[.val (.ref a1), .val (.ref a2), .val (.int (0 : Int32)), .val (.int (0 : Int32)), .val .null, .unset] [(.ref a1)])) rfl (by rw [hml]; rfl) rfl (hb hby own_d_jdk_42_method_149_1) (by decide) (W := 0) (by show 2 * 0 + _ ≤ _; exact Nat.le_of_eq rfl) (by decide)
  obtain ⟨la2, T2, h2, kS2, lb2, lk2, X2, e2, E2, hS2, hk2, hZ2, hown2, Ea2, Ca2, Va2, Ba2, lt2, ltb2, hC2, hL2, hne2, st2⟩ := ldcCH (s := s) (vm0 := s.vm) X1 hx hZ hown (hw _ (List.mem_of_getElem? (i := 18) rfl)) (fun d hd => hw d (own_strAtoms d hd)) e1 ((State.WarmedH.refl s).since 0) (Nat.zero_le _) (own_EW hw) (by decide) hCH (vs := ((([] : List Int32).map (fun c => c.toInt8.toInt32)).map Value.int)) (z := (0 : Int32)) ⟨by decide, rfl⟩ (by decide) rfl (g := (mkF m 9 #[.val (.ref a1), .val (.ref a2), .val (.int (0 : Int32)), .val (.int (0 : Int32)), .val .null, .unset] [(.ref a1)])) rfl (hb hby own_d_jdk_42_method_149_9) (n := 0) (by decide) (by decide) (by decide) (by decide)
  have Kp3 : Keep h0 h2 [a1] := (Keep.refl h0 [a1]).ext E2
  obtain ⟨T4, X4, e4, st4⟩ := getF X2 hx hZ2 hown2 (host := "") (Or.inl (hw _ (List.mem_of_getElem? (i := 24) rfl))) Via.refl e2 Va2 (g := (mkF m 11 #[.val (.ref a1), .val (.ref a2), .val (.int (0 : Int32)), .val (.int (0 : Int32)), .val .null, .unset] [(.ref la2), (.ref a1)])) rfl rfl (hb hby own_d_jdk_42_method_149_11)
  have Eh5 : Exa Z h2 a1 "java/lang/String" := (P1.ext E2)
  have Fh6 : Fld Z h2 a1 "java/lang/String" "value" "[B" .null := (P2.ext E2)
  obtain ⟨T7, h7, X7, e7, W7, st7⟩ := putF X4 hx hZ2 hown2 (host := "") (Or.inl (hw _ (List.mem_of_getElem? (i := 24) rfl))) Via.refl e4 Fh6 Eh5 (Or.inr ⟨(hw _ (List.mem_of_getElem? (i := 20) rfl)), rfl, hnm⟩) (hw _ (List.mem_of_getElem? (i := 5) rfl)) (ty := (.array .byte)) (by decide) rfl rfl (g := (mkF m 14 #[.val (.ref a1), .val (.ref a2), .val (.int (0 : Int32)), .val (.int (0 : Int32)), .val .null, .unset] [(.ref lb2), (.ref a1)])) rfl rfl (hb hby own_d_jdk_42_method_149_14)
  have Kp8 : Keep h0 h7 [a1] := Kp3.wr W7 (Or.inl (List.mem_of_getElem? (i := 0) rfl))
  obtain ⟨Lp7, X7, N7⟩ := own_pack X7 (Fr.snoc X7 N0 P4)
  have Fh9 : Fld Z h7 a1 "java/lang/String" "value" "[B" (.ref lb2) := Fh6.same W7
  have CH11 : CHv Z consts_1 T2.vm h7 := (CHv.wr W7 (own_safeS hZ2.alike Eh5 (P2.ext E2)) hC2.1)
  have CR12 := ((CHr.refl hCH).trans hC2).trans (CHr.wr W7 (own_safeS hZ2.alike Eh5 (P2.ext E2)) hC2.1)
  obtain ⟨la10, T10, h10, kS10, lb10, lk10, X10, e10, E10, hS10, hk10, hZ10, hown10, Ea10, Ca10, Va10, Ba10, lt10, ltb10, hC10, hL10, hne10, st10⟩ := ldcCH (s := s) (vm0 := T2.vm) X7 hx hZ2 hown2 (hw _ (List.mem_of_getElem? (i := 18) rfl)) (fun d hd => hw d (own_strAtoms d hd)) e7 hS2 (Nat.le_trans hk2 (Keep.of_wr W7).1) (own_EW hw) (by decide) CH11 (vs := ((([] : List Int32).map (fun c => c.toInt8.toInt32)).map Value.int)) (z := (0 : Int32)) ⟨by decide, rfl⟩ (by decide) rfl (g := (mkF m 18 #[.val (.ref a1), .val (.ref a2), .val (.int (0 : Int32)), .val (.int (0 : Int32)), .val .null, .unset] [(.ref a1)])) rfl (hb hby own_d_jdk_42_method_149_18) (n := 0) (by decide) (by decide) (by decide) (by decide)
  have Kp13 : Keep h0 h10 [a1] := Kp8.ext E10
  obtain ⟨T14, X14, e14, st14⟩ := getF X10 hx hZ10 hown10 (host := "") (Or.inl (hw _ (List.mem_of_getElem? (i := 25) rfl))) Via.refl e10 Ca10 (g := (mkF m 20 #[.val (.ref a1), .val (.ref a2), .val (.int (0 : Int32)), .val (.int (0 : Int32)), .val .null, .unset] [(.ref la10), (.ref a1)])) rfl rfl (hb hby own_d_jdk_42_method_149_20)
  have Eh15 : Exa Z h10 a1 "java/lang/String" := ((Eh5.wr W7).ext E10)
  have Fh16 : Fld Z h10 a1 "java/lang/String" "coder" "B" (.int (0 : Int32)) := (((P3.ext E2).other W7 (Or.inr (slot_ne (Or.inr (hw _ (List.mem_of_getElem? (i := 21) rfl))) (Or.inr (hw _ (List.mem_of_getElem? (i := 20) rfl))) (by decide) (t := .byte) (t' := (.array .byte)) (by decide) (by decide)))).ext E10)
  obtain ⟨T17, h17, X17, e17, W17, st17⟩ := putFN X14 hx hZ10 hown10 (hw _ (List.mem_of_getElem? (i := 25) rfl)) Via.refl e14 Fh16 Eh15 (Or.inr ⟨(hw _ (List.mem_of_getElem? (i := 21) rfl)), rfl, hnm⟩) (hw _ (List.mem_of_getElem? (i := 5) rfl)) (ty := .byte) (v' := (.int (0 : Int32))) (by decide) rfl rfl (g := (mkF m 23 #[.val (.ref a1), .val (.ref a2), .val (.int (0 : Int32)), .val (.int (0 : Int32)), .val .null, .unset] [(.int (0 : Int32)), (.ref a1)])) rfl rfl (hb hby own_d_jdk_42_method_149_23)
  have Kp18 : Keep h0 h17 [a1] := Kp13.wr W17 (Or.inl (List.mem_of_getElem? (i := 0) rfl))
  obtain ⟨Lp17, X17, N17⟩ := own_pack X17 (Fr.snoc X17 N7 P4)
  have Fh19 : Fld Z h17 a1 "java/lang/String" "coder" "B" (.int (0 : Int32)) := Fh16.same W17
  have Eh20 : Exa Z h17 a1 "java/lang/String" := (Eh15.wr W17)
  have Fh21 : Fld Z h17 a1 "java/lang/String" "value" "[B" (.ref lb2) := ((Fh9.ext E10).other W17 (Or.inr (slot_ne (Or.inr (hw _ (List.mem_of_getElem? (i := 20) rfl))) (Or.inr (hw _ (List.mem_of_getElem? (i := 21) rfl))) (by decide) (t := (.array .byte)) (t' := .byte) (by decide) (by decide))))
  have Vh22 : Arv Z h17 lb2 lk2 .byte (0 : Int32) ((([] : List Int32).map (fun c => c.toInt8.toInt32)).map Value.int) (.int (0 : Int32)) := (((Ba2.other W7 (Ne.symm (hne2 a1 (own_safeS hZ2.alike Eh5 (P2.ext E2))).2)).ext E10).other W17 (Ne.symm (hne2 a1 (own_safeS hZ2.alike Eh5 (P2.ext E2))).2))
  have hph23 : ∀ c ∈ ([] : List Int32), ¬ c < 0 ∧ ¬ (255 : Int32) < c := own_c0
  have CR24 := (CR12.trans hC10).trans (CHr.wr W17 (CHr.safe hC10 (Eh5.wr W7).lt (Safe.wr W7 (own_safeS hZ2.alike Eh5 (P2.ext E2)) hC2.1 (own_safeS hZ2.alike Eh5 (P2.ext E2)))) hC10.1)
  have CH25 : CHv Z consts_1 T10.vm h17 := (CHv.wr W17 (CHr.safe hC10 (Eh5.wr W7).lt (Safe.wr W7 (own_safeS hZ2.alike Eh5 (P2.ext E2)) hC2.1 (own_safeS hZ2.alike Eh5 (P2.ext E2)))) hC10.1)
  have hCRf : CHr Z consts_1 s.vm s.heap T17.vm T17.heap := by rw [hh, e17]; exact CR24.trans (CHv.at (vm0 := T10.vm) X17 hZ10 (own_EW hw) CH25)
  obtain ⟨fs, hr, hrun, hended, hREW⟩ := X17.leaveW hS10 (by rw [e17]; exact (Nat.le_trans hk10 (Keep.of_wr W17).1)) (v := none) (fun _ => rfl)
  refine ⟨_, _, pre0 _ ?_, hrun, hended, _, _, rfl, ?_, hCRf, hREW.1, hREW.2.1, hREW.2.2.1, hREW.2.2.2.mono (by decide) (by decide)⟩
  · show Steps p.tables e below (s₁.setTop (mkF m 0 #[.val (.ref a1), .val (.ref a2), .val (.int (0 : Int32)), .val (.int (0 : Int32)), .val .null, .unset] [])) _
    refine XS.aloadN X0.here hx rfl (hb hby own_d_jdk_42_method_149_0) rfl rfl ?_
    show Steps p.tables e below (s₁.setTop (mkF m 1 #[.val (.ref a1), .val (.ref a2), .val (.int (0 : Int32)), .val (.int (0 : Int32)), .val .null, .unset] [(.ref a1)])) _
    refine st1 _ ?_
    show Steps p.tables e below (T1.setTop (mkF m 4 #[.val (.ref a1), .val (.ref a2), .val (.int (0 : Int32)), .val (.int (0 : Int32)), .val .null, .unset] [])) _
    refine XS.iloadN X1.here hx rfl (hb hby own_d_jdk_42_method_149_4) rfl ?_
    show Steps p.tables e below (T1.setTop (mkF m 5 #[.val (.ref a1), .val (.ref a2), .val (.int (0 : Int32)), .val (.int (0 : Int32)), .val .null, .unset] [(.int (0 : Int32))])) _
    refine XS.ifNo X1.here hx rfl (hb hby own_d_jdk_42_method_149_5) rfl ((if0 _ _).trans (teq (rfl : (0 : Int32) = (0 : Int32))).2) ?_
    show Steps p.tables e below (T1.setTop (mkF m 8 #[.val (.ref a1), .val (.ref a2), .val (.int (0 : Int32)), .val (.int (0 : Int32)), .val .null, .unset] [])) _
    refine XS.aloadN X1.here hx rfl (hb hby own_d_jdk_42_method_149_8) rfl rfl ?_
    show Steps p.tables e below (T1.setTop (mkF m 9 #[.val (.ref a1), .val (.ref a2), .val (.int (0 : Int32)), .val (.int (0 : Int32)), .val .null, .unset] [(.ref a1)])) _
    refine st2 _ ?_
    show Steps p.tables e below (T2.setTop (mkF m 11 #[.val (.ref a1), .val (.ref a2), .val (.int (0 : Int32)), .val (.int (0 : Int32)), .val .null, .unset] [(.ref la2), (.ref a1)])) _
    refine st4 _ ?_
    show Steps p.tables e below (T4.setTop (mkF m 14 #[.val (.ref a1), .val (.ref a2), .val (.int (0 : Int32)), .val (.int (0 : Int32)), .val .null, .unset] [(.ref lb2), (.ref a1)])) _
    refine st7 _ ?_
    show Steps p.tables e below (T7.setTop (mkF m 17 #[.val (.ref a1), .val (.ref a2), .val (.int (0 : Int32)), .val (.int (0 : Int32)), .val .null, .unset] [])) _
    refine XS.aloadN X7.here hx rfl (hb hby own_d_jdk_42_method_149_17) rfl rfl ?_
    show Steps p.tables e below (T7.setTop (mkF m 18 #[.val (.ref a1), .val (.ref a2), .val (.int (0 : Int32)), .val (.int (0 : Int32)), .val .null, .unset] [(.ref a1)])) _
    refine st10 _ ?_
    show Steps p.tables e below (T10.setTop (mkF m 20 #[.val (.ref a1), .val (.ref a2), .val (.int (0 : Int32)), .val (.int (0 : Int32)), .val .null, .unset] [(.ref la10), (.ref a1)])) _
    refine st14 _ ?_
    show Steps p.tables e below (T14.setTop (mkF m 23 #[.val (.ref a1), .val (.ref a2), .val (.int (0 : Int32)), .val (.int (0 : Int32)), .val .null, .unset] [(.int (0 : Int32)), (.ref a1)])) _
    refine st17 _ ?_
    show Steps p.tables e below (T17.setTop (mkF m 26 #[.val (.ref a1), .val (.ref a2), .val (.int (0 : Int32)), .val (.int (0 : Int32)), .val .null, .unset] [])) _
    exact X17.returnOut hx Bd.returns (hb hby own_d_jdk_42_method_149_26) hr
  · show own_Qrm_i4e Z G1 G3 k_EMPTY k_ENGLISH s_ENGLISH t_ENGLISH kb_ENGLISH k_JAPANESE s_JAPANESE t_JAPANESE kb_JAPANESE k_CHINESE s_CHINESE t_CHINESE kb_CHINESE k_VALUES kv_VALUES a1 a2 h0 n0 _ T17.heap _
    rw [e17]
    exact ⟨lb2, lk2, rfl, N17, Kp18, Eh20, Fh21, Fh19, Vh22, hph23⟩
theorem own_d_jdk_42_method_3_0 : decode jdk_42_method_3_code 0 = .ok (.aload_n 0, 1) := by decide +kernel
theorem own_d_jdk_42_method_3_1 : decode jdk_42_method_3_code 1 = .ok (.aload_n 1, 1) := by decide +kernel
theorem own_d_jdk_42_method_3_2 : decode jdk_42_method_3_code 2 = .ok (.iconst 0, 1) := by decide +kernel
theorem own_d_jdk_42_method_3_3 : decode jdk_42_method_3_code 3 = .ok (.aload_n 1, 1) := by decide +kernel
theorem own_d_jdk_42_method_3_4 : decode jdk_42_method_3_code 4 = .ok (.arraylength, 1) := by decide +kernel
theorem own_d_jdk_42_method_3_5 : decode jdk_42_method_3_code 5 = .ok (.aconst_null, 1) := by decide +kernel
theorem own_d_jdk_42_method_3_6 : decode jdk_42_method_3_code 6 = .ok (.invokespecial 27, 3) := by decide +kernel
theorem own_pd1 : parseMethodDescriptor "([CIILjava/lang/Void;)V" = some ⟨[(.array .char), .int, .int, (.object "java/lang/Void")], none⟩ := by decide +kernel
theorem own_d_jdk_42_method_3_9 : decode jdk_42_method_3_code 9 = .ok (.return_, 1) := by decide +kernel
def own_Qrm_i1e (Z : State) (G1 : Int32) (G3 : Value) (k_EMPTY : Addr) (k_ENGLISH : Addr) (s_ENGLISH : Addr) (t_ENGLISH : Addr) (kb_ENGLISH : ClassId) (k_JAPANESE : Addr) (s_JAPANESE : Addr) (t_JAPANESE : Addr) (kb_JAPANESE : ClassId) (k_CHINESE : Addr) (s_CHINESE : Addr) (t_CHINESE : Addr) (kb_CHINESE : ClassId) (k_VALUES : Addr) (kv_VALUES : ClassId) (a1 : Addr) (a2 : Addr) (k3 : ClassId) (h0 : Heap) (n0 : Nat) (v : Option Value) (h : Heap) (L : List Loc) : Prop := ∃ (lb2_2 : Addr), ∃ (lk2_2 : ClassId), (v = none) ∧ (Fr n0 L) ∧ (Keep h0 h [a1]) ∧ (Exa Z h a1 "java/lang/String") ∧ (Fld Z h a1 "java/lang/String" "value" "[B" (.ref lb2_2)) ∧ (Fld Z h a1 "java/lang/String" "coder" "B" (.int (0 : Int32))) ∧ (Arv Z h lb2_2 lk2_2 .byte (0 : Int32) ((([] : List Int32).map (fun c => c.toInt8.toInt32)).map Value.int) (.int (0 : Int32))) ∧ (∀ c ∈ ([] : List Int32), ¬ c < 0 ∧ ¬ (255 : Int32) < c)
theorem own_efrm_i1e (m : MethodId) (a1 : Addr) (a2 : Addr) : entryFrame m #[(.ref a1), (.ref a2)] 2 = mkF m 0 #[.val (.ref a1), .val (.ref a2)] [] := by first | (simp [entryFrame, mkF, argsToLocals, Value.category]; done) | rfl
set_option maxRecDepth 65536 in
set_option maxHeartbeats 40000000 in
theorem own_rm_i1e (l : Launch) (Z : State) (a0 : Array Value) (hw : ∀ d ∈ tables_1, d.before a0 Z = true) (ws : List Jvm.Cond) (G1 : Int32) (G3 : Value) (k_EMPTY : Addr) (k_ENGLISH : Addr) (s_ENGLISH : Addr) (t_ENGLISH : Addr) (kb_ENGLISH : ClassId) (k_JAPANESE : Addr) (s_JAPANESE : Addr) (t_JAPANESE : Addr) (kb_JAPANESE : ClassId) (k_CHINESE : Addr) (s_CHINESE : Addr) (t_CHINESE : Addr) (kb_CHINESE : ClassId) (k_VALUES : Addr) (kv_VALUES : ClassId) (gl : own_Glob Z G1 G3 k_EMPTY k_ENGLISH s_ENGLISH t_ENGLISH kb_ENGLISH k_JAPANESE s_JAPANESE t_JAPANESE kb_JAPANESE k_CHINESE s_CHINESE t_CHINESE kb_CHINESE k_VALUES kv_VALUES) (a1 : Addr) (a2 : Addr) (k3 : ClassId) (h0 : Heap) (n0 : Nat) (Z0 : n0 ≤ h0.size) (P1 : Exa Z h0 a1 "java/lang/String") (P2 : Fld Z h0 a1 "java/lang/String" "value" "[B" .null) (P3 : Fld Z h0 a1 "java/lang/String" "coder" "B" (.int (0 : Int32))) (P4 : Arv Z h0 a2 k3 .char (0 : Int32) [] (.int (0 : Int32))) (P5 : n0 ≤ a1) :
    MetFree l (⟨"java/lang/String", "<init>", "([C)V"⟩ : MethodName) (head1 (Jvm.Cond.code (⟨"java/lang/String", "<init>", "([C)V"⟩ : MethodName) jdk_42_method_3_code 2 none :: ws) ({ frames := 2, cells := 4, slots := 8, locals := 29 } : Room)) (fun a U => a = #[(.ref a1), (.ref a2)] ∧ Z.Warmed39 U.vm ∧ U.heap = h0 ∧ CHv Z consts_1 U.vm h0) (fun _ _ _ _ _ => True) (fun _ U o U' => ∃ v L, o = .returned v ∧ own_Qrm_i1e Z G1 G3 k_EMPTY k_ENGLISH s_ENGLISH t_ENGLISH kb_ENGLISH k_JAPANESE s_JAPANESE t_JAPANESE kb_JAPANESE k_CHINESE s_CHINESE t_CHINESE kb_CHINESE k_VALUES kv_VALUES a1 a2 k3 h0 n0 v U'.heap L ∧ CHr Z consts_1 U.vm U.heap U'.vm U'.heap ∧ ReturnedEndW U o U' L ({ frames := 2, cells := 4, slots := 8, locals := 29 } : Room).cells ({ frames := 2, cells := 4, slots := 8, locals := 29 } : Room).slots) := by
  refine MetFree.of_bodySF (plainFor_of_name own_pn0) hisR ?_
  intro p e s m args below meth c s₁ Bd hml0 hP hK
  obtain ⟨rfl, hZ, hh, hCH⟩ := hP
  obtain ⟨O_CS, P_CS, O_SI, P_SI, O_EMPTY, E_EMPTY, F_EMPTY, O_ENGLISH, E_ENGLISH, Fs_ENGLISH, Es_ENGLISH, Fc_ENGLISH, Fv_ENGLISH, V_ENGLISH, O_JAPANESE, E_JAPANESE, Fs_JAPANESE, Es_JAPANESE, Fc_JAPANESE, Fv_JAPANESE, V_JAPANESE, O_CHINESE, E_CHINESE, Fs_CHINESE, Es_CHINESE, Fc_CHINESE, Fv_CHINESE, V_CHINESE, O_VALUES, E_VALUES, V_VALUES⟩ := id gl
  have hx := Bd.exec
  have hby := Bd.bytes
  have hml : c.maxLocals = 2 := hml0
  have hown : s.vm.findClass "java/lang/String" = some m.cls := findClass_of_methodNamed Bd.named
  have hnm := (name_of_methodNamed Bd.named Bd.method).1
  have X0 : Stand p l e ({ frames := 2, cells := 4, slots := 8, locals := 29 } : Room) s m #[(.ref a1), (.ref a2)] below meth c s₁ [] 0 0 := Stand.of_body Bd
  have e0 : s₁.heap = h0 := by rw [← hh, Bd.state]; rfl
  have N0 := Fr.nil n0
  have pre0 : ∀ t, Steps p.tables e below (s₁.setTop (mkF m 0 #[.val (.ref a1), .val (.ref a2)] [])) t → Steps p.tables e below (s₁.setTop (entryFrame m #[(.ref a1), (.ref a2)] 2)) t := fun t k => castTop (own_efrm_i1e m a1 a2) k
  obtain ⟨cl1, Ar1, -, Sz1, Ng1, -, -⟩ := id P4
  obtain ⟨_, _, ⟨T2, L2, k2, n2⟩, -, X2, hSq2, hgr2, ⟨Lc2, hQ2, l2, y2, z2, hCr2⟩, st2⟩ := X0.specialBackS hx (y := (⟨"java/lang/String", "<init>", "([CIILjava/lang/Void;)V"⟩ : MethodName)) rfl hown (mvT hZ (hw _ (List.mem_of_getElem? (i := 11) rfl))) (mvT hZ (hw _ (List.mem_of_getElem? (i := 12) rfl))) (mvT hZ (hw _ (List.mem_of_getElem? (i := 14) rfl))) (by decide) (backOfSH (s := s) (vm0 := s.vm) (W := 0) (own_rm_i4e l Z a0 hw [] G1 G3 k_EMPTY k_ENGLISH s_ENGLISH t_ENGLISH kb_ENGLISH k_JAPANESE s_JAPANESE t_JAPANESE kb_JAPANESE k_CHINESE s_CHINESE t_CHINESE kb_CHINESE k_VALUES kv_VALUES gl a1 a2 h0 n0 Z0 P1 P2 P3 P5) hZ (hw _ (List.mem_of_getElem? (i := 14) rfl)) (hw _ (List.mem_of_getElem? (i := 6) rfl)) (by decide) (by decide) (own_EW hw) hCH) (g := (mkF m 6 #[.val (.ref a1), .val (.ref a2)] [.null, (.int (0 : Int32)), (.int (0 : Int32)), (.ref a2), (.ref a1)])) rfl (by rw [hml]; rfl) (Steps.refl _) (a := a1) (argsL := [(.ref a2), (.int (0 : Int32)), (.int (0 : Int32)), .null]) (rest := []) (lenOf own_pd1 rfl) rfl (by show 2 * 0 + _ ≤ _; exact Nat.le_of_eq rfl) (hb hby own_d_jdk_42_method_3_6) (fun _ _ => ⟨rfl, e0, (by decide : 0 + 4 ≤ _), (by decide : 0 + 8 ≤ _)⟩)
  dsimp only [Pt.U, Pt.locs, Pt.cells, Pt.slots] at X2 l2 y2 z2 st2 hQ2 hSq2 hgr2 hCr2
  subst y2 z2
  obtain ⟨Xw2, hS2, hZ2, hown2⟩ := rebS (vm0 := s.vm) ((State.WarmedH.refl s).since 0) (by rw [e0]; exact (Nat.zero_le _)) X2 hSq2 hgr2 hZ hown
  obtain ⟨lb2_2, lk2_2, rfl, Nq2, Kq2, f2_0, f2_1, f2_2, f2_3, f2_4⟩ := hQ2
  have N2 : Fr n0 L2 := by rw [l2]; exact Fr.app N0 Nq2
  have Kp3 : Keep h0 T2.heap [a1] := (Keep.refl h0 [a1]).trans Kq2 (allS (Or.inl (List.mem_of_getElem? (i := 0) rfl)) all0)
  have hCRf : CHr Z consts_1 s.vm s.heap T2.vm T2.heap := by rw [hh]; exact ((CHr.refl hCH).trans hCr2).trans (CHv.at (vm0 := T2.vm) Xw2 hZ2 (own_EW hw) hCr2.1)
  obtain ⟨fs, hr, hrun, hended, hREW⟩ := Xw2.leaveW hS2 (Nat.le_refl _) (v := none) (fun _ => rfl)
  refine ⟨_, _, pre0 _ ?_, hrun, hended, _, _, rfl, ?_, hCRf, hREW.1, hREW.2.1, hREW.2.2.1, hREW.2.2.2.mono (by decide) (by decide)⟩
  · show Steps p.tables e below (s₁.setTop (mkF m 0 #[.val (.ref a1), .val (.ref a2)] [])) _
    refine XS.aloadN X0.here hx rfl (hb hby own_d_jdk_42_method_3_0) rfl rfl ?_
    show Steps p.tables e below (s₁.setTop (mkF m 1 #[.val (.ref a1), .val (.ref a2)] [(.ref a1)])) _
    refine XS.aloadN X0.here hx rfl (hb hby own_d_jdk_42_method_3_1) rfl rfl ?_
    show Steps p.tables e below (s₁.setTop (mkF m 2 #[.val (.ref a1), .val (.ref a2)] [(.ref a2), (.ref a1)])) _
    refine XS.iconst X0.here hx rfl (hb hby own_d_jdk_42_method_3_2) ?_
    show Steps p.tables e below (s₁.setTop (mkF m 3 #[.val (.ref a1), .val (.ref a2)] [(.int (0 : Int32)), (.ref a2), (.ref a1)])) _
    refine XS.aloadN X0.here hx rfl (hb hby own_d_jdk_42_method_3_3) rfl rfl ?_
    show Steps p.tables e below (s₁.setTop (mkF m 4 #[.val (.ref a1), .val (.ref a2)] [(.ref a2), (.int (0 : Int32)), (.ref a2), (.ref a1)])) _
    refine X0.arraylength hx (by rw [e0]; exact Ar1.1) (State.isArrayOf_alike hZ.alike Ar1.2.1) (g := (mkF m 4 #[.val (.ref a1), .val (.ref a2)] [(.ref a2), (.int (0 : Int32)), (.ref a2), (.ref a1)])) rfl rfl (hb hby own_d_jdk_42_method_3_4) _ ?_
    rw [len_of Sz1 Ng1]
    show Steps p.tables e below (s₁.setTop (mkF m 5 #[.val (.ref a1), .val (.ref a2)] [(.int (0 : Int32)), (.int (0 : Int32)), (.ref a2), (.ref a1)])) _
    refine XS.aconstNull X0.here hx rfl (hb hby own_d_jdk_42_method_3_5) ?_
    show Steps p.tables e below (s₁.setTop (mkF m 6 #[.val (.ref a1), .val (.ref a2)] [.null, (.int (0 : Int32)), (.int (0 : Int32)), (.ref a2), (.ref a1)])) _
    refine st2.trans ?_
    show Steps p.tables e below (T2.setTop (mkF m 9 #[.val (.ref a1), .val (.ref a2)] [])) _
    exact Xw2.returnOut hx Bd.returns (hb hby own_d_jdk_42_method_3_9) hr
  · show own_Qrm_i1e Z G1 G3 k_EMPTY k_ENGLISH s_ENGLISH t_ENGLISH kb_ENGLISH k_JAPANESE s_JAPANESE t_JAPANESE kb_JAPANESE k_CHINESE s_CHINESE t_CHINESE kb_CHINESE k_VALUES kv_VALUES a1 a2 k3 h0 n0 _ T2.heap _
    exact ⟨lb2_2, lk2_2, rfl, N2, Kp3, f2_0, f2_1, f2_2, f2_3, f2_4⟩
theorem own_d_jdk_31_method_10_0 : decode jdk_31_method_10_code 0 = .ok (.aload_n 0, 1) := by decide +kernel
theorem own_d_jdk_31_method_10_1 : decode jdk_31_method_10_code 1 = .ok (.ifnonnull 11, 3) := by decide +kernel
theorem own_d_jdk_31_method_10_12 : decode jdk_31_method_10_code 12 = .ok (.aload_n 0, 1) := by decide +kernel
theorem own_d_jdk_31_method_10_13 : decode jdk_31_method_10_code 13 = .ok (.areturn, 1) := by decide +kernel
theorem own_pn2 : plainName "java/util/Objects" = true := by first | (simp [plainName, overriddenIn]; done) | decide +kernel
def own_Qrm_rn1 (Z : State) (G1 : Int32) (G3 : Value) (k_EMPTY : Addr) (k_ENGLISH : Addr) (s_ENGLISH : Addr) (t_ENGLISH : Addr) (kb_ENGLISH : ClassId) (k_JAPANESE : Addr) (s_JAPANESE : Addr) (t_JAPANESE : Addr) (kb_JAPANESE : ClassId) (k_CHINESE : Addr) (s_CHINESE : Addr) (t_CHINESE : Addr) (kb_CHINESE : ClassId) (k_VALUES : Addr) (kv_VALUES : ClassId) (a1 : Addr) (h0 : Heap) (n0 : Nat) (v : Option Value) (h : Heap) (L : List Loc) : Prop := (v = some (.ref a1)) ∧ (Fr n0 L) ∧ (h = h0)
theorem own_efrm_rn1 (m : MethodId) (a1 : Addr) : entryFrame m #[(.ref a1)] 1 = mkF m 0 #[.val (.ref a1)] [] := by first | (simp [entryFrame, mkF, argsToLocals, Value.category]; done) | rfl
set_option maxRecDepth 65536 in
set_option maxHeartbeats 40000000 in
theorem own_rm_rn1 (l : Launch) (Z : State) (a0 : Array Value) (hw : ∀ d ∈ tables_1, d.before a0 Z = true) (ws : List Jvm.Cond) (G1 : Int32) (G3 : Value) (k_EMPTY : Addr) (k_ENGLISH : Addr) (s_ENGLISH : Addr) (t_ENGLISH : Addr) (kb_ENGLISH : ClassId) (k_JAPANESE : Addr) (s_JAPANESE : Addr) (t_JAPANESE : Addr) (kb_JAPANESE : ClassId) (k_CHINESE : Addr) (s_CHINESE : Addr) (t_CHINESE : Addr) (kb_CHINESE : ClassId) (k_VALUES : Addr) (kv_VALUES : ClassId) (gl : own_Glob Z G1 G3 k_EMPTY k_ENGLISH s_ENGLISH t_ENGLISH kb_ENGLISH k_JAPANESE s_JAPANESE t_JAPANESE kb_JAPANESE k_CHINESE s_CHINESE t_CHINESE kb_CHINESE k_VALUES kv_VALUES) (a1 : Addr) (h0 : Heap) (n0 : Nat) (Z0 : n0 ≤ h0.size) :
    MetFree l (⟨"java/util/Objects", "requireNonNull", "(Ljava/lang/Object;)Ljava/lang/Object;"⟩ : MethodName) (head1 (Jvm.Cond.code (⟨"java/util/Objects", "requireNonNull", "(Ljava/lang/Object;)Ljava/lang/Object;"⟩ : MethodName) jdk_31_method_10_code 1 (some (.object "java/lang/Object")) :: ws) ({ frames := 0, cells := 0, slots := 0, locals := 0 } : Room)) (fun a U => a = #[(.ref a1)] ∧ Z.Warmed39 U.vm ∧ U.heap = h0) (fun _ _ _ _ _ => True) (fun _ U o U' => ∃ v L, o = .returned v ∧ own_Qrm_rn1 Z G1 G3 k_EMPTY k_ENGLISH s_ENGLISH t_ENGLISH kb_ENGLISH k_JAPANESE s_JAPANESE t_JAPANESE kb_JAPANESE k_CHINESE s_CHINESE t_CHINESE kb_CHINESE k_VALUES kv_VALUES a1 h0 n0 v U'.heap L ∧ FrameEnd U o U' L ({ frames := 0, cells := 0, slots := 0, locals := 0 } : Room).cells ({ frames := 0, cells := 0, slots := 0, locals := 0 } : Room).slots) := by
  refine MetFree.of_bodySF (plainFor_of_name own_pn2) hisR ?_
  intro p e s m args below meth c s₁ Bd hml0 hP hK
  obtain ⟨rfl, hZ, hh⟩ := hP
  obtain ⟨O_CS, P_CS, O_SI, P_SI, O_EMPTY, E_EMPTY, F_EMPTY, O_ENGLISH, E_ENGLISH, Fs_ENGLISH, Es_ENGLISH, Fc_ENGLISH, Fv_ENGLISH, V_ENGLISH, O_JAPANESE, E_JAPANESE, Fs_JAPANESE, Es_JAPANESE, Fc_JAPANESE, Fv_JAPANESE, V_JAPANESE, O_CHINESE, E_CHINESE, Fs_CHINESE, Es_CHINESE, Fc_CHINESE, Fv_CHINESE, V_CHINESE, O_VALUES, E_VALUES, V_VALUES⟩ := id gl
  have hx := Bd.exec
  have hby := Bd.bytes
  have hml : c.maxLocals = 1 := hml0
  have hown : s.vm.findClass "java/util/Objects" = some m.cls := findClass_of_methodNamed Bd.named
  have hnm := (name_of_methodNamed Bd.named Bd.method).1
  have X0 : Stand p l e ({ frames := 0, cells := 0, slots := 0, locals := 0 } : Room) s m #[(.ref a1)] below meth c s₁ [] 0 0 := Stand.of_body Bd
  have e0 : s₁.heap = h0 := by rw [← hh, Bd.state]; rfl
  have N0 := Fr.nil n0
  have pre0 : ∀ t, Steps p.tables e below (s₁.setTop (mkF m 0 #[.val (.ref a1)] [])) t → Steps p.tables e below (s₁.setTop (entryFrame m #[(.ref a1)] 1)) t := fun t k => castTop (own_efrm_rn1 m a1) k
  obtain ⟨fs, hr, hrun, hended, hW, hsame⟩ := X0.leave (v := some (.ref a1)) (fun h => by rw [Bd.returns] at h; cases h)
  refine ⟨_, _, pre0 _ ?_, hrun, hended, _, _, rfl, ?_, ⟨_, rfl⟩, hW, hsame.mono (by decide) (by decide)⟩
  · show Steps p.tables e below (s₁.setTop (mkF m 0 #[.val (.ref a1)] [])) _
    refine XS.aloadN X0.here hx rfl (hb hby own_d_jdk_31_method_10_0) rfl rfl ?_
    show Steps p.tables e below (s₁.setTop (mkF m 1 #[.val (.ref a1)] [(.ref a1)])) _
    refine XS.ifnonnullYes X0.here hx rfl (pc0 := 1) (pc' := 12) rfl (hb hby own_d_jdk_31_method_10_1) rfl (by decide) (by decide) ?_
    show Steps p.tables e below (s₁.setTop (mkF m 12 #[.val (.ref a1)] [])) _
    refine XS.aloadN X0.here hx rfl (hb hby own_d_jdk_31_method_10_12) rfl rfl ?_
    show Steps p.tables e below (s₁.setTop (mkF m 13 #[.val (.ref a1)] [(.ref a1)])) _
    jvm_step X0.here [X0.here.top, hx, (hb hby own_d_jdk_31_method_10_13), X0.method', Bd.returns, Value.isRef, FieldType.isReference]
    first | (intro acts; rw [hr _ acts rfl rfl rfl]) | rw [hr _ _ rfl rfl rfl]
    exact Steps.refl _
  · show own_Qrm_rn1 Z G1 G3 k_EMPTY k_ENGLISH s_ENGLISH t_ENGLISH kb_ENGLISH k_JAPANESE s_JAPANESE t_JAPANESE kb_JAPANESE k_CHINESE s_CHINESE t_CHINESE kb_CHINESE k_VALUES kv_VALUES a1 h0 n0 _ s₁.heap _
    rw [e0]
    exact ⟨rfl, N0, rfl⟩
theorem own_d_jdk_32_method_2_0 : decode jdk_32_method_2_code 0 = .ok (.aload_n 0, 1) := by decide +kernel
theorem own_d_jdk_32_method_2_1 : decode jdk_32_method_2_code 1 = .ok (.invokespecial 7, 3) := by decide +kernel
theorem own_d_jdk_32_method_2_4 : decode jdk_32_method_2_code 4 = .ok (.aload_n 0, 1) := by decide +kernel
theorem own_d_jdk_32_method_2_5 : decode jdk_32_method_2_code 5 = .ok (.aload_n 1, 1) := by decide +kernel
theorem own_d_jdk_32_method_2_6 : decode jdk_32_method_2_code 6 = .ok (.putfield 13, 3) := by decide +kernel
theorem own_d_jdk_32_method_2_9 : decode jdk_32_method_2_code 9 = .ok (.return_, 1) := by decide +kernel
theorem own_pn3 : plainName "java/util/Optional" = true := by first | (simp [plainName, overriddenIn]; done) | decide +kernel
def own_Qrm_opi (Z : State) (G1 : Int32) (G3 : Value) (k_EMPTY : Addr) (k_ENGLISH : Addr) (s_ENGLISH : Addr) (t_ENGLISH : Addr) (kb_ENGLISH : ClassId) (k_JAPANESE : Addr) (s_JAPANESE : Addr) (t_JAPANESE : Addr) (kb_JAPANESE : ClassId) (k_CHINESE : Addr) (s_CHINESE : Addr) (t_CHINESE : Addr) (kb_CHINESE : ClassId) (k_VALUES : Addr) (kv_VALUES : ClassId) (a1 : Addr) (a2 : Addr) (u3 : Value) (h0 : Heap) (n0 : Nat) (v : Option Value) (h : Heap) (L : List Loc) : Prop := (v = none) ∧ (Fr n0 L) ∧ (Keep h0 h [a1]) ∧ (Exa Z h a1 "java/util/Optional") ∧ (Fld Z h a1 "java/util/Optional" "value" "Ljava/lang/Object;" (.ref a2))
theorem own_efrm_opi (m : MethodId) (a1 : Addr) (a2 : Addr) : entryFrame m #[(.ref a1), (.ref a2)] 2 = mkF m 0 #[.val (.ref a1), .val (.ref a2)] [] := by first | (simp [entryFrame, mkF, argsToLocals, Value.category]; done) | rfl
set_option maxRecDepth 65536 in
set_option maxHeartbeats 40000000 in
theorem own_rm_opi (l : Launch) (Z : State) (a0 : Array Value) (hw : ∀ d ∈ tables_1, d.before a0 Z = true) (ws : List Jvm.Cond) (G1 : Int32) (G3 : Value) (k_EMPTY : Addr) (k_ENGLISH : Addr) (s_ENGLISH : Addr) (t_ENGLISH : Addr) (kb_ENGLISH : ClassId) (k_JAPANESE : Addr) (s_JAPANESE : Addr) (t_JAPANESE : Addr) (kb_JAPANESE : ClassId) (k_CHINESE : Addr) (s_CHINESE : Addr) (t_CHINESE : Addr) (kb_CHINESE : ClassId) (k_VALUES : Addr) (kv_VALUES : ClassId) (gl : own_Glob Z G1 G3 k_EMPTY k_ENGLISH s_ENGLISH t_ENGLISH kb_ENGLISH k_JAPANESE s_JAPANESE t_JAPANESE kb_JAPANESE k_CHINESE s_CHINESE t_CHINESE kb_CHINESE k_VALUES kv_VALUES) (a1 : Addr) (a2 : Addr) (u3 : Value) (h0 : Heap) (n0 : Nat) (Z0 : n0 ≤ h0.size) (P1 : Exa Z h0 a1 "java/util/Optional") (P2 : Fld Z h0 a1 "java/util/Optional" "value" "Ljava/lang/Object;" u3) (P3 : n0 ≤ a1) :
    MetFree l (⟨"java/util/Optional", "<init>", "(Ljava/lang/Object;)V"⟩ : MethodName) (head1 (Jvm.Cond.code (⟨"java/util/Optional", "<init>", "(Ljava/lang/Object;)V"⟩ : MethodName) jdk_32_method_2_code 2 none :: ws) ({ frames := 1, cells := 0, slots := 0, locals := 12 } : Room)) (fun a U => a = #[(.ref a1), (.ref a2)] ∧ Z.Warmed39 U.vm ∧ U.heap = h0) (fun _ _ _ _ _ => True) (fun _ U o U' => ∃ v L, o = .returned v ∧ own_Qrm_opi Z G1 G3 k_EMPTY k_ENGLISH s_ENGLISH t_ENGLISH kb_ENGLISH k_JAPANESE s_JAPANESE t_JAPANESE kb_JAPANESE k_CHINESE s_CHINESE t_CHINESE kb_CHINESE k_VALUES kv_VALUES a1 a2 u3 h0 n0 v U'.heap L ∧ FrameEnd U o U' L ({ frames := 1, cells := 0, slots := 0, locals := 12 } : Room).cells ({ frames := 1, cells := 0, slots := 0, locals := 12 } : Room).slots) := by
  refine MetFree.of_bodySF (plainFor_of_name own_pn3) hisR ?_
  intro p e s m args below meth c s₁ Bd hml0 hP hK
  obtain ⟨rfl, hZ, hh⟩ := hP
  obtain ⟨O_CS, P_CS, O_SI, P_SI, O_EMPTY, E_EMPTY, F_EMPTY, O_ENGLISH, E_ENGLISH, Fs_ENGLISH, Es_ENGLISH, Fc_ENGLISH, Fv_ENGLISH, V_ENGLISH, O_JAPANESE, E_JAPANESE, Fs_JAPANESE, Es_JAPANESE, Fc_JAPANESE, Fv_JAPANESE, V_JAPANESE, O_CHINESE, E_CHINESE, Fs_CHINESE, Es_CHINESE, Fc_CHINESE, Fv_CHINESE, V_CHINESE, O_VALUES, E_VALUES, V_VALUES⟩ := id gl
  have hx := Bd.exec
  have hby := Bd.bytes
  have hml : c.maxLocals = 2 := hml0
  have hown : s.vm.findClass "java/util/Optional" = some m.cls := findClass_of_methodNamed Bd.named
  have hnm := (name_of_methodNamed Bd.named Bd.method).1
  have X0 : Stand p l e ({ frames := 1, cells := 0, slots := 0, locals := 12 } : Room) s m #[(.ref a1), (.ref a2)] below meth c s₁ [] 0 0 := Stand.of_body Bd
  have e0 : s₁.heap = h0 := by rw [← hh, Bd.state]; rfl
  have N0 := Fr.nil n0
  have pre0 : ∀ t, Steps p.tables e below (s₁.setTop (mkF m 0 #[.val (.ref a1), .val (.ref a2)] [])) t → Steps p.tables e below (s₁.setTop (entryFrame m #[(.ref a1), (.ref a2)] 2)) t := fun t k => castTop (own_efrm_opi m a1 a2) k
  obtain ⟨T1, X1, e1, st1⟩ := initO X0 hx hZ hown (hw _ (List.mem_of_getElem? (i := 119) rfl)) (hw _ (List.mem_of_getElem? (i := 16) rfl)) (hw _ (List.mem_of_getElem? (i := 17) rfl)) e0 (g := (mkF m 1 #[.val (.ref a1), .val (.ref a2)] [(.ref a1)])) rfl (by rw [hml]; rfl) rfl (hb hby own_d_jdk_32_method_2_1) (by decide) (W := 0) (by show 2 * 0 + _ ≤ _; exact Nat.le_of_eq rfl) (by decide)
  obtain ⟨T2, h2, X2, e2, W2, st2⟩ := putF X1 hx hZ hown (host := "") (Or.inl (hw _ (List.mem_of_getElem? (i := 71) rfl))) Via.refl e1 P2 P1 (Or.inr ⟨(hw _ (List.mem_of_getElem? (i := 72) rfl)), rfl, hnm⟩) (hw _ (List.mem_of_getElem? (i := 110) rfl)) (ty := (.object "java/lang/Object")) (by decide) rfl rfl (g := (mkF m 6 #[.val (.ref a1), .val (.ref a2)] [(.ref a2), (.ref a1)])) rfl rfl (hb hby own_d_jdk_32_method_2_6)
  have Kp3 : Keep h0 h2 [a1] := (Keep.refl h0 [a1]).wr W2 (Or.inl (List.mem_of_getElem? (i := 0) rfl))
  obtain ⟨Lp2, X2, N2⟩ := own_pack X2 (Fr.snoc X2 N0 P3)
  have Fh4 : Fld Z h2 a1 "java/util/Optional" "value" "Ljava/lang/Object;" (.ref a2) := P2.same W2
  have Eh5 : Exa Z h2 a1 "java/util/Optional" := (P1.wr W2)
  obtain ⟨fs, hr, hrun, hended, hW, hsame⟩ := X2.leave (v := none) (fun _ => rfl)
  refine ⟨_, _, pre0 _ ?_, hrun, hended, _, _, rfl, ?_, ⟨_, rfl⟩, hW, hsame.mono (by decide) (by decide)⟩
  · show Steps p.tables e below (s₁.setTop (mkF m 0 #[.val (.ref a1), .val (.ref a2)] [])) _
    refine XS.aloadN X0.here hx rfl (hb hby own_d_jdk_32_method_2_0) rfl rfl ?_
    show Steps p.tables e below (s₁.setTop (mkF m 1 #[.val (.ref a1), .val (.ref a2)] [(.ref a1)])) _
    refine st1 _ ?_
    show Steps p.tables e below (T1.setTop (mkF m 4 #[.val (.ref a1), .val (.ref a2)] [])) _
    refine XS.aloadN X1.here hx rfl (hb hby own_d_jdk_32_method_2_4) rfl rfl ?_
    show Steps p.tables e below (T1.setTop (mkF m 5 #[.val (.ref a1), .val (.ref a2)] [(.ref a1)])) _
    refine XS.aloadN X1.here hx rfl (hb hby own_d_jdk_32_method_2_5) rfl rfl ?_
    show Steps p.tables e below (T1.setTop (mkF m 6 #[.val (.ref a1), .val (.ref a2)] [(.ref a2), (.ref a1)])) _
    refine st2 _ ?_
    show Steps p.tables e below (T2.setTop (mkF m 9 #[.val (.ref a1), .val (.ref a2)] [])) _
    exact X2.returnOut hx Bd.returns (hb hby own_d_jdk_32_method_2_9) hr
  · show own_Qrm_opi Z G1 G3 k_EMPTY k_ENGLISH s_ENGLISH t_ENGLISH kb_ENGLISH k_JAPANESE s_JAPANESE t_JAPANESE kb_JAPANESE k_CHINESE s_CHINESE t_CHINESE kb_CHINESE k_VALUES kv_VALUES a1 a2 u3 h0 n0 _ T2.heap _
    rw [e2]
    exact ⟨rfl, N2, Kp3, Eh5, Fh4⟩
theorem own_d_jdk_32_method_3_0 : decode jdk_32_method_3_code 0 = .ok (.new 2, 3) := by decide +kernel
theorem own_d_jdk_32_method_3_3 : decode jdk_32_method_3_code 3 = .ok (.dup, 1) := by decide +kernel
theorem own_d_jdk_32_method_3_4 : decode jdk_32_method_3_code 4 = .ok (.aload_n 0, 1) := by decide +kernel
theorem own_d_jdk_32_method_3_5 : decode jdk_32_method_3_code 5 = .ok (.invokestatic 17, 3) := by decide +kernel
theorem own_pd4 : parseMethodDescriptor "(Ljava/lang/Object;)Ljava/lang/Object;" = some ⟨[(.object "java/lang/Object")], some (.object "java/lang/Object")⟩ := by decide +kernel
theorem own_d_jdk_32_method_3_8 : decode jdk_32_method_3_code 8 = .ok (.invokespecial 23, 3) := by decide +kernel
theorem own_pd5 : parseMethodDescriptor "(Ljava/lang/Object;)V" = some ⟨[(.object "java/lang/Object")], none⟩ := by decide +kernel
theorem own_d_jdk_32_method_3_11 : decode jdk_32_method_3_code 11 = .ok (.areturn, 1) := by decide +kernel
def own_Qrm_of (Z : State) (G1 : Int32) (G3 : Value) (k_EMPTY : Addr) (k_ENGLISH : Addr) (s_ENGLISH : Addr) (t_ENGLISH : Addr) (kb_ENGLISH : ClassId) (k_JAPANESE : Addr) (s_JAPANESE : Addr) (t_JAPANESE : Addr) (kb_JAPANESE : ClassId) (k_CHINESE : Addr) (s_CHINESE : Addr) (t_CHINESE : Addr) (kb_CHINESE : ClassId) (k_VALUES : Addr) (kv_VALUES : ClassId) (a1 : Addr) (h0 : Heap) (n0 : Nat) (v : Option Value) (h : Heap) (L : List Loc) : Prop := ∃ (b1 : Addr), (v = some (.ref b1)) ∧ (Fr n0 L) ∧ (Keep h0 h []) ∧ (h0.size ≤ b1) ∧ (Exa Z h b1 "java/util/Optional") ∧ (Fld Z h b1 "java/util/Optional" "value" "Ljava/lang/Object;" (.ref a1))
theorem own_efrm_of (m : MethodId) (a1 : Addr) : entryFrame m #[(.ref a1)] 1 = mkF m 0 #[.val (.ref a1)] [] := by first | (simp [entryFrame, mkF, argsToLocals, Value.category]; done) | rfl
set_option maxRecDepth 65536 in
set_option maxHeartbeats 40000000 in
theorem own_rm_of (l : Launch) (Z : State) (a0 : Array Value) (hw : ∀ d ∈ tables_1, d.before a0 Z = true) (ws : List Jvm.Cond) (G1 : Int32) (G3 : Value) (k_EMPTY : Addr) (k_ENGLISH : Addr) (s_ENGLISH : Addr) (t_ENGLISH : Addr) (kb_ENGLISH : ClassId) (k_JAPANESE : Addr) (s_JAPANESE : Addr) (t_JAPANESE : Addr) (kb_JAPANESE : ClassId) (k_CHINESE : Addr) (s_CHINESE : Addr) (t_CHINESE : Addr) (kb_CHINESE : ClassId) (k_VALUES : Addr) (kv_VALUES : ClassId) (gl : own_Glob Z G1 G3 k_EMPTY k_ENGLISH s_ENGLISH t_ENGLISH kb_ENGLISH k_JAPANESE s_JAPANESE t_JAPANESE kb_JAPANESE k_CHINESE s_CHINESE t_CHINESE kb_CHINESE k_VALUES kv_VALUES) (a1 : Addr) (h0 : Heap) (n0 : Nat) (Z0 : n0 ≤ h0.size) :
    MetFree l (⟨"java/util/Optional", "of", "(Ljava/lang/Object;)Ljava/util/Optional;"⟩ : MethodName) (head1 (Jvm.Cond.code (⟨"java/util/Optional", "of", "(Ljava/lang/Object;)Ljava/util/Optional;"⟩ : MethodName) jdk_32_method_3_code 1 (some (.object "java/util/Optional")) :: ws) ({ frames := 2, cells := 1, slots := 1, locals := 26 } : Room)) (fun a U => a = #[(.ref a1)] ∧ Z.Warmed39 U.vm ∧ U.heap = h0) (fun _ _ _ _ _ => True) (fun _ U o U' => ∃ v L, o = .returned v ∧ own_Qrm_of Z G1 G3 k_EMPTY k_ENGLISH s_ENGLISH t_ENGLISH kb_ENGLISH k_JAPANESE s_JAPANESE t_JAPANESE kb_JAPANESE k_CHINESE s_CHINESE t_CHINESE kb_CHINESE k_VALUES kv_VALUES a1 h0 n0 v U'.heap L ∧ FrameEnd U o U' L ({ frames := 2, cells := 1, slots := 1, locals := 26 } : Room).cells ({ frames := 2, cells := 1, slots := 1, locals := 26 } : Room).slots) := by
  refine MetFree.of_bodySF (plainFor_of_name own_pn3) hisR ?_
  intro p e s m args below meth c s₁ Bd hml0 hP hK
  obtain ⟨rfl, hZ, hh⟩ := hP
  obtain ⟨O_CS, P_CS, O_SI, P_SI, O_EMPTY, E_EMPTY, F_EMPTY, O_ENGLISH, E_ENGLISH, Fs_ENGLISH, Es_ENGLISH, Fc_ENGLISH, Fv_ENGLISH, V_ENGLISH, O_JAPANESE, E_JAPANESE, Fs_JAPANESE, Es_JAPANESE, Fc_JAPANESE, Fv_JAPANESE, V_JAPANESE, O_CHINESE, E_CHINESE, Fs_CHINESE, Es_CHINESE, Fc_CHINESE, Fv_CHINESE, V_CHINESE, O_VALUES, E_VALUES, V_VALUES⟩ := id gl
  have hx := Bd.exec
  have hby := Bd.bytes
  have hml : c.maxLocals = 1 := hml0
  have hown : s.vm.findClass "java/util/Optional" = some m.cls := findClass_of_methodNamed Bd.named
  have hnm := (name_of_methodNamed Bd.named Bd.method).1
  have X0 : Stand p l e ({ frames := 2, cells := 1, slots := 1, locals := 26 } : Room) s m #[(.ref a1)] below meth c s₁ [] 0 0 := Stand.of_body Bd
  have e0 : s₁.heap = h0 := by rw [← hh, Bd.state]; rfl
  have N0 := Fr.nil n0
  have pre0 : ∀ t, Steps p.tables e below (s₁.setTop (mkF m 0 #[.val (.ref a1)] [])) t → Steps p.tables e below (s₁.setTop (entryFrame m #[(.ref a1)] 1)) t := fun t k => castTop (own_efrm_of m a1) k
  obtain ⟨T1, h1, X1, e1, E1, A1, D1, U1, st1⟩ := newO X0 hx hZ hown (hw _ (List.mem_of_getElem? (i := 109) rfl)) (hw _ (List.mem_of_getElem? (i := 110) rfl)) (hw _ (List.mem_of_getElem? (i := 63) rfl)) e0 (g := (mkF m 0 #[.val (.ref a1)] [])) rfl (hb hby own_d_jdk_32_method_3_0) (by decide) (by decide)
  obtain ⟨b1, g1⟩ : ∃ z, z = h0.size := ⟨_, rfl⟩
  rw [← g1] at A1 D1 U1 st1
  have Kp2 : Keep h0 h1 [] := (Keep.refl h0 []).ext E1
  obtain ⟨_, _, ⟨T3, L3, k3, n3⟩, -, X3, ⟨Lc3, hQ3, l3, y3, z3⟩, st3⟩ := Jvm.LawKit.callS X1 hx (y := (⟨"java/util/Objects", "requireNonNull", "(Ljava/lang/Object;)Ljava/lang/Object;"⟩ : MethodName)) hown (mvT hZ (hw _ (List.mem_of_getElem? (i := 111) rfl))) (mvT hZ (hw _ (List.mem_of_getElem? (i := 112) rfl))) (mvT hZ (hw _ (List.mem_of_getElem? (i := 113) rfl))) (mvT hZ (hw _ (List.mem_of_getElem? (i := 114) rfl))) (by decide) (backOf (W := 2) (own_rm_rn1 l Z a0 hw [] G1 G3 k_EMPTY k_ENGLISH s_ENGLISH t_ENGLISH kb_ENGLISH k_JAPANESE s_JAPANESE t_JAPANESE kb_JAPANESE k_CHINESE s_CHINESE t_CHINESE kb_CHINESE k_VALUES kv_VALUES gl a1 h1 n0 (Nat.le_trans Z0 Kp2.1) ) hZ (hw _ (List.mem_of_getElem? (i := 114) rfl)) (hw _ (List.mem_of_getElem? (i := 113) rfl)) (by decide) (by decide)) (g := (mkF m 5 #[.val (.ref a1)] [(.ref a1), (.ref b1), (.ref b1)])) rfl (by rw [hml]; rfl) (argsL := [(.ref a1)]) (rest := [(.ref b1), (.ref b1)]) (lenOf own_pd4 rfl) rfl (by show 2 * 0 + _ ≤ _; exact Nat.le_of_eq rfl) (hb hby own_d_jdk_32_method_3_5) (fun _ _ => ⟨rfl, e1, (by decide : 1 + 0 ≤ _), (by decide : 1 + 0 ≤ _)⟩)
  dsimp only [Pt.U, Pt.locs, Pt.cells, Pt.slots] at X3 l3 y3 z3 st3 hQ3
  subst y3 z3
  obtain ⟨rfl, Nq3, e3⟩ := hQ3
  have N3 : Fr n0 L3 := by rw [l3]; exact Fr.app N0 Nq3
  have Fh4 : Fld Z h1 b1 "java/util/Optional" "value" "Ljava/lang/Object;" .null := (D1 (Or.inr (hw _ (List.mem_of_getElem? (i := 72) rfl))) (ty := (.object "java/lang/Object")) (by decide))
  have gh5 : n0 ≤ b1 := Nat.le_trans Z0 (Nat.le_of_eq g1.symm)
  obtain ⟨_, _, ⟨T6, L6, k6, n6⟩, -, X6, ⟨Lc6, hQ6, l6, y6, z6⟩, st6⟩ := X3.specialBack hx (y := (⟨"java/util/Optional", "<init>", "(Ljava/lang/Object;)V"⟩ : MethodName)) rfl hown (mvT hZ (hw _ (List.mem_of_getElem? (i := 115) rfl))) (mvT hZ (hw _ (List.mem_of_getElem? (i := 116) rfl))) (mvT hZ (hw _ (List.mem_of_getElem? (i := 118) rfl))) (by decide) (backOf (W := 1) (own_rm_opi l Z a0 hw [] G1 G3 k_EMPTY k_ENGLISH s_ENGLISH t_ENGLISH kb_ENGLISH k_JAPANESE s_JAPANESE t_JAPANESE kb_JAPANESE k_CHINESE s_CHINESE t_CHINESE kb_CHINESE k_VALUES kv_VALUES gl b1 a1 (.null) h1 n0 (Nat.le_trans Z0 Kp2.1) A1 Fh4 gh5) hZ (hw _ (List.mem_of_getElem? (i := 118) rfl)) (hw _ (List.mem_of_getElem? (i := 63) rfl)) (by decide) (by decide)) (g := (mkF m 8 #[.val (.ref a1)] [(.ref a1), (.ref b1), (.ref b1)])) rfl (by rw [hml]; rfl) (Steps.refl _) (a := b1) (argsL := [(.ref a1)]) (rest := [(.ref b1)]) (lenOf own_pd5 rfl) rfl (by show 2 * 0 + _ ≤ _; exact Nat.le_of_eq rfl) (hb hby own_d_jdk_32_method_3_8) (fun _ _ => ⟨rfl, e3, (by decide : 1 + 0 ≤ _), (by decide : 1 + 0 ≤ _)⟩)
  dsimp only [Pt.U, Pt.locs, Pt.cells, Pt.slots] at X6 l6 y6 z6 st6 hQ6
  subst y6 z6
  obtain ⟨rfl, Nq6, Kq6, f6_0, f6_1⟩ := hQ6
  have N6 : Fr n0 L6 := by rw [l6]; exact Fr.app N3 Nq6
  have Kp7 : Keep h0 T6.heap [] := Kp2.trans Kq6 (allS (Or.inr (Nat.le_trans (Keep.refl h0 []).1 (Nat.le_of_eq g1.symm))) all0)
  obtain ⟨fs, hr, hrun, hended, hW, hsame⟩ := X6.leave (v := some (.ref b1)) (fun h => by rw [Bd.returns] at h; cases h)
  refine ⟨_, _, pre0 _ ?_, hrun, hended, _, _, rfl, ?_, ⟨_, rfl⟩, hW, hsame.mono (by decide) (by decide)⟩
  · show Steps p.tables e below (s₁.setTop (mkF m 0 #[.val (.ref a1)] [])) _
    refine st1 _ ?_
    show Steps p.tables e below (T1.setTop (mkF m 3 #[.val (.ref a1)] [(.ref b1)])) _
    refine XS.dup X1.here hx rfl (hb hby own_d_jdk_32_method_3_3) rfl rfl ?_
    show Steps p.tables e below (T1.setTop (mkF m 4 #[.val (.ref a1)] [(.ref b1), (.ref b1)])) _
    refine XS.aloadN X1.here hx rfl (hb hby own_d_jdk_32_method_3_4) rfl rfl ?_
    show Steps p.tables e below (T1.setTop (mkF m 5 #[.val (.ref a1)] [(.ref a1), (.ref b1), (.ref b1)])) _
    refine st3 _ ?_
    show Steps p.tables e below (T3.setTop (mkF m 8 #[.val (.ref a1)] [(.ref a1), (.ref b1), (.ref b1)])) _
    refine st6.trans ?_
    show Steps p.tables e below (T6.setTop (mkF m 11 #[.val (.ref a1)] [(.ref b1)])) _
    jvm_step X6.here [X6.here.top, hx, (hb hby own_d_jdk_32_method_3_11), X6.method', Bd.returns, Value.isRef, FieldType.isReference]
    first | (intro acts; rw [hr _ acts rfl rfl rfl]) | rw [hr _ _ rfl rfl rfl]
    exact Steps.refl _
  · show own_Qrm_of Z G1 G3 k_EMPTY k_ENGLISH s_ENGLISH t_ENGLISH kb_ENGLISH k_JAPANESE s_JAPANESE t_JAPANESE kb_JAPANESE k_CHINESE s_CHINESE t_CHINESE kb_CHINESE k_VALUES kv_VALUES a1 h0 n0 _ T6.heap _
    exact ⟨b1, rfl, N6, Kp7, (Nat.le_trans (Keep.refl h0 []).1 (Nat.le_of_eq g1.symm)), f6_0, f6_1⟩
theorem own_d_jdk_32_method_1_0 : decode jdk_32_method_1_code 0 = .ok (.getstatic 1, 3) := by decide +kernel
theorem own_d_jdk_32_method_1_3 : decode jdk_32_method_1_code 3 = .ok (.astore_n 0, 1) := by decide +kernel
theorem own_d_jdk_32_method_1_4 : decode jdk_32_method_1_code 4 = .ok (.aload_n 0, 1) := by decide +kernel
theorem own_d_jdk_32_method_1_5 : decode jdk_32_method_1_code 5 = .ok (.areturn, 1) := by decide +kernel
def own_Qrm_empty (Z : State) (G1 : Int32) (G3 : Value) (k_EMPTY : Addr) (k_ENGLISH : Addr) (s_ENGLISH : Addr) (t_ENGLISH : Addr) (kb_ENGLISH : ClassId) (k_JAPANESE : Addr) (s_JAPANESE : Addr) (t_JAPANESE : Addr) (kb_JAPANESE : ClassId) (k_CHINESE : Addr) (s_CHINESE : Addr) (t_CHINESE : Addr) (kb_CHINESE : ClassId) (k_VALUES : Addr) (kv_VALUES : ClassId)  (h0 : Heap) (n0 : Nat) (v : Option Value) (h : Heap) (L : List Loc) : Prop := (v = some (.ref k_EMPTY)) ∧ (Fr n0 L) ∧ (h = h0)
theorem own_efrm_empty (m : MethodId) : entryFrame m #[] 1 = mkF m 0 #[.unset] [] := by first | (simp [entryFrame, mkF, argsToLocals, Value.category]; done) | rfl
set_option maxRecDepth 65536 in
set_option maxHeartbeats 40000000 in
theorem own_rm_empty (l : Launch) (Z : State) (a0 : Array Value) (hw : ∀ d ∈ tables_1, d.before a0 Z = true) (ws : List Jvm.Cond) (G1 : Int32) (G3 : Value) (k_EMPTY : Addr) (k_ENGLISH : Addr) (s_ENGLISH : Addr) (t_ENGLISH : Addr) (kb_ENGLISH : ClassId) (k_JAPANESE : Addr) (s_JAPANESE : Addr) (t_JAPANESE : Addr) (kb_JAPANESE : ClassId) (k_CHINESE : Addr) (s_CHINESE : Addr) (t_CHINESE : Addr) (kb_CHINESE : ClassId) (k_VALUES : Addr) (kv_VALUES : ClassId) (gl : own_Glob Z G1 G3 k_EMPTY k_ENGLISH s_ENGLISH t_ENGLISH kb_ENGLISH k_JAPANESE s_JAPANESE t_JAPANESE kb_JAPANESE k_CHINESE s_CHINESE t_CHINESE kb_CHINESE k_VALUES kv_VALUES)  (h0 : Heap) (n0 : Nat) (Z0 : n0 ≤ h0.size) (X00 : Old Z n0 h0) :
    MetFree l (⟨"java/util/Optional", "empty", "()Ljava/util/Optional;"⟩ : MethodName) (head1 (Jvm.Cond.code (⟨"java/util/Optional", "empty", "()Ljava/util/Optional;"⟩ : MethodName) jdk_32_method_1_code 1 (some (.object "java/util/Optional")) :: ws) ({ frames := 0, cells := 0, slots := 0, locals := 0 } : Room)) (fun a U => a = #[] ∧ Z.Warmed39 U.vm ∧ U.heap = h0) (fun _ _ _ _ _ => True) (fun _ U o U' => ∃ v L, o = .returned v ∧ own_Qrm_empty Z G1 G3 k_EMPTY k_ENGLISH s_ENGLISH t_ENGLISH kb_ENGLISH k_JAPANESE s_JAPANESE t_JAPANESE kb_JAPANESE k_CHINESE s_CHINESE t_CHINESE kb_CHINESE k_VALUES kv_VALUES  h0 n0 v U'.heap L ∧ FrameEnd U o U' L ({ frames := 0, cells := 0, slots := 0, locals := 0 } : Room).cells ({ frames := 0, cells := 0, slots := 0, locals := 0 } : Room).slots) := by
  refine MetFree.of_bodySF (plainFor_of_name own_pn3) hisR ?_
  intro p e s m args below meth c s₁ Bd hml0 hP hK
  obtain ⟨rfl, hZ, hh⟩ := hP
  obtain ⟨O_CS, P_CS, O_SI, P_SI, O_EMPTY, E_EMPTY, F_EMPTY, O_ENGLISH, E_ENGLISH, Fs_ENGLISH, Es_ENGLISH, Fc_ENGLISH, Fv_ENGLISH, V_ENGLISH, O_JAPANESE, E_JAPANESE, Fs_JAPANESE, Es_JAPANESE, Fc_JAPANESE, Fv_JAPANESE, V_JAPANESE, O_CHINESE, E_CHINESE, Fs_CHINESE, Es_CHINESE, Fc_CHINESE, Fv_CHINESE, V_CHINESE, O_VALUES, E_VALUES, V_VALUES⟩ := id gl
  have hx := Bd.exec
  have hby := Bd.bytes
  have hml : c.maxLocals = 1 := hml0
  have hown : s.vm.findClass "java/util/Optional" = some m.cls := findClass_of_methodNamed Bd.named
  have hnm := (name_of_methodNamed Bd.named Bd.method).1
  have X0 : Stand p l e ({ frames := 0, cells := 0, slots := 0, locals := 0 } : Room) s m #[] below meth c s₁ [] 0 0 := Stand.of_body Bd
  have e0 : s₁.heap = h0 := by rw [← hh, Bd.state]; rfl
  have N0 := Fr.nil n0
  have pre0 : ∀ t, Steps p.tables e below (s₁.setTop (mkF m 0 #[.unset] [])) t → Steps p.tables e below (s₁.setTop (entryFrame m #[] 1)) t := fun t k => castTop (own_efrm_empty m) k
  obtain ⟨T1, X1, e1, st1⟩ := getS2 X0 hx hZ hown (host := "") (Or.inl (hw _ (List.mem_of_getElem? (i := 65) rfl))) Via.refl e0 (O_EMPTY.ext X00.2) (g := (mkF m 0 #[.unset] [])) rfl (hb hby own_d_jdk_32_method_1_0)
  obtain ⟨fs, hr, hrun, hended, hW, hsame⟩ := X1.leave (v := some (.ref k_EMPTY)) (fun h => by rw [Bd.returns] at h; cases h)
  refine ⟨_, _, pre0 _ ?_, hrun, hended, _, _, rfl, ?_, ⟨_, rfl⟩, hW, hsame.mono (by decide) (by decide)⟩
  · show Steps p.tables e below (s₁.setTop (mkF m 0 #[.unset] [])) _
    refine st1 _ ?_
    show Steps p.tables e below (T1.setTop (mkF m 3 #[.unset] [(.ref k_EMPTY)])) _
    refine XS.astoreN X1.here hx rfl (hb hby own_d_jdk_32_method_1_3) rfl rfl (l' := #[.val (.ref k_EMPTY)]) rfl ?_
    show Steps p.tables e below (T1.setTop (mkF m 4 #[.val (.ref k_EMPTY)] [])) _
    refine XS.aloadN X1.here hx rfl (hb hby own_d_jdk_32_method_1_4) rfl rfl ?_
    show Steps p.tables e below (T1.setTop (mkF m 5 #[.val (.ref k_EMPTY)] [(.ref k_EMPTY)])) _
    jvm_step X1.here [X1.here.top, hx, (hb hby own_d_jdk_32_method_1_5), X1.method', Bd.returns, Value.isRef, FieldType.isReference]
    first | (intro acts; rw [hr _ acts rfl rfl rfl]) | rw [hr _ _ rfl rfl rfl]
    exact Steps.refl _
  · show own_Qrm_empty Z G1 G3 k_EMPTY k_ENGLISH s_ENGLISH t_ENGLISH kb_ENGLISH k_JAPANESE s_JAPANESE t_JAPANESE kb_JAPANESE k_CHINESE s_CHINESE t_CHINESE kb_CHINESE k_VALUES kv_VALUES  h0 n0 _ T1.heap _
    rw [e1]
    exact ⟨rfl, N0, rfl⟩
theorem own_d_jdk_32_method_15_0 : decode jdk_32_method_15_code 0 = .ok (.aload_n 0, 1) := by decide +kernel
theorem own_d_jdk_32_method_15_1 : decode jdk_32_method_15_code 1 = .ok (.getfield 13, 3) := by decide +kernel
theorem own_d_jdk_32_method_15_4 : decode jdk_32_method_15_code 4 = .ok (.ifnull 10, 3) := by decide +kernel
theorem own_d_jdk_32_method_15_14 : decode jdk_32_method_15_code 14 = .ok (.aload_n 1, 1) := by decide +kernel
theorem own_d_jdk_32_method_15_15 : decode jdk_32_method_15_code 15 = .ok (.areturn, 1) := by decide +kernel
def own_Qrm_oeN (Z : State) (G1 : Int32) (G3 : Value) (k_EMPTY : Addr) (k_ENGLISH : Addr) (s_ENGLISH : Addr) (t_ENGLISH : Addr) (kb_ENGLISH : ClassId) (k_JAPANESE : Addr) (s_JAPANESE : Addr) (t_JAPANESE : Addr) (kb_JAPANESE : ClassId) (k_CHINESE : Addr) (s_CHINESE : Addr) (t_CHINESE : Addr) (kb_CHINESE : ClassId) (k_VALUES : Addr) (kv_VALUES : ClassId) (a1 : Addr) (h0 : Heap) (n0 : Nat) (v : Option Value) (h : Heap) (L : List Loc) : Prop := (v = some .null) ∧ (Fr n0 L) ∧ (h = h0)
theorem own_efrm_oeN (m : MethodId) (a1 : Addr) : entryFrame m #[(.ref a1), .null] 2 = mkF m 0 #[.val (.ref a1), .val .null] [] := by first | (simp [entryFrame, mkF, argsToLocals, Value.category]; done) | rfl
set_option maxRecDepth 65536 in
set_option maxHeartbeats 40000000 in
theorem own_rm_oeN (l : Launch) (Z : State) (a0 : Array Value) (hw : ∀ d ∈ tables_1, d.before a0 Z = true) (ws : List Jvm.Cond) (G1 : Int32) (G3 : Value) (k_EMPTY : Addr) (k_ENGLISH : Addr) (s_ENGLISH : Addr) (t_ENGLISH : Addr) (kb_ENGLISH : ClassId) (k_JAPANESE : Addr) (s_JAPANESE : Addr) (t_JAPANESE : Addr) (kb_JAPANESE : ClassId) (k_CHINESE : Addr) (s_CHINESE : Addr) (t_CHINESE : Addr) (kb_CHINESE : ClassId) (k_VALUES : Addr) (kv_VALUES : ClassId) (gl : own_Glob Z G1 G3 k_EMPTY k_ENGLISH s_ENGLISH t_ENGLISH kb_ENGLISH k_JAPANESE s_JAPANESE t_JAPANESE kb_JAPANESE k_CHINESE s_CHINESE t_CHINESE kb_CHINESE k_VALUES kv_VALUES) (a1 : Addr) (h0 : Heap) (n0 : Nat) (Z0 : n0 ≤ h0.size) (P1 : Fld Z h0 a1 "java/util/Optional" "value" "Ljava/lang/Object;" .null) :
    MetFree l (⟨"java/util/Optional", "orElse", "(Ljava/lang/Object;)Ljava/lang/Object;"⟩ : MethodName) (head1 (Jvm.Cond.code (⟨"java/util/Optional", "orElse", "(Ljava/lang/Object;)Ljava/lang/Object;"⟩ : MethodName) jdk_32_method_15_code 2 (some (.object "java/lang/Object")) :: ws) ({ frames := 0, cells := 0, slots := 0, locals := 0 } : Room)) (fun a U => a = #[(.ref a1), .null] ∧ Z.Warmed39 U.vm ∧ U.heap = h0) (fun _ _ _ _ _ => True) (fun _ U o U' => ∃ v L, o = .returned v ∧ own_Qrm_oeN Z G1 G3 k_EMPTY k_ENGLISH s_ENGLISH t_ENGLISH kb_ENGLISH k_JAPANESE s_JAPANESE t_JAPANESE kb_JAPANESE k_CHINESE s_CHINESE t_CHINESE kb_CHINESE k_VALUES kv_VALUES a1 h0 n0 v U'.heap L ∧ FrameEnd U o U' L ({ frames := 0, cells := 0, slots := 0, locals := 0 } : Room).cells ({ frames := 0, cells := 0, slots := 0, locals := 0 } : Room).slots) := by
  refine MetFree.of_bodySF (plainFor_of_name own_pn3) hisR ?_
  intro p e s m args below meth c s₁ Bd hml0 hP hK
  obtain ⟨rfl, hZ, hh⟩ := hP
  obtain ⟨O_CS, P_CS, O_SI, P_SI, O_EMPTY, E_EMPTY, F_EMPTY, O_ENGLISH, E_ENGLISH, Fs_ENGLISH, Es_ENGLISH, Fc_ENGLISH, Fv_ENGLISH, V_ENGLISH, O_JAPANESE, E_JAPANESE, Fs_JAPANESE, Es_JAPANESE, Fc_JAPANESE, Fv_JAPANESE, V_JAPANESE, O_CHINESE, E_CHINESE, Fs_CHINESE, Es_CHINESE, Fc_CHINESE, Fv_CHINESE, V_CHINESE, O_VALUES, E_VALUES, V_VALUES⟩ := id gl
  have hx := Bd.exec
  have hby := Bd.bytes
  have hml : c.maxLocals = 2 := hml0
  have hown : s.vm.findClass "java/util/Optional" = some m.cls := findClass_of_methodNamed Bd.named
  have hnm := (name_of_methodNamed Bd.named Bd.method).1
  have X0 : Stand p l e ({ frames := 0, cells := 0, slots := 0, locals := 0 } : Room) s m #[(.ref a1), .null] below meth c s₁ [] 0 0 := Stand.of_body Bd
  have e0 : s₁.heap = h0 := by rw [← hh, Bd.state]; rfl
  have N0 := Fr.nil n0
  have pre0 : ∀ t, Steps p.tables e below (s₁.setTop (mkF m 0 #[.val (.ref a1), .val .null] [])) t → Steps p.tables e below (s₁.setTop (entryFrame m #[(.ref a1), .null] 2)) t := fun t k => castTop (own_efrm_oeN m a1) k
  obtain ⟨T1, X1, e1, st1⟩ := getF X0 hx hZ hown (host := "") (Or.inl (hw _ (List.mem_of_getElem? (i := 71) rfl))) Via.refl e0 P1 (g := (mkF m 1 #[.val (.ref a1), .val .null] [(.ref a1)])) rfl rfl (hb hby own_d_jdk_32_method_15_1)
  obtain ⟨fs, hr, hrun, hended, hW, hsame⟩ := X1.leave (v := some .null) (fun h => by rw [Bd.returns] at h; cases h)
  refine ⟨_, _, pre0 _ ?_, hrun, hended, _, _, rfl, ?_, ⟨_, rfl⟩, hW, hsame.mono (by decide) (by decide)⟩
  · show Steps p.tables e below (s₁.setTop (mkF m 0 #[.val (.ref a1), .val .null] [])) _
    refine XS.aloadN X0.here hx rfl (hb hby own_d_jdk_32_method_15_0) rfl rfl ?_
    show Steps p.tables e below (s₁.setTop (mkF m 1 #[.val (.ref a1), .val .null] [(.ref a1)])) _
    refine st1 _ ?_
    show Steps p.tables e below (T1.setTop (mkF m 4 #[.val (.ref a1), .val .null] [.null])) _
    refine XS.ifnullYes X1.here hx rfl (pc0 := 4) (pc' := 14) rfl (hb hby own_d_jdk_32_method_15_4) rfl (by decide) (by decide) ?_
    show Steps p.tables e below (T1.setTop (mkF m 14 #[.val (.ref a1), .val .null] [])) _
    refine XS.aloadN X1.here hx rfl (hb hby own_d_jdk_32_method_15_14) rfl rfl ?_
    show Steps p.tables e below (T1.setTop (mkF m 15 #[.val (.ref a1), .val .null] [.null])) _
    jvm_step X1.here [X1.here.top, hx, (hb hby own_d_jdk_32_method_15_15), X1.method', Bd.returns, Value.isRef, FieldType.isReference]
    first | (intro acts; rw [hr _ acts rfl rfl rfl]) | rw [hr _ _ rfl rfl rfl]
    exact Steps.refl _
  · show own_Qrm_oeN Z G1 G3 k_EMPTY k_ENGLISH s_ENGLISH t_ENGLISH kb_ENGLISH k_JAPANESE s_JAPANESE t_JAPANESE kb_JAPANESE k_CHINESE s_CHINESE t_CHINESE kb_CHINESE k_VALUES kv_VALUES a1 h0 n0 _ T1.heap _
    rw [e1]
    exact ⟨rfl, N0, rfl⟩
theorem own_d_jdk_32_method_15_7 : decode jdk_32_method_15_code 7 = .ok (.aload_n 0, 1) := by decide +kernel
theorem own_d_jdk_32_method_15_8 : decode jdk_32_method_15_code 8 = .ok (.getfield 13, 3) := by decide +kernel
theorem own_d_jdk_32_method_15_11 : decode jdk_32_method_15_code 11 = .ok (.goto 4, 3) := by decide +kernel
def own_Qrm_oeV (Z : State) (G1 : Int32) (G3 : Value) (k_EMPTY : Addr) (k_ENGLISH : Addr) (s_ENGLISH : Addr) (t_ENGLISH : Addr) (kb_ENGLISH : ClassId) (k_JAPANESE : Addr) (s_JAPANESE : Addr) (t_JAPANESE : Addr) (kb_JAPANESE : ClassId) (k_CHINESE : Addr) (s_CHINESE : Addr) (t_CHINESE : Addr) (kb_CHINESE : ClassId) (k_VALUES : Addr) (kv_VALUES : ClassId) (a1 : Addr) (o2 : Addr) (h0 : Heap) (n0 : Nat) (v : Option Value) (h : Heap) (L : List Loc) : Prop := (v = some (.ref o2)) ∧ (Fr n0 L) ∧ (h = h0)
theorem own_efrm_oeV (m : MethodId) (a1 : Addr) : entryFrame m #[(.ref a1), .null] 2 = mkF m 0 #[.val (.ref a1), .val .null] [] := by first | (simp [entryFrame, mkF, argsToLocals, Value.category]; done) | rfl
set_option maxRecDepth 65536 in
set_option maxHeartbeats 40000000 in
theorem own_rm_oeV (l : Launch) (Z : State) (a0 : Array Value) (hw : ∀ d ∈ tables_1, d.before a0 Z = true) (ws : List Jvm.Cond) (G1 : Int32) (G3 : Value) (k_EMPTY : Addr) (k_ENGLISH : Addr) (s_ENGLISH : Addr) (t_ENGLISH : Addr) (kb_ENGLISH : ClassId) (k_JAPANESE : Addr) (s_JAPANESE : Addr) (t_JAPANESE : Addr) (kb_JAPANESE : ClassId) (k_CHINESE : Addr) (s_CHINESE : Addr) (t_CHINESE : Addr) (kb_CHINESE : ClassId) (k_VALUES : Addr) (kv_VALUES : ClassId) (gl : own_Glob Z G1 G3 k_EMPTY k_ENGLISH s_ENGLISH t_ENGLISH kb_ENGLISH k_JAPANESE s_JAPANESE t_JAPANESE kb_JAPANESE k_CHINESE s_CHINESE t_CHINESE kb_CHINESE k_VALUES kv_VALUES) (a1 : Addr) (o2 : Addr) (h0 : Heap) (n0 : Nat) (Z0 : n0 ≤ h0.size) (P1 : Fld Z h0 a1 "java/util/Optional" "value" "Ljava/lang/Object;" (.ref o2)) :
    MetFree l (⟨"java/util/Optional", "orElse", "(Ljava/lang/Object;)Ljava/lang/Object;"⟩ : MethodName) (head1 (Jvm.Cond.code (⟨"java/util/Optional", "orElse", "(Ljava/lang/Object;)Ljava/lang/Object;"⟩ : MethodName) jdk_32_method_15_code 2 (some (.object "java/lang/Object")) :: ws) ({ frames := 0, cells := 0, slots := 0, locals := 0 } : Room)) (fun a U => a = #[(.ref a1), .null] ∧ Z.Warmed39 U.vm ∧ U.heap = h0) (fun _ _ _ _ _ => True) (fun _ U o U' => ∃ v L, o = .returned v ∧ own_Qrm_oeV Z G1 G3 k_EMPTY k_ENGLISH s_ENGLISH t_ENGLISH kb_ENGLISH k_JAPANESE s_JAPANESE t_JAPANESE kb_JAPANESE k_CHINESE s_CHINESE t_CHINESE kb_CHINESE k_VALUES kv_VALUES a1 o2 h0 n0 v U'.heap L ∧ FrameEnd U o U' L ({ frames := 0, cells := 0, slots := 0, locals := 0 } : Room).cells ({ frames := 0, cells := 0, slots := 0, locals := 0 } : Room).slots) := by
  refine MetFree.of_bodySF (plainFor_of_name own_pn3) hisR ?_
  intro p e s m args below meth c s₁ Bd hml0 hP hK
  obtain ⟨rfl, hZ, hh⟩ := hP
  obtain ⟨O_CS, P_CS, O_SI, P_SI, O_EMPTY, E_EMPTY, F_EMPTY, O_ENGLISH, E_ENGLISH, Fs_ENGLISH, Es_ENGLISH, Fc_ENGLISH, Fv_ENGLISH, V_ENGLISH, O_JAPANESE, E_JAPANESE, Fs_JAPANESE, Es_JAPANESE, Fc_JAPANESE, Fv_JAPANESE, V_JAPANESE, O_CHINESE, E_CHINESE, Fs_CHINESE, Es_CHINESE, Fc_CHINESE, Fv_CHINESE, V_CHINESE, O_VALUES, E_VALUES, V_VALUES⟩ := id gl
  have hx := Bd.exec
  have hby := Bd.bytes
  have hml : c.maxLocals = 2 := hml0
  have hown : s.vm.findClass "java/util/Optional" = some m.cls := findClass_of_methodNamed Bd.named
  have hnm := (name_of_methodNamed Bd.named Bd.method).1
  have X0 : Stand p l e ({ frames := 0, cells := 0, slots := 0, locals := 0 } : Room) s m #[(.ref a1), .null] below meth c s₁ [] 0 0 := Stand.of_body Bd
  have e0 : s₁.heap = h0 := by rw [← hh, Bd.state]; rfl
  have N0 := Fr.nil n0
  have pre0 : ∀ t, Steps p.tables e below (s₁.setTop (mkF m 0 #[.val (.ref a1), .val .null] [])) t → Steps p.tables e below (s₁.setTop (entryFrame m #[(.ref a1), .null] 2)) t := fun t k => castTop (own_efrm_oeV m a1) k
  obtain ⟨T1, X1, e1, st1⟩ := getF X0 hx hZ hown (host := "") (Or.inl (hw _ (List.mem_of_getElem? (i := 71) rfl))) Via.refl e0 P1 (g := (mkF m 1 #[.val (.ref a1), .val .null] [(.ref a1)])) rfl rfl (hb hby own_d_jdk_32_method_15_1)
  obtain ⟨T2, X2, e2, st2⟩ := getF X1 hx hZ hown (host := "") (Or.inl (hw _ (List.mem_of_getElem? (i := 71) rfl))) Via.refl e1 P1 (g := (mkF m 8 #[.val (.ref a1), .val .null] [(.ref a1)])) rfl rfl (hb hby own_d_jdk_32_method_15_8)
  obtain ⟨fs, hr, hrun, hended, hW, hsame⟩ := X2.leave (v := some (.ref o2)) (fun h => by rw [Bd.returns] at h; cases h)
  refine ⟨_, _, pre0 _ ?_, hrun, hended, _, _, rfl, ?_, ⟨_, rfl⟩, hW, hsame.mono (by decide) (by decide)⟩
  · show Steps p.tables e below (s₁.setTop (mkF m 0 #[.val (.ref a1), .val .null] [])) _
    refine XS.aloadN X0.here hx rfl (hb hby own_d_jdk_32_method_15_0) rfl rfl ?_
    show Steps p.tables e below (s₁.setTop (mkF m 1 #[.val (.ref a1), .val .null] [(.ref a1)])) _
    refine st1 _ ?_
    show Steps p.tables e below (T1.setTop (mkF m 4 #[.val (.ref a1), .val .null] [(.ref o2)])) _
    refine XS.ifnullNo X1.here hx rfl (hb hby own_d_jdk_32_method_15_4) rfl ?_
    show Steps p.tables e below (T1.setTop (mkF m 7 #[.val (.ref a1), .val .null] [])) _
    refine XS.aloadN X1.here hx rfl (hb hby own_d_jdk_32_method_15_7) rfl rfl ?_
    show Steps p.tables e below (T1.setTop (mkF m 8 #[.val (.ref a1), .val .null] [(.ref a1)])) _
    refine st2 _ ?_
    show Steps p.tables e below (T2.setTop (mkF m 11 #[.val (.ref a1), .val .null] [(.ref o2)])) _
    refine XS.goto X2.here hx rfl (pc0 := 11) (pc' := 15) rfl (hb hby own_d_jdk_32_method_15_11) (by decide) (by decide) ?_
    show Steps p.tables e below (T2.setTop (mkF m 15 #[.val (.ref a1), .val .null] [(.ref o2)])) _
    jvm_step X2.here [X2.here.top, hx, (hb hby own_d_jdk_32_method_15_15), X2.method', Bd.returns, Value.isRef, FieldType.isReference]
    first | (intro acts; rw [hr _ acts rfl rfl rfl]) | rw [hr _ _ rfl rfl rfl]
    exact Steps.refl _
  · show own_Qrm_oeV Z G1 G3 k_EMPTY k_ENGLISH s_ENGLISH t_ENGLISH kb_ENGLISH k_JAPANESE s_JAPANESE t_JAPANESE kb_JAPANESE k_CHINESE s_CHINESE t_CHINESE kb_CHINESE k_VALUES kv_VALUES a1 o2 h0 n0 _ T2.heap _
    rw [e2]
    exact ⟨rfl, N0, rfl⟩
theorem own_d_jdk_42_method_66_0 : decode jdk_42_method_66_code 0 = .ok (.aload_n 0, 1) := by decide +kernel
theorem own_d_jdk_42_method_66_1 : decode jdk_42_method_66_code 1 = .ok (.aload_n 1, 1) := by decide +kernel
theorem own_d_jdk_42_method_66_2 : decode jdk_42_method_66_code 2 = .ok (.if_acmp .ne 5, 3) := by decide +kernel
theorem own_d_jdk_42_method_66_7 : decode jdk_42_method_66_code 7 = .ok (.aload_n 1, 1) := by decide +kernel
theorem own_d_jdk_42_method_66_8 : decode jdk_42_method_66_code 8 = .ok (.instanceof 10, 3) := by decide +kernel
theorem own_d_jdk_42_method_66_11 : decode jdk_42_method_66_code 11 = .ok (.ifCond .eq 43, 3) := by decide +kernel
theorem own_d_jdk_42_method_66_54 : decode jdk_42_method_66_code 54 = .ok (.iconst 0, 1) := by decide +kernel
theorem own_d_jdk_42_method_66_55 : decode jdk_42_method_66_code 55 = .ok (.ireturn, 1) := by decide +kernel
def own_Qrm_eqn (Z : State) (G1 : Int32) (G3 : Value) (k_EMPTY : Addr) (k_ENGLISH : Addr) (s_ENGLISH : Addr) (t_ENGLISH : Addr) (kb_ENGLISH : ClassId) (k_JAPANESE : Addr) (s_JAPANESE : Addr) (t_JAPANESE : Addr) (kb_JAPANESE : ClassId) (k_CHINESE : Addr) (s_CHINESE : Addr) (t_CHINESE : Addr) (kb_CHINESE : ClassId) (k_VALUES : Addr) (kv_VALUES : ClassId) (a1 : Addr) (h0 : Heap) (n0 : Nat) (v : Option Value) (h : Heap) (L : List Loc) : Prop := (v = some (.int (0 : Int32))) ∧ (Fr n0 L) ∧ (h = h0)
theorem own_efrm_eqn (m : MethodId) (a1 : Addr) : entryFrame m #[(.ref a1), .null] 3 = mkF m 0 #[.val (.ref a1), .val .null, .unset] [] := by first | (simp [entryFrame, mkF, argsToLocals, Value.category]; done) | rfl
set_option maxRecDepth 65536 in
set_option maxHeartbeats 40000000 in
theorem own_rm_eqn (l : Launch) (Z : State) (a0 : Array Value) (hw : ∀ d ∈ tables_1, d.before a0 Z = true) (ws : List Jvm.Cond) (G1 : Int32) (G3 : Value) (k_EMPTY : Addr) (k_ENGLISH : Addr) (s_ENGLISH : Addr) (t_ENGLISH : Addr) (kb_ENGLISH : ClassId) (k_JAPANESE : Addr) (s_JAPANESE : Addr) (t_JAPANESE : Addr) (kb_JAPANESE : ClassId) (k_CHINESE : Addr) (s_CHINESE : Addr) (t_CHINESE : Addr) (kb_CHINESE : ClassId) (k_VALUES : Addr) (kv_VALUES : ClassId) (gl : own_Glob Z G1 G3 k_EMPTY k_ENGLISH s_ENGLISH t_ENGLISH kb_ENGLISH k_JAPANESE s_JAPANESE t_JAPANESE kb_JAPANESE k_CHINESE s_CHINESE t_CHINESE kb_CHINESE k_VALUES kv_VALUES) (a1 : Addr) (h0 : Heap) (n0 : Nat) (Z0 : n0 ≤ h0.size) :
    MetFree l (⟨"java/lang/String", "equals", "(Ljava/lang/Object;)Z"⟩ : MethodName) (head1 (Jvm.Cond.code (⟨"java/lang/String", "equals", "(Ljava/lang/Object;)Z"⟩ : MethodName) jdk_42_method_66_code 3 (some .boolean) :: ws) ({ frames := 0, cells := 0, slots := 0, locals := 0 } : Room)) (fun a U => a = #[(.ref a1), .null] ∧ Z.Warmed39 U.vm ∧ U.heap = h0) (fun _ _ _ _ _ => True) (fun _ U o U' => ∃ v L, o = .returned v ∧ own_Qrm_eqn Z G1 G3 k_EMPTY k_ENGLISH s_ENGLISH t_ENGLISH kb_ENGLISH k_JAPANESE s_JAPANESE t_JAPANESE kb_JAPANESE k_CHINESE s_CHINESE t_CHINESE kb_CHINESE k_VALUES kv_VALUES a1 h0 n0 v U'.heap L ∧ FrameEnd U o U' L ({ frames := 0, cells := 0, slots := 0, locals := 0 } : Room).cells ({ frames := 0, cells := 0, slots := 0, locals := 0 } : Room).slots) := by
  refine MetFree.of_bodySF (plainFor_of_name own_pn0) hisR ?_
  intro p e s m args below meth c s₁ Bd hml0 hP hK
  obtain ⟨rfl, hZ, hh⟩ := hP
  obtain ⟨O_CS, P_CS, O_SI, P_SI, O_EMPTY, E_EMPTY, F_EMPTY, O_ENGLISH, E_ENGLISH, Fs_ENGLISH, Es_ENGLISH, Fc_ENGLISH, Fv_ENGLISH, V_ENGLISH, O_JAPANESE, E_JAPANESE, Fs_JAPANESE, Es_JAPANESE, Fc_JAPANESE, Fv_JAPANESE, V_JAPANESE, O_CHINESE, E_CHINESE, Fs_CHINESE, Es_CHINESE, Fc_CHINESE, Fv_CHINESE, V_CHINESE, O_VALUES, E_VALUES, V_VALUES⟩ := id gl
  have hx := Bd.exec
  have hby := Bd.bytes
  have hml : c.maxLocals = 3 := hml0
  have hown : s.vm.findClass "java/lang/String" = some m.cls := findClass_of_methodNamed Bd.named
  have hnm := (name_of_methodNamed Bd.named Bd.method).1
  have X0 : Stand p l e ({ frames := 0, cells := 0, slots := 0, locals := 0 } : Room) s m #[(.ref a1), .null] below meth c s₁ [] 0 0 := Stand.of_body Bd
  have e0 : s₁.heap = h0 := by rw [← hh, Bd.state]; rfl
  have N0 := Fr.nil n0
  have pre0 : ∀ t, Steps p.tables e below (s₁.setTop (mkF m 0 #[.val (.ref a1), .val .null, .unset] [])) t → Steps p.tables e below (s₁.setTop (entryFrame m #[(.ref a1), .null] 3)) t := fun t k => castTop (own_efrm_eqn m a1) k
  obtain ⟨fs, hr, hrun, hended, hW, hsame⟩ := X0.leave (v := some (.int (0 : Int32))) (fun h => by rw [Bd.returns] at h; cases h)
  refine ⟨_, _, pre0 _ ?_, hrun, hended, _, _, rfl, ?_, ⟨_, rfl⟩, hW, hsame.mono (by decide) (by decide)⟩
  · show Steps p.tables e below (s₁.setTop (mkF m 0 #[.val (.ref a1), .val .null, .unset] [])) _
    refine XS.aloadN X0.here hx rfl (hb hby own_d_jdk_42_method_66_0) rfl rfl ?_
    show Steps p.tables e below (s₁.setTop (mkF m 1 #[.val (.ref a1), .val .null, .unset] [(.ref a1)])) _
    refine XS.aloadN X0.here hx rfl (hb hby own_d_jdk_42_method_66_1) rfl rfl ?_
    show Steps p.tables e below (s₁.setTop (mkF m 2 #[.val (.ref a1), .val .null, .unset] [.null, (.ref a1)])) _
    refine Jvm.RoadKit.acmp (g := (mkF m 2 #[.val (.ref a1), .val .null, .unset] [.null, (.ref a1)])) X0 hx rfl rfl rfl (pc0 := 2) (pc' := 7) (same := false) rfl (hb hby own_d_jdk_42_method_66_2) rfl (decide_eq_false nofun) (by decide) (by decide) ?_
    show Steps p.tables e below (s₁.setTop (mkF m 7 #[.val (.ref a1), .val .null, .unset] [])) _
    refine XS.aloadN X0.here hx rfl (hb hby own_d_jdk_42_method_66_7) rfl rfl ?_
    show Steps p.tables e below (s₁.setTop (mkF m 8 #[.val (.ref a1), .val .null, .unset] [.null])) _
    refine X0.instanceofNull hx (g := (mkF m 8 #[.val (.ref a1), .val .null, .unset] [.null])) rfl rfl (hb hby own_d_jdk_42_method_66_8) _ ?_
    show Steps p.tables e below (s₁.setTop (mkF m 11 #[.val (.ref a1), .val .null, .unset] [(.int (0 : Int32))])) _
    refine XS.ifYes X0.here hx rfl (pc0 := 11) (pc' := 54) rfl (hb hby own_d_jdk_42_method_66_11) rfl ((if0 _ _).trans (teq (rfl : (0 : Int32) = (0 : Int32))).1) (by decide) (by decide) ?_
    show Steps p.tables e below (s₁.setTop (mkF m 54 #[.val (.ref a1), .val .null, .unset] [])) _
    refine XS.iconst X0.here hx rfl (hb hby own_d_jdk_42_method_66_54) ?_
    show Steps p.tables e below (s₁.setTop (mkF m 55 #[.val (.ref a1), .val .null, .unset] [(.int (0 : Int32))])) _
    exact retN X0 hx (t := .boolean) Bd.returns (by simp) (hb hby own_d_jdk_42_method_66_55) hr
  · show own_Qrm_eqn Z G1 G3 k_EMPTY k_ENGLISH s_ENGLISH t_ENGLISH kb_ENGLISH k_JAPANESE s_JAPANESE t_JAPANESE kb_JAPANESE k_CHINESE s_CHINESE t_CHINESE kb_CHINESE k_VALUES kv_VALUES a1 h0 n0 _ s₁.heap _
    rw [e0]
    exact ⟨rfl, N0, rfl⟩
theorem own_d_prog_9_method_1_0 : decode prog_9_method_1_code 0 = .ok (.getstatic 13, 3) := by decide +kernel
theorem own_d_prog_9_method_1_3 : decode prog_9_method_1_code 3 = .ok (.invokevirtual 17, 3) := by decide +kernel
theorem own_d_prog_9_method_1_6 : decode prog_9_method_1_code 6 = .ok (.checkcast 18, 3) := by decide +kernel
theorem own_d_prog_9_method_1_9 : decode prog_9_method_1_code 9 = .ok (.areturn, 1) := by decide +kernel
theorem own_pn6 : plainName "com/example/dragoman/dragoman/core/Language" = true := by first | (simp [plainName, overriddenIn]; done) | decide +kernel
def own_Qrm_values (Z : State) (G1 : Int32) (G3 : Value) (k_EMPTY : Addr) (k_ENGLISH : Addr) (s_ENGLISH : Addr) (t_ENGLISH : Addr) (kb_ENGLISH : ClassId) (k_JAPANESE : Addr) (s_JAPANESE : Addr) (t_JAPANESE : Addr) (kb_JAPANESE : ClassId) (k_CHINESE : Addr) (s_CHINESE : Addr) (t_CHINESE : Addr) (kb_CHINESE : ClassId) (k_VALUES : Addr) (kv_VALUES : ClassId)  (h0 : Heap) (n0 : Nat) (v : Option Value) (h : Heap) (L : List Loc) : Prop := ∃ (b2 : Addr), (v = some (.ref b2)) ∧ (Fr n0 L) ∧ (Keep h0 h []) ∧ (h0.size ≤ b2) ∧ (Arv Z h b2 kv_VALUES (.object "com/example/dragoman/dragoman/core/Language") (3 : Int32) [(.ref k_ENGLISH), (.ref k_JAPANESE), (.ref k_CHINESE)] .null) ∧ (Exa Z h b2 "[Lcom/example/dragoman/dragoman/core/Language;")
theorem own_efrm_values (m : MethodId) : entryFrame m #[] 0 = mkF m 0 #[] [] := by first | (simp [entryFrame, mkF, argsToLocals, Value.category]; done) | rfl
set_option maxRecDepth 65536 in
set_option maxHeartbeats 40000000 in
theorem own_rm_values (l : Launch) (Z : State) (a0 : Array Value) (hw : ∀ d ∈ tables_1, d.before a0 Z = true) (ws : List Jvm.Cond) (G1 : Int32) (G3 : Value) (k_EMPTY : Addr) (k_ENGLISH : Addr) (s_ENGLISH : Addr) (t_ENGLISH : Addr) (kb_ENGLISH : ClassId) (k_JAPANESE : Addr) (s_JAPANESE : Addr) (t_JAPANESE : Addr) (kb_JAPANESE : ClassId) (k_CHINESE : Addr) (s_CHINESE : Addr) (t_CHINESE : Addr) (kb_CHINESE : ClassId) (k_VALUES : Addr) (kv_VALUES : ClassId) (gl : own_Glob Z G1 G3 k_EMPTY k_ENGLISH s_ENGLISH t_ENGLISH kb_ENGLISH k_JAPANESE s_JAPANESE t_JAPANESE kb_JAPANESE k_CHINESE s_CHINESE t_CHINESE kb_CHINESE k_VALUES kv_VALUES)  (h0 : Heap) (n0 : Nat) (Z0 : n0 ≤ h0.size) (X00 : Old Z n0 h0) :
    MetFree l (⟨"com/example/dragoman/dragoman/core/Language", "values", "()[Lcom/example/dragoman/dragoman/core/Language;"⟩ : MethodName) (head1 (Jvm.Cond.code (⟨"com/example/dragoman/dragoman/core/Language", "values", "()[Lcom/example/dragoman/dragoman/core/Language;"⟩ : MethodName) prog_9_method_1_code 0 (some (.array (.object "com/example/dragoman/dragoman/core/Language"))) :: ws) ({ frames := 1, cells := 1, slots := 3, locals := 14 } : Room)) (fun a U => a = #[] ∧ Z.Warmed39 U.vm ∧ U.heap = h0) (fun _ _ _ _ _ => True) (fun _ U o U' => ∃ v L, o = .returned v ∧ own_Qrm_values Z G1 G3 k_EMPTY k_ENGLISH s_ENGLISH t_ENGLISH kb_ENGLISH k_JAPANESE s_JAPANESE t_JAPANESE kb_JAPANESE k_CHINESE s_CHINESE t_CHINESE kb_CHINESE k_VALUES kv_VALUES  h0 n0 v U'.heap L ∧ FrameEnd U o U' L ({ frames := 1, cells := 1, slots := 3, locals := 14 } : Room).cells ({ frames := 1, cells := 1, slots := 3, locals := 14 } : Room).slots) := by
  refine MetFree.of_bodySF (plainFor_of_name own_pn6) hisR ?_
  intro p e s m args below meth c s₁ Bd hml0 hP hK
  obtain ⟨rfl, hZ, hh⟩ := hP
  obtain ⟨O_CS, P_CS, O_SI, P_SI, O_EMPTY, E_EMPTY, F_EMPTY, O_ENGLISH, E_ENGLISH, Fs_ENGLISH, Es_ENGLISH, Fc_ENGLISH, Fv_ENGLISH, V_ENGLISH, O_JAPANESE, E_JAPANESE, Fs_JAPANESE, Es_JAPANESE, Fc_JAPANESE, Fv_JAPANESE, V_JAPANESE, O_CHINESE, E_CHINESE, Fs_CHINESE, Es_CHINESE, Fc_CHINESE, Fv_CHINESE, V_CHINESE, O_VALUES, E_VALUES, V_VALUES⟩ := id gl
  have hx := Bd.exec
  have hby := Bd.bytes
  have hml : c.maxLocals = 0 := hml0
  have hown : s.vm.findClass "com/example/dragoman/dragoman/core/Language" = some m.cls := findClass_of_methodNamed Bd.named
  have hnm := (name_of_methodNamed Bd.named Bd.method).1
  have X0 : Stand p l e ({ frames := 1, cells := 1, slots := 3, locals := 14 } : Room) s m #[] below meth c s₁ [] 0 0 := Stand.of_body Bd
  have e0 : s₁.heap = h0 := by rw [← hh, Bd.state]; rfl
  have N0 := Fr.nil n0
  have pre0 : ∀ t, Steps p.tables e below (s₁.setTop (mkF m 0 #[] [])) t → Steps p.tables e below (s₁.setTop (entryFrame m #[] 0)) t := fun t k => castTop (own_efrm_values m) k
  obtain ⟨T1, X1, e1, st1⟩ := getS2 X0 hx hZ hown (host := "") (Or.inl (hw _ (List.mem_of_getElem? (i := 33) rfl))) Via.refl e0 (O_VALUES.ext X00.2) (g := (mkF m 0 #[] [])) rfl (hb hby own_d_prog_9_method_1_0)
  obtain ⟨T2, h2, X2, e2, E2, Vc2, A2, st2⟩ := cloneH X1 hx hZ hown (hw _ (List.mem_of_getElem? (i := 35) rfl)) (hw _ (List.mem_of_getElem? (i := 36) rfl)) (hw _ (List.mem_of_getElem? (i := 40) rfl)) (hw _ (List.mem_of_getElem? (i := 38) rfl)) (hw _ (List.mem_of_getElem? (i := 39) rfl)) (hw _ (List.mem_of_getElem? (i := 41) rfl)) e1 (Arv.arh (V_VALUES.ext X00.2)) (E_VALUES.ext X00.2) (g := (mkF m 3 #[] [(.ref k_VALUES)])) rfl (by rw [hml]; rfl) rfl (hb hby own_d_prog_9_method_1_3) (by decide) (W := 0) (cap := 3) (by show 2 * 0 + _ ≤ _; exact Nat.le_of_eq rfl) (by decide) (by decide) (by decide) (by decide)
  obtain ⟨b2, g2⟩ : ∃ z, z = h0.size := ⟨_, rfl⟩
  rw [← g2] at Vc2 A2 st2
  have Kp3 : Keep h0 h2 [] := (Keep.refl h0 []).ext E2
  have Vh4 : Arv Z h2 b2 kv_VALUES (.object "com/example/dragoman/dragoman/core/Language") (3 : Int32) [(.ref k_ENGLISH), (.ref k_JAPANESE), (.ref k_CHINESE)] .null := Vc2
  obtain ⟨T5, X5, e5, st5⟩ := castY X2 hx hZ hown (hw _ (List.mem_of_getElem? (i := 46) rfl)) e2 (Ins.self A2) (g := (mkF m 6 #[] [(.ref b2)])) rfl rfl (hb hby own_d_prog_9_method_1_6)
  obtain ⟨fs, hr, hrun, hended, hW, hsame⟩ := X5.leave (v := some (.ref b2)) (fun h => by rw [Bd.returns] at h; cases h)
  refine ⟨_, _, pre0 _ ?_, hrun, hended, _, _, rfl, ?_, ⟨_, rfl⟩, hW, hsame.mono (by decide) (by decide)⟩
  · show Steps p.tables e below (s₁.setTop (mkF m 0 #[] [])) _
    refine st1 _ ?_
    show Steps p.tables e below (T1.setTop (mkF m 3 #[] [(.ref k_VALUES)])) _
    refine st2 _ ?_
    show Steps p.tables e below (T2.setTop (mkF m 6 #[] [(.ref b2)])) _
    refine st5 _ ?_
    show Steps p.tables e below (T5.setTop (mkF m 9 #[] [(.ref b2)])) _
    jvm_step X5.here [X5.here.top, hx, (hb hby own_d_prog_9_method_1_9), X5.method', Bd.returns, Value.isRef, FieldType.isReference]
    first | (intro acts; rw [hr _ acts rfl rfl rfl]) | rw [hr _ _ rfl rfl rfl]
    exact Steps.refl _
  · show own_Qrm_values Z G1 G3 k_EMPTY k_ENGLISH s_ENGLISH t_ENGLISH kb_ENGLISH k_JAPANESE s_JAPANESE t_JAPANESE kb_JAPANESE k_CHINESE s_CHINESE t_CHINESE kb_CHINESE k_VALUES kv_VALUES  h0 n0 _ T5.heap _
    rw [e5]
    exact ⟨b2, rfl, N0, Kp3, (Nat.le_trans (Keep.refl h0 []).1 (Nat.le_of_eq g2.symm)), Vh4, A2⟩
theorem own_d_method_2_0 : decode method_2_code 0 = .ok (.iload_n 0, 1) := by decide +kernel
theorem own_d_method_2_1 : decode method_2_code 1 = .ok (.sipush 256, 3) := by decide +kernel
theorem own_d_method_2_4 : decode method_2_code 4 = .ok (.iand, 1) := by decide +kernel
theorem own_d_method_2_5 : decode method_2_code 5 = .ok (.ifCond .eq 19, 3) := by decide +kernel
theorem own_d_method_2_8 : decode method_2_code 8 = .ok (.iload_n 0, 1) := by decide +kernel
theorem own_d_method_2_9 : decode method_2_code 9 = .ok (.sipush 255, 3) := by decide +kernel
theorem own_d_method_2_12 : decode method_2_code 12 = .ok (.iand, 1) := by decide +kernel
theorem own_d_method_2_13 : decode method_2_code 13 = .ok (.bipush 6, 2) := by decide +kernel
theorem own_d_method_2_15 : decode method_2_code 15 = .ok (.irem, 1) := by decide +kernel
theorem own_d_method_2_16 : decode method_2_code 16 = .ok (.istore_n 1, 1) := by decide +kernel
theorem own_d_method_2_17 : decode method_2_code 17 = .ok (.ldc 7, 2) := by decide +kernel
theorem own_d_method_2_19 : decode method_2_code 19 = .ok (.iload_n 1, 1) := by decide +kernel
theorem own_d_method_2_20 : decode method_2_code 20 = .ok (.invokevirtual 9, 3) := by decide +kernel
theorem own_pd7 : parseMethodDescriptor "(I)C" = some ⟨[.int], some .char⟩ := by decide +kernel
theorem own_d_method_2_23 : decode method_2_code 23 = .ok (.ireturn, 1) := by decide +kernel
theorem own_pn8 : plainName "com/example/dragoman/dragoman/core/LanguageForCodePinLaw" = true := by first | (simp [plainName, overriddenIn]; done) | decide +kernel
def own_Qrm_pk0 (Z : State) (G1 : Int32) (G3 : Value) (k_EMPTY : Addr) (k_ENGLISH : Addr) (s_ENGLISH : Addr) (t_ENGLISH : Addr) (kb_ENGLISH : ClassId) (k_JAPANESE : Addr) (s_JAPANESE : Addr) (t_JAPANESE : Addr) (kb_JAPANESE : ClassId) (k_CHINESE : Addr) (s_CHINESE : Addr) (t_CHINESE : Addr) (kb_CHINESE : ClassId) (k_VALUES : Addr) (kv_VALUES : ClassId) (p1 : Int32) (h0 : Heap) (n0 : Nat) (v : Option Value) (h : Heap) (L : List Loc) : Prop := (v = some (.int (101 : Int32))) ∧ (Fr n0 L) ∧ (Keep h0 h [])
theorem own_efrm_pk0 (m : MethodId) (p1 : Int32) : entryFrame m #[(.int p1)] 2 = mkF m 0 #[.val (.int p1), .unset] [] := by first | (simp [entryFrame, mkF, argsToLocals, Value.category]; done) | rfl
set_option maxRecDepth 65536 in
set_option maxHeartbeats 40000000 in
theorem own_rm_pk0 (l : Launch) (Z : State) (a0 : Array Value) (hw : ∀ d ∈ tables_1, d.before a0 Z = true) (ws : List Jvm.Cond) (G1 : Int32) (G3 : Value) (k_EMPTY : Addr) (k_ENGLISH : Addr) (s_ENGLISH : Addr) (t_ENGLISH : Addr) (kb_ENGLISH : ClassId) (k_JAPANESE : Addr) (s_JAPANESE : Addr) (t_JAPANESE : Addr) (kb_JAPANESE : ClassId) (k_CHINESE : Addr) (s_CHINESE : Addr) (t_CHINESE : Addr) (kb_CHINESE : ClassId) (k_VALUES : Addr) (kv_VALUES : ClassId) (gl : own_Glob Z G1 G3 k_EMPTY k_ENGLISH s_ENGLISH t_ENGLISH kb_ENGLISH k_JAPANESE s_JAPANESE t_JAPANESE kb_JAPANESE k_CHINESE s_CHINESE t_CHINESE kb_CHINESE k_VALUES kv_VALUES) (p1 : Int32) (h0 : Heap) (n0 : Nat) (Z0 : n0 ≤ h0.size) (X00 : Old Z n0 h0) (hc1 : ¬ ((p1 &&& (256 : Int32)) = (0 : Int32))) (hj : own_k6 p1 = 0) :
    MetFree l (⟨"com/example/dragoman/dragoman/core/LanguageForCodePinLaw", "pick", "(I)C"⟩ : MethodName) (head1 (Jvm.Cond.code (⟨"com/example/dragoman/dragoman/core/LanguageForCodePinLaw", "pick", "(I)C"⟩ : MethodName) method_2_code 2 (some .char) :: ws) ({ frames := 4, cells := 2, slots := 28, locals := 53 } : Room)) (fun a U => a = #[(.int p1)] ∧ Z.Warmed39 U.vm ∧ U.heap = h0 ∧ CHv Z consts_1 U.vm h0) (fun _ _ _ _ _ => True) (fun _ U o U' => ∃ v L, o = .returned v ∧ own_Qrm_pk0 Z G1 G3 k_EMPTY k_ENGLISH s_ENGLISH t_ENGLISH kb_ENGLISH k_JAPANESE s_JAPANESE t_JAPANESE kb_JAPANESE k_CHINESE s_CHINESE t_CHINESE kb_CHINESE k_VALUES kv_VALUES p1 h0 n0 v U'.heap L ∧ CHr Z consts_1 U.vm U.heap U'.vm U'.heap ∧ ReturnedEndW U o U' L ({ frames := 4, cells := 2, slots := 28, locals := 53 } : Room).cells ({ frames := 4, cells := 2, slots := 28, locals := 53 } : Room).slots) := by
  refine MetFree.of_bodySF (plainFor_of_name own_pn8) hisR ?_
  intro p e s m args below meth c s₁ Bd hml0 hP hK
  obtain ⟨rfl, hZ, hh, hCH⟩ := hP
  obtain ⟨O_CS, P_CS, O_SI, P_SI, O_EMPTY, E_EMPTY, F_EMPTY, O_ENGLISH, E_ENGLISH, Fs_ENGLISH, Es_ENGLISH, Fc_ENGLISH, Fv_ENGLISH, V_ENGLISH, O_JAPANESE, E_JAPANESE, Fs_JAPANESE, Es_JAPANESE, Fc_JAPANESE, Fv_JAPANESE, V_JAPANESE, O_CHINESE, E_CHINESE, Fs_CHINESE, Es_CHINESE, Fc_CHINESE, Fv_CHINESE, V_CHINESE, O_VALUES, E_VALUES, V_VALUES⟩ := id gl
  have hx := Bd.exec
  have hby := Bd.bytes
  have hml : c.maxLocals = 2 := hml0
  have hown : s.vm.findClass "com/example/dragoman/dragoman/core/LanguageForCodePinLaw" = some m.cls := findClass_of_methodNamed Bd.named
  have hnm := (name_of_methodNamed Bd.named Bd.method).1
  have X0 : Stand p l e ({ frames := 4, cells := 2, slots := 28, locals := 53 } : Room) s m #[(.int p1)] below meth c s₁ [] 0 0 := Stand.of_body Bd
  have e0 : s₁.heap = h0 := by rw [← hh, Bd.state]; rfl
  have N0 := Fr.nil n0
  have pre0 : ∀ t, Steps p.tables e below (s₁.setTop (mkF m 0 #[.val (.int p1), .unset] [])) t → Steps p.tables e below (s₁.setTop (entryFrame m #[(.int p1)] 2)) t := fun t k => castTop (own_efrm_pk0 m p1) k
  obtain ⟨la1, T1, h1, kS1, lb1, lk1, X1, e1, E1, hS1, hk1, hZ1, hown1, Ea1, Ca1, Va1, Ba1, lt1, ltb1, hC1, hL1, hne1, st1⟩ := ldcCH (s := s) (vm0 := s.vm) X0 hx hZ hown (hw _ (List.mem_of_getElem? (i := 83) rfl)) (fun d hd => hw d (own_strAtoms d hd)) e0 ((State.WarmedH.refl s).since 0) (Nat.zero_le _) (own_EW hw) (by decide) hCH (vs := ((([(101 : Int32), (110 : Int32), (106 : Int32), (97 : Int32), (122 : Int32), (104 : Int32)] : List Int32).map (fun c => c.toInt8.toInt32)).map Value.int)) (z := (6 : Int32)) ⟨by decide, rfl⟩ (by decide) rfl (g := (mkF m 17 #[.val (.int p1), .val (.int (0 : Int32))] [])) rfl (hb hby own_d_method_2_17) (n := 24) (by decide) (by decide) (by decide) (by decide)
  have Kp2 : Keep h0 h1 [] := (Keep.refl h0 []).ext E1
  have hph3 : ∀ c ∈ ([(101 : Int32), (110 : Int32), (106 : Int32), (97 : Int32), (122 : Int32), (104 : Int32)] : List Int32), ¬ c < 0 ∧ ¬ (255 : Int32) < c := (own_cS (by decide) (own_cS (by decide) (own_cS (by decide) (own_cS (by decide) (own_cS (by decide) (own_cS (by decide) own_c0))))))
  have cdh4 : StrChars.Road.CodA ([(101 : Int32), (110 : Int32), (106 : Int32), (97 : Int32), (122 : Int32), (104 : Int32)] : List Int32) 0 (6 : Int32) ((([(101 : Int32), (110 : Int32), (106 : Int32), (97 : Int32), (122 : Int32), (104 : Int32)] : List Int32).map (fun c => c.toInt8.toInt32)).map Value.int) := (StrChars.Road.codOf (cs := ([(101 : Int32), (110 : Int32), (106 : Int32), (97 : Int32), (122 : Int32), (104 : Int32)] : List Int32)) (n := 6) rfl (fun c hc => (hph3 c hc).2))
  have hws_wordsChN : ∀ d ∈ StrChars.Road.wordsChN, d.before a0 Z = true := fun d hd => hw d (own_hws_wordsChN d hd)
  have Old5 : Old Z n0 h1 := X00.ext E1
  obtain ⟨cq6, kq6, q6a, q6b, q6c⟩ := isOf hZ1 e1 Ea1
  obtain ⟨_, _, ⟨T6, L6, k6, n6⟩, -, X6, ⟨Lc6, hQ6, l6, y6, z6⟩, st6⟩ := X1.virtualBack hx (y := (⟨"java/lang/String", "charAt", "(I)C"⟩ : MethodName)) (z := (⟨"java/lang/String", "charAt", "(I)C"⟩ : MethodName)) hown1 (mvT hZ1 (hw _ (List.mem_of_getElem? (i := 84) rfl))) (mvT hZ1 (hw _ (List.mem_of_getElem? (i := 85) rfl))) (notFace_of_selects (args := #[]) (mvT hZ1 (hw _ (List.mem_of_getElem? (i := 87) rfl)))) (mvT hZ1 (hw _ (List.mem_of_getElem? (i := 87) rfl))) (mvT hZ1 (hw _ (List.mem_of_getElem? (i := 86) rfl))) (by decide) (StrChars.Road.chN (W := 0) hZ1 hws_wordsChN (kI := 4) (hw _ (List.mem_of_getElem? (i := 5) rfl)) Ea1 Va1 Ca1 Ba1 cdh4 (own_up _ hph3) (O_CS.ext Old5.2) P_CS (O_SI.ext Old5.2) P_SI (Nat.le_of_ble_eq_true rfl) (i := 0) (Nat.le_of_ble_eq_true rfl) (j := (0 : Int32)) rfl (by decide) (by decide)) q6a q6c (g := (mkF m 20 #[.val (.int p1), .val (.int (0 : Int32))] [(.int (0 : Int32)), (.ref la1)])) rfl (by rw [hml]; rfl) (Steps.refl _) (argsL := [(.int (0 : Int32))]) (rest := []) (lenOf own_pd7 rfl) rfl (by show 2 * 0 + _ ≤ _; exact Nat.le_of_eq rfl) (hb hby own_d_method_2_20) (fun _ _ => ⟨rfl, e1, (by decide : 2 + 0 ≤ _), (by decide : 28 + 0 ≤ _)⟩)
  dsimp only [Pt.U, Pt.locs, Pt.cells, Pt.slots] at X6 l6 y6 z6 st6 hQ6
  subst y6 z6
  obtain ⟨rfl, rfl, e6⟩ := hQ6
  have N6 : Fr n0 L6 := by rw [l6]; exact Fr.app N0 (Fr.nil n0)
  have hCRf : CHr Z consts_1 s.vm s.heap T6.vm T6.heap := by rw [hh, e6]; exact ((CHr.refl hCH).trans hC1).trans (CHv.at (vm0 := T1.vm) X6 hZ1 (own_EW hw) hC1.1)
  obtain ⟨fs, hr, hrun, hended, hREW⟩ := X6.leaveW hS1 (by rw [e6]; exact hk1) (v := some (.int (101 : Int32))) (fun h => by rw [Bd.returns] at h; cases h)
  refine ⟨_, _, pre0 _ ?_, hrun, hended, _, _, rfl, ?_, hCRf, hREW.1, hREW.2.1, hREW.2.2.1, hREW.2.2.2.mono (by decide) (by decide)⟩
  · show Steps p.tables e below (s₁.setTop (mkF m 0 #[.val (.int p1), .unset] [])) _
    refine XS.iloadN X0.here hx rfl (hb hby own_d_method_2_0) rfl ?_
    show Steps p.tables e below (s₁.setTop (mkF m 1 #[.val (.int p1), .unset] [(.int p1)])) _
    refine XS.sipush X0.here hx rfl (hb hby own_d_method_2_1) ?_
    show Steps p.tables e below (s₁.setTop (mkF m 4 #[.val (.int p1), .unset] [(.int (256 : Int32)), (.int p1)])) _
    refine XS.iand X0.here hx rfl (hb hby own_d_method_2_4) rfl ?_
    show Steps p.tables e below (s₁.setTop (mkF m 5 #[.val (.int p1), .unset] [(.int (p1 &&& (256 : Int32)))])) _
    refine XS.ifNo X0.here hx rfl (hb hby own_d_method_2_5) rfl ((if0 _ _).trans (feq hc1).1) ?_
    show Steps p.tables e below (s₁.setTop (mkF m 8 #[.val (.int p1), .unset] [])) _
    refine XS.iloadN X0.here hx rfl (hb hby own_d_method_2_8) rfl ?_
    show Steps p.tables e below (s₁.setTop (mkF m 9 #[.val (.int p1), .unset] [(.int p1)])) _
    refine XS.sipush X0.here hx rfl (hb hby own_d_method_2_9) ?_
    show Steps p.tables e below (s₁.setTop (mkF m 12 #[.val (.int p1), .unset] [(.int (255 : Int32)), (.int p1)])) _
    refine XS.iand X0.here hx rfl (hb hby own_d_method_2_12) rfl ?_
    show Steps p.tables e below (s₁.setTop (mkF m 13 #[.val (.int p1), .unset] [(.int (p1 &&& (255 : Int32)))])) _
    refine XS.bipush X0.here hx rfl (hb hby own_d_method_2_13) ?_
    show Steps p.tables e below (s₁.setTop (mkF m 15 #[.val (.int p1), .unset] [(.int (6 : Int32)), (.int (p1 &&& (255 : Int32)))])) _
    refine iremM X0 hx rfl (hb hby own_d_method_2_15) rfl (by decide) ?_
    show Steps p.tables e below (s₁.setTop (mkF m 16 #[.val (.int p1), .unset] [(.int (own_k6 p1))])) _
    rw [hj]
    show Steps p.tables e below (s₁.setTop (mkF m 16 #[.val (.int p1), .unset] [(.int (0 : Int32))])) _
    refine XS.istoreN X0.here hx rfl (hb hby own_d_method_2_16) rfl (l' := #[.val (.int p1), .val (.int (0 : Int32))]) rfl ?_
    show Steps p.tables e below (s₁.setTop (mkF m 17 #[.val (.int p1), .val (.int (0 : Int32))] [])) _
    refine st1 _ ?_
    show Steps p.tables e below (T1.setTop (mkF m 19 #[.val (.int p1), .val (.int (0 : Int32))] [(.ref la1)])) _
    refine XS.iloadN X1.here hx rfl (hb hby own_d_method_2_19) rfl ?_
    show Steps p.tables e below (T1.setTop (mkF m 20 #[.val (.int p1), .val (.int (0 : Int32))] [(.int (0 : Int32)), (.ref la1)])) _
    refine st6.trans ?_
    show Steps p.tables e below (T6.setTop (mkF m 23 #[.val (.int p1), .val (.int (0 : Int32))] [(.int (101 : Int32))])) _
    exact retN X6 hx (t := .char) Bd.returns (by simp) (hb hby own_d_method_2_23) hr
  · show own_Qrm_pk0 Z G1 G3 k_EMPTY k_ENGLISH s_ENGLISH t_ENGLISH kb_ENGLISH k_JAPANESE s_JAPANESE t_JAPANESE kb_JAPANESE k_CHINESE s_CHINESE t_CHINESE kb_CHINESE k_VALUES kv_VALUES p1 h0 n0 _ T6.heap _
    rw [e6]
    exact ⟨rfl, N6, Kp2⟩
def own_Qrm_pk1 (Z : State) (G1 : Int32) (G3 : Value) (k_EMPTY : Addr) (k_ENGLISH : Addr) (s_ENGLISH : Addr) (t_ENGLISH : Addr) (kb_ENGLISH : ClassId) (k_JAPANESE : Addr) (s_JAPANESE : Addr) (t_JAPANESE : Addr) (kb_JAPANESE : ClassId) (k_CHINESE : Addr) (s_CHINESE : Addr) (t_CHINESE : Addr) (kb_CHINESE : ClassId) (k_VALUES : Addr) (kv_VALUES : ClassId) (p1 : Int32) (h0 : Heap) (n0 : Nat) (v : Option Value) (h : Heap) (L : List Loc) : Prop := (v = some (.int (110 : Int32))) ∧ (Fr n0 L) ∧ (Keep h0 h [])
theorem own_efrm_pk1 (m : MethodId) (p1 : Int32) : entryFrame m #[(.int p1)] 2 = mkF m 0 #[.val (.int p1), .unset] [] := by first | (simp [entryFrame, mkF, argsToLocals, Value.category]; done) | rfl
set_option maxRecDepth 65536 in
set_option maxHeartbeats 40000000 in
theorem own_rm_pk1 (l : Launch) (Z : State) (a0 : Array Value) (hw : ∀ d ∈ tables_1, d.before a0 Z = true) (ws : List Jvm.Cond) (G1 : Int32) (G3 : Value) (k_EMPTY : Addr) (k_ENGLISH : Addr) (s_ENGLISH : Addr) (t_ENGLISH : Addr) (kb_ENGLISH : ClassId) (k_JAPANESE : Addr) (s_JAPANESE : Addr) (t_JAPANESE : Addr) (kb_JAPANESE : ClassId) (k_CHINESE : Addr) (s_CHINESE : Addr) (t_CHINESE : Addr) (kb_CHINESE : ClassId) (k_VALUES : Addr) (kv_VALUES : ClassId) (gl : own_Glob Z G1 G3 k_EMPTY k_ENGLISH s_ENGLISH t_ENGLISH kb_ENGLISH k_JAPANESE s_JAPANESE t_JAPANESE kb_JAPANESE k_CHINESE s_CHINESE t_CHINESE kb_CHINESE k_VALUES kv_VALUES) (p1 : Int32) (h0 : Heap) (n0 : Nat) (Z0 : n0 ≤ h0.size) (X00 : Old Z n0 h0) (hc1 : ¬ ((p1 &&& (256 : Int32)) = (0 : Int32))) (hj : own_k6 p1 = 1) :
    MetFree l (⟨"com/example/dragoman/dragoman/core/LanguageForCodePinLaw", "pick", "(I)C"⟩ : MethodName) (head1 (Jvm.Cond.code (⟨"com/example/dragoman/dragoman/core/LanguageForCodePinLaw", "pick", "(I)C"⟩ : MethodName) method_2_code 2 (some .char) :: ws) ({ frames := 4, cells := 2, slots := 28, locals := 53 } : Room)) (fun a U => a = #[(.int p1)] ∧ Z.Warmed39 U.vm ∧ U.heap = h0 ∧ CHv Z consts_1 U.vm h0) (fun _ _ _ _ _ => True) (fun _ U o U' => ∃ v L, o = .returned v ∧ own_Qrm_pk1 Z G1 G3 k_EMPTY k_ENGLISH s_ENGLISH t_ENGLISH kb_ENGLISH k_JAPANESE s_JAPANESE t_JAPANESE kb_JAPANESE k_CHINESE s_CHINESE t_CHINESE kb_CHINESE k_VALUES kv_VALUES p1 h0 n0 v U'.heap L ∧ CHr Z consts_1 U.vm U.heap U'.vm U'.heap ∧ ReturnedEndW U o U' L ({ frames := 4, cells := 2, slots := 28, locals := 53 } : Room).cells ({ frames := 4, cells := 2, slots := 28, locals := 53 } : Room).slots) := by
  refine MetFree.of_bodySF (plainFor_of_name own_pn8) hisR ?_
  intro p e s m args below meth c s₁ Bd hml0 hP hK
  obtain ⟨rfl, hZ, hh, hCH⟩ := hP
  obtain ⟨O_CS, P_CS, O_SI, P_SI, O_EMPTY, E_EMPTY, F_EMPTY, O_ENGLISH, E_ENGLISH, Fs_ENGLISH, Es_ENGLISH, Fc_ENGLISH, Fv_ENGLISH, V_ENGLISH, O_JAPANESE, E_JAPANESE, Fs_JAPANESE, Es_JAPANESE, Fc_JAPANESE, Fv_JAPANESE, V_JAPANESE, O_CHINESE, E_CHINESE, Fs_CHINESE, Es_CHINESE, Fc_CHINESE, Fv_CHINESE, V_CHINESE, O_VALUES, E_VALUES, V_VALUES⟩ := id gl
  have hx := Bd.exec
  have hby := Bd.bytes
  have hml : c.maxLocals = 2 := hml0
  have hown : s.vm.findClass "com/example/dragoman/dragoman/core/LanguageForCodePinLaw" = some m.cls := findClass_of_methodNamed Bd.named
  have hnm := (name_of_methodNamed Bd.named Bd.method).1
  have X0 : Stand p l e ({ frames := 4, cells := 2, slots := 28, locals := 53 } : Room) s m #[(.int p1)] below meth c s₁ [] 0 0 := Stand.of_body Bd
  have e0 : s₁.heap = h0 := by rw [← hh, Bd.state]; rfl
  have N0 := Fr.nil n0
  have pre0 : ∀ t, Steps p.tables e below (s₁.setTop (mkF m 0 #[.val (.int p1), .unset] [])) t → Steps p.tables e below (s₁.setTop (entryFrame m #[(.int p1)] 2)) t := fun t k => castTop (own_efrm_pk1 m p1) k
  obtain ⟨la1, T1, h1, kS1, lb1, lk1, X1, e1, E1, hS1, hk1, hZ1, hown1, Ea1, Ca1, Va1, Ba1, lt1, ltb1, hC1, hL1, hne1, st1⟩ := ldcCH (s := s) (vm0 := s.vm) X0 hx hZ hown (hw _ (List.mem_of_getElem? (i := 83) rfl)) (fun d hd => hw d (own_strAtoms d hd)) e0 ((State.WarmedH.refl s).since 0) (Nat.zero_le _) (own_EW hw) (by decide) hCH (vs := ((([(101 : Int32), (110 : Int32), (106 : Int32), (97 : Int32), (122 : Int32), (104 : Int32)] : List Int32).map (fun c => c.toInt8.toInt32)).map Value.int)) (z := (6 : Int32)) ⟨by decide, rfl⟩ (by decide) rfl (g := (mkF m 17 #[.val (.int p1), .val (.int (1 : Int32))] [])) rfl (hb hby own_d_method_2_17) (n := 24) (by decide) (by decide) (by decide) (by decide)
  have Kp2 : Keep h0 h1 [] := (Keep.refl h0 []).ext E1
  have hph3 : ∀ c ∈ ([(101 : Int32), (110 : Int32), (106 : Int32), (97 : Int32), (122 : Int32), (104 : Int32)] : List Int32), ¬ c < 0 ∧ ¬ (255 : Int32) < c := (own_cS (by decide) (own_cS (by decide) (own_cS (by decide) (own_cS (by decide) (own_cS (by decide) (own_cS (by decide) own_c0))))))
  have cdh4 : StrChars.Road.CodA ([(101 : Int32), (110 : Int32), (106 : Int32), (97 : Int32), (122 : Int32), (104 : Int32)] : List Int32) 0 (6 : Int32) ((([(101 : Int32), (110 : Int32), (106 : Int32), (97 : Int32), (122 : Int32), (104 : Int32)] : List Int32).map (fun c => c.toInt8.toInt32)).map Value.int) := (StrChars.Road.codOf (cs := ([(101 : Int32), (110 : Int32), (106 : Int32), (97 : Int32), (122 : Int32), (104 : Int32)] : List Int32)) (n := 6) rfl (fun c hc => (hph3 c hc).2))
  have hws_wordsChN : ∀ d ∈ StrChars.Road.wordsChN, d.before a0 Z = true := fun d hd => hw d (own_hws_wordsChN d hd)
  have Old5 : Old Z n0 h1 := X00.ext E1
  obtain ⟨cq6, kq6, q6a, q6b, q6c⟩ := isOf hZ1 e1 Ea1
  obtain ⟨_, _, ⟨T6, L6, k6, n6⟩, -, X6, ⟨Lc6, hQ6, l6, y6, z6⟩, st6⟩ := X1.virtualBack hx (y := (⟨"java/lang/String", "charAt", "(I)C"⟩ : MethodName)) (z := (⟨"java/lang/String", "charAt", "(I)C"⟩ : MethodName)) hown1 (mvT hZ1 (hw _ (List.mem_of_getElem? (i := 84) rfl))) (mvT hZ1 (hw _ (List.mem_of_getElem? (i := 85) rfl))) (notFace_of_selects (args := #[]) (mvT hZ1 (hw _ (List.mem_of_getElem? (i := 87) rfl)))) (mvT hZ1 (hw _ (List.mem_of_getElem? (i := 87) rfl))) (mvT hZ1 (hw _ (List.mem_of_getElem? (i := 86) rfl))) (by decide) (StrChars.Road.chN (W := 0) hZ1 hws_wordsChN (kI := 4) (hw _ (List.mem_of_getElem? (i := 5) rfl)) Ea1 Va1 Ca1 Ba1 cdh4 (own_up _ hph3) (O_CS.ext Old5.2) P_CS (O_SI.ext Old5.2) P_SI (Nat.le_of_ble_eq_true rfl) (i := 1) (Nat.le_of_ble_eq_true rfl) (j := (1 : Int32)) rfl (by decide) (by decide)) q6a q6c (g := (mkF m 20 #[.val (.int p1), .val (.int (1 : Int32))] [(.int (1 : Int32)), (.ref la1)])) rfl (by rw [hml]; rfl) (Steps.refl _) (argsL := [(.int (1 : Int32))]) (rest := []) (lenOf own_pd7 rfl) rfl (by show 2 * 0 + _ ≤ _; exact Nat.le_of_eq rfl) (hb hby own_d_method_2_20) (fun _ _ => ⟨rfl, e1, (by decide : 2 + 0 ≤ _), (by decide : 28 + 0 ≤ _)⟩)
  dsimp only [Pt.U, Pt.locs, Pt.cells, Pt.slots] at X6 l6 y6 z6 st6 hQ6
  subst y6 z6
  obtain ⟨rfl, rfl, e6⟩ := hQ6
  have N6 : Fr n0 L6 := by rw [l6]; exact Fr.app N0 (Fr.nil n0)
  have hCRf : CHr Z consts_1 s.vm s.heap T6.vm T6.heap := by rw [hh, e6]; exact ((CHr.refl hCH).trans hC1).trans (CHv.at (vm0 := T1.vm) X6 hZ1 (own_EW hw) hC1.1)
  obtain ⟨fs, hr, hrun, hended, hREW⟩ := X6.leaveW hS1 (by rw [e6]; exact hk1) (v := some (.int (110 : Int32))) (fun h => by rw [Bd.returns] at h; cases h)
  refine ⟨_, _, pre0 _ ?_, hrun, hended, _, _, rfl, ?_, hCRf, hREW.1, hREW.2.1, hREW.2.2.1, hREW.2.2.2.mono (by decide) (by decide)⟩
  · show Steps p.tables e below (s₁.setTop (mkF m 0 #[.val (.int p1), .unset] [])) _
    refine XS.iloadN X0.here hx rfl (hb hby own_d_method_2_0) rfl ?_
    show Steps p.tables e below (s₁.setTop (mkF m 1 #[.val (.int p1), .unset] [(.int p1)])) _
    refine XS.sipush X0.here hx rfl (hb hby own_d_method_2_1) ?_
    show Steps p.tables e below (s₁.setTop (mkF m 4 #[.val (.int p1), .unset] [(.int (256 : Int32)), (.int p1)])) _
    refine XS.iand X0.here hx rfl (hb hby own_d_method_2_4) rfl ?_
    show Steps p.tables e below (s₁.setTop (mkF m 5 #[.val (.int p1), .unset] [(.int (p1 &&& (256 : Int32)))])) _
    refine XS.ifNo X0.here hx rfl (hb hby own_d_method_2_5) rfl ((if0 _ _).trans (feq hc1).1) ?_
    show Steps p.tables e below (s₁.setTop (mkF m 8 #[.val (.int p1), .unset] [])) _
    refine XS.iloadN X0.here hx rfl (hb hby own_d_method_2_8) rfl ?_
    show Steps p.tables e below (s₁.setTop (mkF m 9 #[.val (.int p1), .unset] [(.int p1)])) _
    refine XS.sipush X0.here hx rfl (hb hby own_d_method_2_9) ?_
    show Steps p.tables e below (s₁.setTop (mkF m 12 #[.val (.int p1), .unset] [(.int (255 : Int32)), (.int p1)])) _
    refine XS.iand X0.here hx rfl (hb hby own_d_method_2_12) rfl ?_
    show Steps p.tables e below (s₁.setTop (mkF m 13 #[.val (.int p1), .unset] [(.int (p1 &&& (255 : Int32)))])) _
    refine XS.bipush X0.here hx rfl (hb hby own_d_method_2_13) ?_
    show Steps p.tables e below (s₁.setTop (mkF m 15 #[.val (.int p1), .unset] [(.int (6 : Int32)), (.int (p1 &&& (255 : Int32)))])) _
    refine iremM X0 hx rfl (hb hby own_d_method_2_15) rfl (by decide) ?_
    show Steps p.tables e below (s₁.setTop (mkF m 16 #[.val (.int p1), .unset] [(.int (own_k6 p1))])) _
    rw [hj]
    show Steps p.tables e below (s₁.setTop (mkF m 16 #[.val (.int p1), .unset] [(.int (1 : Int32))])) _
    refine XS.istoreN X0.here hx rfl (hb hby own_d_method_2_16) rfl (l' := #[.val (.int p1), .val (.int (1 : Int32))]) rfl ?_
    show Steps p.tables e below (s₁.setTop (mkF m 17 #[.val (.int p1), .val (.int (1 : Int32))] [])) _
    refine st1 _ ?_
    show Steps p.tables e below (T1.setTop (mkF m 19 #[.val (.int p1), .val (.int (1 : Int32))] [(.ref la1)])) _
    refine XS.iloadN X1.here hx rfl (hb hby own_d_method_2_19) rfl ?_
    show Steps p.tables e below (T1.setTop (mkF m 20 #[.val (.int p1), .val (.int (1 : Int32))] [(.int (1 : Int32)), (.ref la1)])) _
    refine st6.trans ?_
    show Steps p.tables e below (T6.setTop (mkF m 23 #[.val (.int p1), .val (.int (1 : Int32))] [(.int (110 : Int32))])) _
    exact retN X6 hx (t := .char) Bd.returns (by simp) (hb hby own_d_method_2_23) hr
  · show own_Qrm_pk1 Z G1 G3 k_EMPTY k_ENGLISH s_ENGLISH t_ENGLISH kb_ENGLISH k_JAPANESE s_JAPANESE t_JAPANESE kb_JAPANESE k_CHINESE s_CHINESE t_CHINESE kb_CHINESE k_VALUES kv_VALUES p1 h0 n0 _ T6.heap _
    rw [e6]
    exact ⟨rfl, N6, Kp2⟩
def own_Qrm_pk2 (Z : State) (G1 : Int32) (G3 : Value) (k_EMPTY : Addr) (k_ENGLISH : Addr) (s_ENGLISH : Addr) (t_ENGLISH : Addr) (kb_ENGLISH : ClassId) (k_JAPANESE : Addr) (s_JAPANESE : Addr) (t_JAPANESE : Addr) (kb_JAPANESE : ClassId) (k_CHINESE : Addr) (s_CHINESE : Addr) (t_CHINESE : Addr) (kb_CHINESE : ClassId) (k_VALUES : Addr) (kv_VALUES : ClassId) (p1 : Int32) (h0 : Heap) (n0 : Nat) (v : Option Value) (h : Heap) (L : List Loc) : Prop := (v = some (.int (106 : Int32))) ∧ (Fr n0 L) ∧ (Keep h0 h [])
theorem own_efrm_pk2 (m : MethodId) (p1 : Int32) : entryFrame m #[(.int p1)] 2 = mkF m 0 #[.val (.int p1), .unset] [] := by first | (simp [entryFrame, mkF, argsToLocals, Value.category]; done) | rfl
set_option maxRecDepth 65536 in
set_option maxHeartbeats 40000000 in
theorem own_rm_pk2 (l : Launch) (Z : State) (a0 : Array Value) (hw : ∀ d ∈ tables_1, d.before a0 Z = true) (ws : List Jvm.Cond) (G1 : Int32) (G3 : Value) (k_EMPTY : Addr) (k_ENGLISH : Addr) (s_ENGLISH : Addr) (t_ENGLISH : Addr) (kb_ENGLISH : ClassId) (k_JAPANESE : Addr) (s_JAPANESE : Addr) (t_JAPANESE : Addr) (kb_JAPANESE : ClassId) (k_CHINESE : Addr) (s_CHINESE : Addr) (t_CHINESE : Addr) (kb_CHINESE : ClassId) (k_VALUES : Addr) (kv_VALUES : ClassId) (gl : own_Glob Z G1 G3 k_EMPTY k_ENGLISH s_ENGLISH t_ENGLISH kb_ENGLISH k_JAPANESE s_JAPANESE t_JAPANESE kb_JAPANESE k_CHINESE s_CHINESE t_CHINESE kb_CHINESE k_VALUES kv_VALUES) (p1 : Int32) (h0 : Heap) (n0 : Nat) (Z0 : n0 ≤ h0.size) (X00 : Old Z n0 h0) (hc1 : ¬ ((p1 &&& (256 : Int32)) = (0 : Int32))) (hj : own_k6 p1 = 2) :
    MetFree l (⟨"com/example/dragoman/dragoman/core/LanguageForCodePinLaw", "pick", "(I)C"⟩ : MethodName) (head1 (Jvm.Cond.code (⟨"com/example/dragoman/dragoman/core/LanguageForCodePinLaw", "pick", "(I)C"⟩ : MethodName) method_2_code 2 (some .char) :: ws) ({ frames := 4, cells := 2, slots := 28, locals := 53 } : Room)) (fun a U => a = #[(.int p1)] ∧ Z.Warmed39 U.vm ∧ U.heap = h0 ∧ CHv Z consts_1 U.vm h0) (fun _ _ _ _ _ => True) (fun _ U o U' => ∃ v L, o = .returned v ∧ own_Qrm_pk2 Z G1 G3 k_EMPTY k_ENGLISH s_ENGLISH t_ENGLISH kb_ENGLISH k_JAPANESE s_JAPANESE t_JAPANESE kb_JAPANESE k_CHINESE s_CHINESE t_CHINESE kb_CHINESE k_VALUES kv_VALUES p1 h0 n0 v U'.heap L ∧ CHr Z consts_1 U.vm U.heap U'.vm U'.heap ∧ ReturnedEndW U o U' L ({ frames := 4, cells := 2, slots := 28, locals := 53 } : Room).cells ({ frames := 4, cells := 2, slots := 28, locals := 53 } : Room).slots) := by
  refine MetFree.of_bodySF (plainFor_of_name own_pn8) hisR ?_
  intro p e s m args below meth c s₁ Bd hml0 hP hK
  obtain ⟨rfl, hZ, hh, hCH⟩ := hP
  obtain ⟨O_CS, P_CS, O_SI, P_SI, O_EMPTY, E_EMPTY, F_EMPTY, O_ENGLISH, E_ENGLISH, Fs_ENGLISH, Es_ENGLISH, Fc_ENGLISH, Fv_ENGLISH, V_ENGLISH, O_JAPANESE, E_JAPANESE, Fs_JAPANESE, Es_JAPANESE, Fc_JAPANESE, Fv_JAPANESE, V_JAPANESE, O_CHINESE, E_CHINESE, Fs_CHINESE, Es_CHINESE, Fc_CHINESE, Fv_CHINESE, V_CHINESE, O_VALUES, E_VALUES, V_VALUES⟩ := id gl
  have hx := Bd.exec
  have hby := Bd.bytes
  have hml : c.maxLocals = 2 := hml0
  have hown : s.vm.findClass "com/example/dragoman/dragoman/core/LanguageForCodePinLaw" = some m.cls := findClass_of_methodNamed Bd.named
  have hnm := (name_of_methodNamed Bd.named Bd.method).1
  have X0 : Stand p l e ({ frames := 4, cells := 2, slots := 28, locals := 53 } : Room) s m #[(.int p1)] below meth c s₁ [] 0 0 := Stand.of_body Bd
  have e0 : s₁.heap = h0 := by rw [← hh, Bd.state]; rfl
  have N0 := Fr.nil n0
  have pre0 : ∀ t, Steps p.tables e below (s₁.setTop (mkF m 0 #[.val (.int p1), .unset] [])) t → Steps p.tables e below (s₁.setTop (entryFrame m #[(.int p1)] 2)) t := fun t k => castTop (own_efrm_pk2 m p1) k
  obtain ⟨la1, T1, h1, kS1, lb1, lk1, X1, e1, E1, hS1, hk1, hZ1, hown1, Ea1, Ca1, Va1, Ba1, lt1, ltb1, hC1, hL1, hne1, st1⟩ := ldcCH (s := s) (vm0 := s.vm) X0 hx hZ hown (hw _ (List.mem_of_getElem? (i := 83) rfl)) (fun d hd => hw d (own_strAtoms d hd)) e0 ((State.WarmedH.refl s).since 0) (Nat.zero_le _) (own_EW hw) (by decide) hCH (vs := ((([(101 : Int32), (110 : Int32), (106 : Int32), (97 : Int32), (122 : Int32), (104 : Int32)] : List Int32).map (fun c => c.toInt8.toInt32)).map Value.int)) (z := (6 : Int32)) ⟨by decide, rfl⟩ (by decide) rfl (g := (mkF m 17 #[.val (.int p1), .val (.int (2 : Int32))] [])) rfl (hb hby own_d_method_2_17) (n := 24) (by decide) (by decide) (by decide) (by decide)
  have Kp2 : Keep h0 h1 [] := (Keep.refl h0 []).ext E1
  have hph3 : ∀ c ∈ ([(101 : Int32), (110 : Int32), (106 : Int32), (97 : Int32), (122 : Int32), (104 : Int32)] : List Int32), ¬ c < 0 ∧ ¬ (255 : Int32) < c := (own_cS (by decide) (own_cS (by decide) (own_cS (by decide) (own_cS (by decide) (own_cS (by decide) (own_cS (by decide) own_c0))))))
  have cdh4 : StrChars.Road.CodA ([(101 : Int32), (110 : Int32), (106 : Int32), (97 : Int32), (122 : Int32), (104 : Int32)] : List Int32) 0 (6 : Int32) ((([(101 : Int32), (110 : Int32), (106 : Int32), (97 : Int32), (122 : Int32), (104 : Int32)] : List Int32).map (fun c => c.toInt8.toInt32)).map Value.int) := (StrChars.Road.codOf (cs := ([(101 : Int32), (110 : Int32), (106 : Int32), (97 : Int32), (122 : Int32), (104 : Int32)] : List Int32)) (n := 6) rfl (fun c hc => (hph3 c hc).2))
  have hws_wordsChN : ∀ d ∈ StrChars.Road.wordsChN, d.before a0 Z = true := fun d hd => hw d (own_hws_wordsChN d hd)
  have Old5 : Old Z n0 h1 := X00.ext E1
  obtain ⟨cq6, kq6, q6a, q6b, q6c⟩ := isOf hZ1 e1 Ea1
  obtain ⟨_, _, ⟨T6, L6, k6, n6⟩, -, X6, ⟨Lc6, hQ6, l6, y6, z6⟩, st6⟩ := X1.virtualBack hx (y := (⟨"java/lang/String", "charAt", "(I)C"⟩ : MethodName)) (z := (⟨"java/lang/String", "charAt", "(I)C"⟩ : MethodName)) hown1 (mvT hZ1 (hw _ (List.mem_of_getElem? (i := 84) rfl))) (mvT hZ1 (hw _ (List.mem_of_getElem? (i := 85) rfl))) (notFace_of_selects (args := #[]) (mvT hZ1 (hw _ (List.mem_of_getElem? (i := 87) rfl)))) (mvT hZ1 (hw _ (List.mem_of_getElem? (i := 87) rfl))) (mvT hZ1 (hw _ (List.mem_of_getElem? (i := 86) rfl))) (by decide) (StrChars.Road.chN (W := 0) hZ1 hws_wordsChN (kI := 4) (hw _ (List.mem_of_getElem? (i := 5) rfl)) Ea1 Va1 Ca1 Ba1 cdh4 (own_up _ hph3) (O_CS.ext Old5.2) P_CS (O_SI.ext Old5.2) P_SI (Nat.le_of_ble_eq_true rfl) (i := 2) (Nat.le_of_ble_eq_true rfl) (j := (2 : Int32)) rfl (by decide) (by decide)) q6a q6c (g := (mkF m 20 #[.val (.int p1), .val (.int (2 : Int32))] [(.int (2 : Int32)), (.ref la1)])) rfl (by rw [hml]; rfl) (Steps.refl _) (argsL := [(.int (2 : Int32))]) (rest := []) (lenOf own_pd7 rfl) rfl (by show 2 * 0 + _ ≤ _; exact Nat.le_of_eq rfl) (hb hby own_d_method_2_20) (fun _ _ => ⟨rfl, e1, (by decide : 2 + 0 ≤ _), (by decide : 28 + 0 ≤ _)⟩)
  dsimp only [Pt.U, Pt.locs, Pt.cells, Pt.slots] at X6 l6 y6 z6 st6 hQ6
  subst y6 z6
  obtain ⟨rfl, rfl, e6⟩ := hQ6
  have N6 : Fr n0 L6 := by rw [l6]; exact Fr.app N0 (Fr.nil n0)
  have hCRf : CHr Z consts_1 s.vm s.heap T6.vm T6.heap := by rw [hh, e6]; exact ((CHr.refl hCH).trans hC1).trans (CHv.at (vm0 := T1.vm) X6 hZ1 (own_EW hw) hC1.1)
  obtain ⟨fs, hr, hrun, hended, hREW⟩ := X6.leaveW hS1 (by rw [e6]; exact hk1) (v := some (.int (106 : Int32))) (fun h => by rw [Bd.returns] at h; cases h)
  refine ⟨_, _, pre0 _ ?_, hrun, hended, _, _, rfl, ?_, hCRf, hREW.1, hREW.2.1, hREW.2.2.1, hREW.2.2.2.mono (by decide) (by decide)⟩
  · show Steps p.tables e below (s₁.setTop (mkF m 0 #[.val (.int p1), .unset] [])) _
    refine XS.iloadN X0.here hx rfl (hb hby own_d_method_2_0) rfl ?_
    show Steps p.tables e below (s₁.setTop (mkF m 1 #[.val (.int p1), .unset] [(.int p1)])) _
    refine XS.sipush X0.here hx rfl (hb hby own_d_method_2_1) ?_
    show Steps p.tables e below (s₁.setTop (mkF m 4 #[.val (.int p1), .unset] [(.int (256 : Int32)), (.int p1)])) _
    refine XS.iand X0.here hx rfl (hb hby own_d_method_2_4) rfl ?_
    show Steps p.tables e below (s₁.setTop (mkF m 5 #[.val (.int p1), .unset] [(.int (p1 &&& (256 : Int32)))])) _
    refine XS.ifNo X0.here hx rfl (hb hby own_d_method_2_5) rfl ((if0 _ _).trans (feq hc1).1) ?_
    show Steps p.tables e below (s₁.setTop (mkF m 8 #[.val (.int p1), .unset] [])) _
    refine XS.iloadN X0.here hx rfl (hb hby own_d_method_2_8) rfl ?_
    show Steps p.tables e below (s₁.setTop (mkF m 9 #[.val (.int p1), .unset] [(.int p1)])) _
    refine XS.sipush X0.here hx rfl (hb hby own_d_method_2_9) ?_
    show Steps p.tables e below (s₁.setTop (mkF m 12 #[.val (.int p1), .unset] [(.int (255 : Int32)), (.int p1)])) _
    refine XS.iand X0.here hx rfl (hb hby own_d_method_2_12) rfl ?_
    show Steps p.tables e below (s₁.setTop (mkF m 13 #[.val (.int p1), .unset] [(.int (p1 &&& (255 : Int32)))])) _
    refine XS.bipush X0.here hx rfl (hb hby own_d_method_2_13) ?_
    show Steps p.tables e below (s₁.setTop (mkF m 15 #[.val (.int p1), .unset] [(.int (6 : Int32)), (.int (p1 &&& (255 : Int32)))])) _
    refine iremM X0 hx rfl (hb hby own_d_method_2_15) rfl (by decide) ?_
    show Steps p.tables e below (s₁.setTop (mkF m 16 #[.val (.int p1), .unset] [(.int (own_k6 p1))])) _
    rw [hj]
    show Steps p.tables e below (s₁.setTop (mkF m 16 #[.val (.int p1), .unset] [(.int (2 : Int32))])) _
    refine XS.istoreN X0.here hx rfl (hb hby own_d_method_2_16) rfl (l' := #[.val (.int p1), .val (.int (2 : Int32))]) rfl ?_
    show Steps p.tables e below (s₁.setTop (mkF m 17 #[.val (.int p1), .val (.int (2 : Int32))] [])) _
    refine st1 _ ?_
    show Steps p.tables e below (T1.setTop (mkF m 19 #[.val (.int p1), .val (.int (2 : Int32))] [(.ref la1)])) _
    refine XS.iloadN X1.here hx rfl (hb hby own_d_method_2_19) rfl ?_
    show Steps p.tables e below (T1.setTop (mkF m 20 #[.val (.int p1), .val (.int (2 : Int32))] [(.int (2 : Int32)), (.ref la1)])) _
    refine st6.trans ?_
    show Steps p.tables e below (T6.setTop (mkF m 23 #[.val (.int p1), .val (.int (2 : Int32))] [(.int (106 : Int32))])) _
    exact retN X6 hx (t := .char) Bd.returns (by simp) (hb hby own_d_method_2_23) hr
  · show own_Qrm_pk2 Z G1 G3 k_EMPTY k_ENGLISH s_ENGLISH t_ENGLISH kb_ENGLISH k_JAPANESE s_JAPANESE t_JAPANESE kb_JAPANESE k_CHINESE s_CHINESE t_CHINESE kb_CHINESE k_VALUES kv_VALUES p1 h0 n0 _ T6.heap _
    rw [e6]
    exact ⟨rfl, N6, Kp2⟩
def own_Qrm_pk3 (Z : State) (G1 : Int32) (G3 : Value) (k_EMPTY : Addr) (k_ENGLISH : Addr) (s_ENGLISH : Addr) (t_ENGLISH : Addr) (kb_ENGLISH : ClassId) (k_JAPANESE : Addr) (s_JAPANESE : Addr) (t_JAPANESE : Addr) (kb_JAPANESE : ClassId) (k_CHINESE : Addr) (s_CHINESE : Addr) (t_CHINESE : Addr) (kb_CHINESE : ClassId) (k_VALUES : Addr) (kv_VALUES : ClassId) (p1 : Int32) (h0 : Heap) (n0 : Nat) (v : Option Value) (h : Heap) (L : List Loc) : Prop := (v = some (.int (97 : Int32))) ∧ (Fr n0 L) ∧ (Keep h0 h [])
theorem own_efrm_pk3 (m : MethodId) (p1 : Int32) : entryFrame m #[(.int p1)] 2 = mkF m 0 #[.val (.int p1), .unset] [] := by first | (simp [entryFrame, mkF, argsToLocals, Value.category]; done) | rfl
set_option maxRecDepth 65536 in
set_option maxHeartbeats 40000000 in
theorem own_rm_pk3 (l : Launch) (Z : State) (a0 : Array Value) (hw : ∀ d ∈ tables_1, d.before a0 Z = true) (ws : List Jvm.Cond) (G1 : Int32) (G3 : Value) (k_EMPTY : Addr) (k_ENGLISH : Addr) (s_ENGLISH : Addr) (t_ENGLISH : Addr) (kb_ENGLISH : ClassId) (k_JAPANESE : Addr) (s_JAPANESE : Addr) (t_JAPANESE : Addr) (kb_JAPANESE : ClassId) (k_CHINESE : Addr) (s_CHINESE : Addr) (t_CHINESE : Addr) (kb_CHINESE : ClassId) (k_VALUES : Addr) (kv_VALUES : ClassId) (gl : own_Glob Z G1 G3 k_EMPTY k_ENGLISH s_ENGLISH t_ENGLISH kb_ENGLISH k_JAPANESE s_JAPANESE t_JAPANESE kb_JAPANESE k_CHINESE s_CHINESE t_CHINESE kb_CHINESE k_VALUES kv_VALUES) (p1 : Int32) (h0 : Heap) (n0 : Nat) (Z0 : n0 ≤ h0.size) (X00 : Old Z n0 h0) (hc1 : ¬ ((p1 &&& (256 : Int32)) = (0 : Int32))) (hj : own_k6 p1 = 3) :
    MetFree l (⟨"com/example/dragoman/dragoman/core/LanguageForCodePinLaw", "pick", "(I)C"⟩ : MethodName) (head1 (Jvm.Cond.code (⟨"com/example/dragoman/dragoman/core/LanguageForCodePinLaw", "pick", "(I)C"⟩ : MethodName) method_2_code 2 (some .char) :: ws) ({ frames := 4, cells := 2, slots := 28, locals := 53 } : Room)) (fun a U => a = #[(.int p1)] ∧ Z.Warmed39 U.vm ∧ U.heap = h0 ∧ CHv Z consts_1 U.vm h0) (fun _ _ _ _ _ => True) (fun _ U o U' => ∃ v L, o = .returned v ∧ own_Qrm_pk3 Z G1 G3 k_EMPTY k_ENGLISH s_ENGLISH t_ENGLISH kb_ENGLISH k_JAPANESE s_JAPANESE t_JAPANESE kb_JAPANESE k_CHINESE s_CHINESE t_CHINESE kb_CHINESE k_VALUES kv_VALUES p1 h0 n0 v U'.heap L ∧ CHr Z consts_1 U.vm U.heap U'.vm U'.heap ∧ ReturnedEndW U o U' L ({ frames := 4, cells := 2, slots := 28, locals := 53 } : Room).cells ({ frames := 4, cells := 2, slots := 28, locals := 53 } : Room).slots) := by
  refine MetFree.of_bodySF (plainFor_of_name own_pn8) hisR ?_
  intro p e s m args below meth c s₁ Bd hml0 hP hK
  obtain ⟨rfl, hZ, hh, hCH⟩ := hP
  obtain ⟨O_CS, P_CS, O_SI, P_SI, O_EMPTY, E_EMPTY, F_EMPTY, O_ENGLISH, E_ENGLISH, Fs_ENGLISH, Es_ENGLISH, Fc_ENGLISH, Fv_ENGLISH, V_ENGLISH, O_JAPANESE, E_JAPANESE, Fs_JAPANESE, Es_JAPANESE, Fc_JAPANESE, Fv_JAPANESE, V_JAPANESE, O_CHINESE, E_CHINESE, Fs_CHINESE, Es_CHINESE, Fc_CHINESE, Fv_CHINESE, V_CHINESE, O_VALUES, E_VALUES, V_VALUES⟩ := id gl
  have hx := Bd.exec
  have hby := Bd.bytes
  have hml : c.maxLocals = 2 := hml0
  have hown : s.vm.findClass "com/example/dragoman/dragoman/core/LanguageForCodePinLaw" = some m.cls := findClass_of_methodNamed Bd.named
  have hnm := (name_of_methodNamed Bd.named Bd.method).1
  have X0 : Stand p l e ({ frames := 4, cells := 2, slots := 28, locals := 53 } : Room) s m #[(.int p1)] below meth c s₁ [] 0 0 := Stand.of_body Bd
  have e0 : s₁.heap = h0 := by rw [← hh, Bd.state]; rfl
  have N0 := Fr.nil n0
  have pre0 : ∀ t, Steps p.tables e below (s₁.setTop (mkF m 0 #[.val (.int p1), .unset] [])) t → Steps p.tables e below (s₁.setTop (entryFrame m #[(.int p1)] 2)) t := fun t k => castTop (own_efrm_pk3 m p1) k
  obtain ⟨la1, T1, h1, kS1, lb1, lk1, X1, e1, E1, hS1, hk1, hZ1, hown1, Ea1, Ca1, Va1, Ba1, lt1, ltb1, hC1, hL1, hne1, st1⟩ := ldcCH (s := s) (vm0 := s.vm) X0 hx hZ hown (hw _ (List.mem_of_getElem? (i := 83) rfl)) (fun d hd => hw d (own_strAtoms d hd)) e0 ((State.WarmedH.refl s).since 0) (Nat.zero_le _) (own_EW hw) (by decide) hCH (vs := ((([(101 : Int32), (110 : Int32), (106 : Int32), (97 : Int32), (122 : Int32), (104 : Int32)] : List Int32).map (fun c => c.toInt8.toInt32)).map Value.int)) (z := (6 : Int32)) ⟨by decide, rfl⟩ (by decide) rfl (g := (mkF m 17 #[.val (.int p1), .val (.int (3 : Int32))] [])) rfl (hb hby own_d_method_2_17) (n := 24) (by decide) (by decide) (by decide) (by decide)
  have Kp2 : Keep h0 h1 [] := (Keep.refl h0 []).ext E1
  have hph3 : ∀ c ∈ ([(101 : Int32), (110 : Int32), (106 : Int32), (97 : Int32), (122 : Int32), (104 : Int32)] : List Int32), ¬ c < 0 ∧ ¬ (255 : Int32) < c := (own_cS (by decide) (own_cS (by decide) (own_cS (by decide) (own_cS (by decide) (own_cS (by decide) (own_cS (by decide) own_c0))))))
  have cdh4 : StrChars.Road.CodA ([(101 : Int32), (110 : Int32), (106 : Int32), (97 : Int32), (122 : Int32), (104 : Int32)] : List Int32) 0 (6 : Int32) ((([(101 : Int32), (110 : Int32), (106 : Int32), (97 : Int32), (122 : Int32), (104 : Int32)] : List Int32).map (fun c => c.toInt8.toInt32)).map Value.int) := (StrChars.Road.codOf (cs := ([(101 : Int32), (110 : Int32), (106 : Int32), (97 : Int32), (122 : Int32), (104 : Int32)] : List Int32)) (n := 6) rfl (fun c hc => (hph3 c hc).2))
  have hws_wordsChN : ∀ d ∈ StrChars.Road.wordsChN, d.before a0 Z = true := fun d hd => hw d (own_hws_wordsChN d hd)
  have Old5 : Old Z n0 h1 := X00.ext E1
  obtain ⟨cq6, kq6, q6a, q6b, q6c⟩ := isOf hZ1 e1 Ea1
  obtain ⟨_, _, ⟨T6, L6, k6, n6⟩, -, X6, ⟨Lc6, hQ6, l6, y6, z6⟩, st6⟩ := X1.virtualBack hx (y := (⟨"java/lang/String", "charAt", "(I)C"⟩ : MethodName)) (z := (⟨"java/lang/String", "charAt", "(I)C"⟩ : MethodName)) hown1 (mvT hZ1 (hw _ (List.mem_of_getElem? (i := 84) rfl))) (mvT hZ1 (hw _ (List.mem_of_getElem? (i := 85) rfl))) (notFace_of_selects (args := #[]) (mvT hZ1 (hw _ (List.mem_of_getElem? (i := 87) rfl)))) (mvT hZ1 (hw _ (List.mem_of_getElem? (i := 87) rfl))) (mvT hZ1 (hw _ (List.mem_of_getElem? (i := 86) rfl))) (by decide) (StrChars.Road.chN (W := 0) hZ1 hws_wordsChN (kI := 4) (hw _ (List.mem_of_getElem? (i := 5) rfl)) Ea1 Va1 Ca1 Ba1 cdh4 (own_up _ hph3) (O_CS.ext Old5.2) P_CS (O_SI.ext Old5.2) P_SI (Nat.le_of_ble_eq_true rfl) (i := 3) (Nat.le_of_ble_eq_true rfl) (j := (3 : Int32)) rfl (by decide) (by decide)) q6a q6c (g := (mkF m 20 #[.val (.int p1), .val (.int (3 : Int32))] [(.int (3 : Int32)), (.ref la1)])) rfl (by rw [hml]; rfl) (Steps.refl _) (argsL := [(.int (3 : Int32))]) (rest := []) (lenOf own_pd7 rfl) rfl (by show 2 * 0 + _ ≤ _; exact Nat.le_of_eq rfl) (hb hby own_d_method_2_20) (fun _ _ => ⟨rfl, e1, (by decide : 2 + 0 ≤ _), (by decide : 28 + 0 ≤ _)⟩)
  dsimp only [Pt.U, Pt.locs, Pt.cells, Pt.slots] at X6 l6 y6 z6 st6 hQ6
  subst y6 z6
  obtain ⟨rfl, rfl, e6⟩ := hQ6
  have N6 : Fr n0 L6 := by rw [l6]; exact Fr.app N0 (Fr.nil n0)
  have hCRf : CHr Z consts_1 s.vm s.heap T6.vm T6.heap := by rw [hh, e6]; exact ((CHr.refl hCH).trans hC1).trans (CHv.at (vm0 := T1.vm) X6 hZ1 (own_EW hw) hC1.1)
  obtain ⟨fs, hr, hrun, hended, hREW⟩ := X6.leaveW hS1 (by rw [e6]; exact hk1) (v := some (.int (97 : Int32))) (fun h => by rw [Bd.returns] at h; cases h)
  refine ⟨_, _, pre0 _ ?_, hrun, hended, _, _, rfl, ?_, hCRf, hREW.1, hREW.2.1, hREW.2.2.1, hREW.2.2.2.mono (by decide) (by decide)⟩
  · show Steps p.tables e below (s₁.setTop (mkF m 0 #[.val (.int p1), .unset] [])) _
    refine XS.iloadN X0.here hx rfl (hb hby own_d_method_2_0) rfl ?_
    show Steps p.tables e below (s₁.setTop (mkF m 1 #[.val (.int p1), .unset] [(.int p1)])) _
    refine XS.sipush X0.here hx rfl (hb hby own_d_method_2_1) ?_
    show Steps p.tables e below (s₁.setTop (mkF m 4 #[.val (.int p1), .unset] [(.int (256 : Int32)), (.int p1)])) _
    refine XS.iand X0.here hx rfl (hb hby own_d_method_2_4) rfl ?_
    show Steps p.tables e below (s₁.setTop (mkF m 5 #[.val (.int p1), .unset] [(.int (p1 &&& (256 : Int32)))])) _
    refine XS.ifNo X0.here hx rfl (hb hby own_d_method_2_5) rfl ((if0 _ _).trans (feq hc1).1) ?_
    show Steps p.tables e below (s₁.setTop (mkF m 8 #[.val (.int p1), .unset] [])) _
    refine XS.iloadN X0.here hx rfl (hb hby own_d_method_2_8) rfl ?_
    show Steps p.tables e below (s₁.setTop (mkF m 9 #[.val (.int p1), .unset] [(.int p1)])) _
    refine XS.sipush X0.here hx rfl (hb hby own_d_method_2_9) ?_
    show Steps p.tables e below (s₁.setTop (mkF m 12 #[.val (.int p1), .unset] [(.int (255 : Int32)), (.int p1)])) _
    refine XS.iand X0.here hx rfl (hb hby own_d_method_2_12) rfl ?_
    show Steps p.tables e below (s₁.setTop (mkF m 13 #[.val (.int p1), .unset] [(.int (p1 &&& (255 : Int32)))])) _
    refine XS.bipush X0.here hx rfl (hb hby own_d_method_2_13) ?_
    show Steps p.tables e below (s₁.setTop (mkF m 15 #[.val (.int p1), .unset] [(.int (6 : Int32)), (.int (p1 &&& (255 : Int32)))])) _
    refine iremM X0 hx rfl (hb hby own_d_method_2_15) rfl (by decide) ?_
    show Steps p.tables e below (s₁.setTop (mkF m 16 #[.val (.int p1), .unset] [(.int (own_k6 p1))])) _
    rw [hj]
    show Steps p.tables e below (s₁.setTop (mkF m 16 #[.val (.int p1), .unset] [(.int (3 : Int32))])) _
    refine XS.istoreN X0.here hx rfl (hb hby own_d_method_2_16) rfl (l' := #[.val (.int p1), .val (.int (3 : Int32))]) rfl ?_
    show Steps p.tables e below (s₁.setTop (mkF m 17 #[.val (.int p1), .val (.int (3 : Int32))] [])) _
    refine st1 _ ?_
    show Steps p.tables e below (T1.setTop (mkF m 19 #[.val (.int p1), .val (.int (3 : Int32))] [(.ref la1)])) _
    refine XS.iloadN X1.here hx rfl (hb hby own_d_method_2_19) rfl ?_
    show Steps p.tables e below (T1.setTop (mkF m 20 #[.val (.int p1), .val (.int (3 : Int32))] [(.int (3 : Int32)), (.ref la1)])) _
    refine st6.trans ?_
    show Steps p.tables e below (T6.setTop (mkF m 23 #[.val (.int p1), .val (.int (3 : Int32))] [(.int (97 : Int32))])) _
    exact retN X6 hx (t := .char) Bd.returns (by simp) (hb hby own_d_method_2_23) hr
  · show own_Qrm_pk3 Z G1 G3 k_EMPTY k_ENGLISH s_ENGLISH t_ENGLISH kb_ENGLISH k_JAPANESE s_JAPANESE t_JAPANESE kb_JAPANESE k_CHINESE s_CHINESE t_CHINESE kb_CHINESE k_VALUES kv_VALUES p1 h0 n0 _ T6.heap _
    rw [e6]
    exact ⟨rfl, N6, Kp2⟩
def own_Qrm_pk4 (Z : State) (G1 : Int32) (G3 : Value) (k_EMPTY : Addr) (k_ENGLISH : Addr) (s_ENGLISH : Addr) (t_ENGLISH : Addr) (kb_ENGLISH : ClassId) (k_JAPANESE : Addr) (s_JAPANESE : Addr) (t_JAPANESE : Addr) (kb_JAPANESE : ClassId) (k_CHINESE : Addr) (s_CHINESE : Addr) (t_CHINESE : Addr) (kb_CHINESE : ClassId) (k_VALUES : Addr) (kv_VALUES : ClassId) (p1 : Int32) (h0 : Heap) (n0 : Nat) (v : Option Value) (h : Heap) (L : List Loc) : Prop := (v = some (.int (122 : Int32))) ∧ (Fr n0 L) ∧ (Keep h0 h [])
theorem own_efrm_pk4 (m : MethodId) (p1 : Int32) : entryFrame m #[(.int p1)] 2 = mkF m 0 #[.val (.int p1), .unset] [] := by first | (simp [entryFrame, mkF, argsToLocals, Value.category]; done) | rfl
set_option maxRecDepth 65536 in
set_option maxHeartbeats 40000000 in
theorem own_rm_pk4 (l : Launch) (Z : State) (a0 : Array Value) (hw : ∀ d ∈ tables_1, d.before a0 Z = true) (ws : List Jvm.Cond) (G1 : Int32) (G3 : Value) (k_EMPTY : Addr) (k_ENGLISH : Addr) (s_ENGLISH : Addr) (t_ENGLISH : Addr) (kb_ENGLISH : ClassId) (k_JAPANESE : Addr) (s_JAPANESE : Addr) (t_JAPANESE : Addr) (kb_JAPANESE : ClassId) (k_CHINESE : Addr) (s_CHINESE : Addr) (t_CHINESE : Addr) (kb_CHINESE : ClassId) (k_VALUES : Addr) (kv_VALUES : ClassId) (gl : own_Glob Z G1 G3 k_EMPTY k_ENGLISH s_ENGLISH t_ENGLISH kb_ENGLISH k_JAPANESE s_JAPANESE t_JAPANESE kb_JAPANESE k_CHINESE s_CHINESE t_CHINESE kb_CHINESE k_VALUES kv_VALUES) (p1 : Int32) (h0 : Heap) (n0 : Nat) (Z0 : n0 ≤ h0.size) (X00 : Old Z n0 h0) (hc1 : ¬ ((p1 &&& (256 : Int32)) = (0 : Int32))) (hj : own_k6 p1 = 4) :
    MetFree l (⟨"com/example/dragoman/dragoman/core/LanguageForCodePinLaw", "pick", "(I)C"⟩ : MethodName) (head1 (Jvm.Cond.code (⟨"com/example/dragoman/dragoman/core/LanguageForCodePinLaw", "pick", "(I)C"⟩ : MethodName) method_2_code 2 (some .char) :: ws) ({ frames := 4, cells := 2, slots := 28, locals := 53 } : Room)) (fun a U => a = #[(.int p1)] ∧ Z.Warmed39 U.vm ∧ U.heap = h0 ∧ CHv Z consts_1 U.vm h0) (fun _ _ _ _ _ => True) (fun _ U o U' => ∃ v L, o = .returned v ∧ own_Qrm_pk4 Z G1 G3 k_EMPTY k_ENGLISH s_ENGLISH t_ENGLISH kb_ENGLISH k_JAPANESE s_JAPANESE t_JAPANESE kb_JAPANESE k_CHINESE s_CHINESE t_CHINESE kb_CHINESE k_VALUES kv_VALUES p1 h0 n0 v U'.heap L ∧ CHr Z consts_1 U.vm U.heap U'.vm U'.heap ∧ ReturnedEndW U o U' L ({ frames := 4, cells := 2, slots := 28, locals := 53 } : Room).cells ({ frames := 4, cells := 2, slots := 28, locals := 53 } : Room).slots) := by
  refine MetFree.of_bodySF (plainFor_of_name own_pn8) hisR ?_
  intro p e s m args below meth c s₁ Bd hml0 hP hK
  obtain ⟨rfl, hZ, hh, hCH⟩ := hP
  obtain ⟨O_CS, P_CS, O_SI, P_SI, O_EMPTY, E_EMPTY, F_EMPTY, O_ENGLISH, E_ENGLISH, Fs_ENGLISH, Es_ENGLISH, Fc_ENGLISH, Fv_ENGLISH, V_ENGLISH, O_JAPANESE, E_JAPANESE, Fs_JAPANESE, Es_JAPANESE, Fc_JAPANESE, Fv_JAPANESE, V_JAPANESE, O_CHINESE, E_CHINESE, Fs_CHINESE, Es_CHINESE, Fc_CHINESE, Fv_CHINESE, V_CHINESE, O_VALUES, E_VALUES, V_VALUES⟩ := id gl
  have hx := Bd.exec
  have hby := Bd.bytes
  have hml : c.maxLocals = 2 := hml0
  have hown : s.vm.findClass "com/example/dragoman/dragoman/core/LanguageForCodePinLaw" = some m.cls := findClass_of_methodNamed Bd.named
  have hnm := (name_of_methodNamed Bd.named Bd.method).1
  have X0 : Stand p l e ({ frames := 4, cells := 2, slots := 28, locals := 53 } : Room) s m #[(.int p1)] below meth c s₁ [] 0 0 := Stand.of_body Bd
  have e0 : s₁.heap = h0 := by rw [← hh, Bd.state]; rfl
  have N0 := Fr.nil n0
  have pre0 : ∀ t, Steps p.tables e below (s₁.setTop (mkF m 0 #[.val (.int p1), .unset] [])) t → Steps p.tables e below (s₁.setTop (entryFrame m #[(.int p1)] 2)) t := fun t k => castTop (own_efrm_pk4 m p1) k
  obtain ⟨la1, T1, h1, kS1, lb1, lk1, X1, e1, E1, hS1, hk1, hZ1, hown1, Ea1, Ca1, Va1, Ba1, lt1, ltb1, hC1, hL1, hne1, st1⟩ := ldcCH (s := s) (vm0 := s.vm) X0 hx hZ hown (hw _ (List.mem_of_getElem? (i := 83) rfl)) (fun d hd => hw d (own_strAtoms d hd)) e0 ((State.WarmedH.refl s).since 0) (Nat.zero_le _) (own_EW hw) (by decide) hCH (vs := ((([(101 : Int32), (110 : Int32), (106 : Int32), (97 : Int32), (122 : Int32), (104 : Int32)] : List Int32).map (fun c => c.toInt8.toInt32)).map Value.int)) (z := (6 : Int32)) ⟨by decide, rfl⟩ (by decide) rfl (g := (mkF m 17 #[.val (.int p1), .val (.int (4 : Int32))] [])) rfl (hb hby own_d_method_2_17) (n := 24) (by decide) (by decide) (by decide) (by decide)
  have Kp2 : Keep h0 h1 [] := (Keep.refl h0 []).ext E1
  have hph3 : ∀ c ∈ ([(101 : Int32), (110 : Int32), (106 : Int32), (97 : Int32), (122 : Int32), (104 : Int32)] : List Int32), ¬ c < 0 ∧ ¬ (255 : Int32) < c := (own_cS (by decide) (own_cS (by decide) (own_cS (by decide) (own_cS (by decide) (own_cS (by decide) (own_cS (by decide) own_c0))))))
  have cdh4 : StrChars.Road.CodA ([(101 : Int32), (110 : Int32), (106 : Int32), (97 : Int32), (122 : Int32), (104 : Int32)] : List Int32) 0 (6 : Int32) ((([(101 : Int32), (110 : Int32), (106 : Int32), (97 : Int32), (122 : Int32), (104 : Int32)] : List Int32).map (fun c => c.toInt8.toInt32)).map Value.int) := (StrChars.Road.codOf (cs := ([(101 : Int32), (110 : Int32), (106 : Int32), (97 : Int32), (122 : Int32), (104 : Int32)] : List Int32)) (n := 6) rfl (fun c hc => (hph3 c hc).2))
  have hws_wordsChN : ∀ d ∈ StrChars.Road.wordsChN, d.before a0 Z = true := fun d hd => hw d (own_hws_wordsChN d hd)
  have Old5 : Old Z n0 h1 := X00.ext E1
  obtain ⟨cq6, kq6, q6a, q6b, q6c⟩ := isOf hZ1 e1 Ea1
  obtain ⟨_, _, ⟨T6, L6, k6, n6⟩, -, X6, ⟨Lc6, hQ6, l6, y6, z6⟩, st6⟩ := X1.virtualBack hx (y := (⟨"java/lang/String", "charAt", "(I)C"⟩ : MethodName)) (z := (⟨"java/lang/String", "charAt", "(I)C"⟩ : MethodName)) hown1 (mvT hZ1 (hw _ (List.mem_of_getElem? (i := 84) rfl))) (mvT hZ1 (hw _ (List.mem_of_getElem? (i := 85) rfl))) (notFace_of_selects (args := #[]) (mvT hZ1 (hw _ (List.mem_of_getElem? (i := 87) rfl)))) (mvT hZ1 (hw _ (List.mem_of_getElem? (i := 87) rfl))) (mvT hZ1 (hw _ (List.mem_of_getElem? (i := 86) rfl))) (by decide) (StrChars.Road.chN (W := 0) hZ1 hws_wordsChN (kI := 4) (hw _ (List.mem_of_getElem? (i := 5) rfl)) Ea1 Va1 Ca1 Ba1 cdh4 (own_up _ hph3) (O_CS.ext Old5.2) P_CS (O_SI.ext Old5.2) P_SI (Nat.le_of_ble_eq_true rfl) (i := 4) (Nat.le_of_ble_eq_true rfl) (j := (4 : Int32)) rfl (by decide) (by decide)) q6a q6c (g := (mkF m 20 #[.val (.int p1), .val (.int (4 : Int32))] [(.int (4 : Int32)), (.ref la1)])) rfl (by rw [hml]; rfl) (Steps.refl _) (argsL := [(.int (4 : Int32))]) (rest := []) (lenOf own_pd7 rfl) rfl (by show 2 * 0 + _ ≤ _; exact Nat.le_of_eq rfl) (hb hby own_d_method_2_20) (fun _ _ => ⟨rfl, e1, (by decide : 2 + 0 ≤ _), (by decide : 28 + 0 ≤ _)⟩)
  dsimp only [Pt.U, Pt.locs, Pt.cells, Pt.slots] at X6 l6 y6 z6 st6 hQ6
  subst y6 z6
  obtain ⟨rfl, rfl, e6⟩ := hQ6
  have N6 : Fr n0 L6 := by rw [l6]; exact Fr.app N0 (Fr.nil n0)
  have hCRf : CHr Z consts_1 s.vm s.heap T6.vm T6.heap := by rw [hh, e6]; exact ((CHr.refl hCH).trans hC1).trans (CHv.at (vm0 := T1.vm) X6 hZ1 (own_EW hw) hC1.1)
  obtain ⟨fs, hr, hrun, hended, hREW⟩ := X6.leaveW hS1 (by rw [e6]; exact hk1) (v := some (.int (122 : Int32))) (fun h => by rw [Bd.returns] at h; cases h)
  refine ⟨_, _, pre0 _ ?_, hrun, hended, _, _, rfl, ?_, hCRf, hREW.1, hREW.2.1, hREW.2.2.1, hREW.2.2.2.mono (by decide) (by decide)⟩
  · show Steps p.tables e below (s₁.setTop (mkF m 0 #[.val (.int p1), .unset] [])) _
    refine XS.iloadN X0.here hx rfl (hb hby own_d_method_2_0) rfl ?_
    show Steps p.tables e below (s₁.setTop (mkF m 1 #[.val (.int p1), .unset] [(.int p1)])) _
    refine XS.sipush X0.here hx rfl (hb hby own_d_method_2_1) ?_
    show Steps p.tables e below (s₁.setTop (mkF m 4 #[.val (.int p1), .unset] [(.int (256 : Int32)), (.int p1)])) _
    refine XS.iand X0.here hx rfl (hb hby own_d_method_2_4) rfl ?_
    show Steps p.tables e below (s₁.setTop (mkF m 5 #[.val (.int p1), .unset] [(.int (p1 &&& (256 : Int32)))])) _
    refine XS.ifNo X0.here hx rfl (hb hby own_d_method_2_5) rfl ((if0 _ _).trans (feq hc1).1) ?_
    show Steps p.tables e below (s₁.setTop (mkF m 8 #[.val (.int p1), .unset] [])) _
    refine XS.iloadN X0.here hx rfl (hb hby own_d_method_2_8) rfl ?_
    show Steps p.tables e below (s₁.setTop (mkF m 9 #[.val (.int p1), .unset] [(.int p1)])) _
    refine XS.sipush X0.here hx rfl (hb hby own_d_method_2_9) ?_
    show Steps p.tables e below (s₁.setTop (mkF m 12 #[.val (.int p1), .unset] [(.int (255 : Int32)), (.int p1)])) _
    refine XS.iand X0.here hx rfl (hb hby own_d_method_2_12) rfl ?_
    show Steps p.tables e below (s₁.setTop (mkF m 13 #[.val (.int p1), .unset] [(.int (p1 &&& (255 : Int32)))])) _
    refine XS.bipush X0.here hx rfl (hb hby own_d_method_2_13) ?_
    show Steps p.tables e below (s₁.setTop (mkF m 15 #[.val (.int p1), .unset] [(.int (6 : Int32)), (.int (p1 &&& (255 : Int32)))])) _
    refine iremM X0 hx rfl (hb hby own_d_method_2_15) rfl (by decide) ?_
    show Steps p.tables e below (s₁.setTop (mkF m 16 #[.val (.int p1), .unset] [(.int (own_k6 p1))])) _
    rw [hj]
    show Steps p.tables e below (s₁.setTop (mkF m 16 #[.val (.int p1), .unset] [(.int (4 : Int32))])) _
    refine XS.istoreN X0.here hx rfl (hb hby own_d_method_2_16) rfl (l' := #[.val (.int p1), .val (.int (4 : Int32))]) rfl ?_
    show Steps p.tables e below (s₁.setTop (mkF m 17 #[.val (.int p1), .val (.int (4 : Int32))] [])) _
    refine st1 _ ?_
    show Steps p.tables e below (T1.setTop (mkF m 19 #[.val (.int p1), .val (.int (4 : Int32))] [(.ref la1)])) _
    refine XS.iloadN X1.here hx rfl (hb hby own_d_method_2_19) rfl ?_
    show Steps p.tables e below (T1.setTop (mkF m 20 #[.val (.int p1), .val (.int (4 : Int32))] [(.int (4 : Int32)), (.ref la1)])) _
    refine st6.trans ?_
    show Steps p.tables e below (T6.setTop (mkF m 23 #[.val (.int p1), .val (.int (4 : Int32))] [(.int (122 : Int32))])) _
    exact retN X6 hx (t := .char) Bd.returns (by simp) (hb hby own_d_method_2_23) hr
  · show own_Qrm_pk4 Z G1 G3 k_EMPTY k_ENGLISH s_ENGLISH t_ENGLISH kb_ENGLISH k_JAPANESE s_JAPANESE t_JAPANESE kb_JAPANESE k_CHINESE s_CHINESE t_CHINESE kb_CHINESE k_VALUES kv_VALUES p1 h0 n0 _ T6.heap _
    rw [e6]
    exact ⟨rfl, N6, Kp2⟩
def own_Qrm_pk5 (Z : State) (G1 : Int32) (G3 : Value) (k_EMPTY : Addr) (k_ENGLISH : Addr) (s_ENGLISH : Addr) (t_ENGLISH : Addr) (kb_ENGLISH : ClassId) (k_JAPANESE : Addr) (s_JAPANESE : Addr) (t_JAPANESE : Addr) (kb_JAPANESE : ClassId) (k_CHINESE : Addr) (s_CHINESE : Addr) (t_CHINESE : Addr) (kb_CHINESE : ClassId) (k_VALUES : Addr) (kv_VALUES : ClassId) (p1 : Int32) (h0 : Heap) (n0 : Nat) (v : Option Value) (h : Heap) (L : List Loc) : Prop := (v = some (.int (104 : Int32))) ∧ (Fr n0 L) ∧ (Keep h0 h [])
theorem own_efrm_pk5 (m : MethodId) (p1 : Int32) : entryFrame m #[(.int p1)] 2 = mkF m 0 #[.val (.int p1), .unset] [] := by first | (simp [entryFrame, mkF, argsToLocals, Value.category]; done) | rfl
set_option maxRecDepth 65536 in
set_option maxHeartbeats 40000000 in
theorem own_rm_pk5 (l : Launch) (Z : State) (a0 : Array Value) (hw : ∀ d ∈ tables_1, d.before a0 Z = true) (ws : List Jvm.Cond) (G1 : Int32) (G3 : Value) (k_EMPTY : Addr) (k_ENGLISH : Addr) (s_ENGLISH : Addr) (t_ENGLISH : Addr) (kb_ENGLISH : ClassId) (k_JAPANESE : Addr) (s_JAPANESE : Addr) (t_JAPANESE : Addr) (kb_JAPANESE : ClassId) (k_CHINESE : Addr) (s_CHINESE : Addr) (t_CHINESE : Addr) (kb_CHINESE : ClassId) (k_VALUES : Addr) (kv_VALUES : ClassId) (gl : own_Glob Z G1 G3 k_EMPTY k_ENGLISH s_ENGLISH t_ENGLISH kb_ENGLISH k_JAPANESE s_JAPANESE t_JAPANESE kb_JAPANESE k_CHINESE s_CHINESE t_CHINESE kb_CHINESE k_VALUES kv_VALUES) (p1 : Int32) (h0 : Heap) (n0 : Nat) (Z0 : n0 ≤ h0.size) (X00 : Old Z n0 h0) (hc1 : ¬ ((p1 &&& (256 : Int32)) = (0 : Int32))) (hj : own_k6 p1 = 5) :
    MetFree l (⟨"com/example/dragoman/dragoman/core/LanguageForCodePinLaw", "pick", "(I)C"⟩ : MethodName) (head1 (Jvm.Cond.code (⟨"com/example/dragoman/dragoman/core/LanguageForCodePinLaw", "pick", "(I)C"⟩ : MethodName) method_2_code 2 (some .char) :: ws) ({ frames := 4, cells := 2, slots := 28, locals := 53 } : Room)) (fun a U => a = #[(.int p1)] ∧ Z.Warmed39 U.vm ∧ U.heap = h0 ∧ CHv Z consts_1 U.vm h0) (fun _ _ _ _ _ => True) (fun _ U o U' => ∃ v L, o = .returned v ∧ own_Qrm_pk5 Z G1 G3 k_EMPTY k_ENGLISH s_ENGLISH t_ENGLISH kb_ENGLISH k_JAPANESE s_JAPANESE t_JAPANESE kb_JAPANESE k_CHINESE s_CHINESE t_CHINESE kb_CHINESE k_VALUES kv_VALUES p1 h0 n0 v U'.heap L ∧ CHr Z consts_1 U.vm U.heap U'.vm U'.heap ∧ ReturnedEndW U o U' L ({ frames := 4, cells := 2, slots := 28, locals := 53 } : Room).cells ({ frames := 4, cells := 2, slots := 28, locals := 53 } : Room).slots) := by
  refine MetFree.of_bodySF (plainFor_of_name own_pn8) hisR ?_
  intro p e s m args below meth c s₁ Bd hml0 hP hK
  obtain ⟨rfl, hZ, hh, hCH⟩ := hP
  obtain ⟨O_CS, P_CS, O_SI, P_SI, O_EMPTY, E_EMPTY, F_EMPTY, O_ENGLISH, E_ENGLISH, Fs_ENGLISH, Es_ENGLISH, Fc_ENGLISH, Fv_ENGLISH, V_ENGLISH, O_JAPANESE, E_JAPANESE, Fs_JAPANESE, Es_JAPANESE, Fc_JAPANESE, Fv_JAPANESE, V_JAPANESE, O_CHINESE, E_CHINESE, Fs_CHINESE, Es_CHINESE, Fc_CHINESE, Fv_CHINESE, V_CHINESE, O_VALUES, E_VALUES, V_VALUES⟩ := id gl
  have hx := Bd.exec
  have hby := Bd.bytes
  have hml : c.maxLocals = 2 := hml0
  have hown : s.vm.findClass "com/example/dragoman/dragoman/core/LanguageForCodePinLaw" = some m.cls := findClass_of_methodNamed Bd.named
  have hnm := (name_of_methodNamed Bd.named Bd.method).1
  have X0 : Stand p l e ({ frames := 4, cells := 2, slots := 28, locals := 53 } : Room) s m #[(.int p1)] below meth c s₁ [] 0 0 := Stand.of_body Bd
  have e0 : s₁.heap = h0 := by rw [← hh, Bd.state]; rfl
  have N0 := Fr.nil n0
  have pre0 : ∀ t, Steps p.tables e below (s₁.setTop (mkF m 0 #[.val (.int p1), .unset] [])) t → Steps p.tables e below (s₁.setTop (entryFrame m #[(.int p1)] 2)) t := fun t k => castTop (own_efrm_pk5 m p1) k
  obtain ⟨la1, T1, h1, kS1, lb1, lk1, X1, e1, E1, hS1, hk1, hZ1, hown1, Ea1, Ca1, Va1, Ba1, lt1, ltb1, hC1, hL1, hne1, st1⟩ := ldcCH (s := s) (vm0 := s.vm) X0 hx hZ hown (hw _ (List.mem_of_getElem? (i := 83) rfl)) (fun d hd => hw d (own_strAtoms d hd)) e0 ((State.WarmedH.refl s).since 0) (Nat.zero_le _) (own_EW hw) (by decide) hCH (vs := ((([(101 : Int32), (110 : Int32), (106 : Int32), (97 : Int32), (122 : Int32), (104 : Int32)] : List Int32).map (fun c => c.toInt8.toInt32)).map Value.int)) (z := (6 : Int32)) ⟨by decide, rfl⟩ (by decide) rfl (g := (mkF m 17 #[.val (.int p1), .val (.int (5 : Int32))] [])) rfl (hb hby own_d_method_2_17) (n := 24) (by decide) (by decide) (by decide) (by decide)
  have Kp2 : Keep h0 h1 [] := (Keep.refl h0 []).ext E1
  have hph3 : ∀ c ∈ ([(101 : Int32), (110 : Int32), (106 : Int32), (97 : Int32), (122 : Int32), (104 : Int32)] : List Int32), ¬ c < 0 ∧ ¬ (255 : Int32) < c := (own_cS (by decide) (own_cS (by decide) (own_cS (by decide) (own_cS (by decide) (own_cS (by decide) (own_cS (by decide) own_c0))))))
  have cdh4 : StrChars.Road.CodA ([(101 : Int32), (110 : Int32), (106 : Int32), (97 : Int32), (122 : Int32), (104 : Int32)] : List Int32) 0 (6 : Int32) ((([(101 : Int32), (110 : Int32), (106 : Int32), (97 : Int32), (122 : Int32), (104 : Int32)] : List Int32).map (fun c => c.toInt8.toInt32)).map Value.int) := (StrChars.Road.codOf (cs := ([(101 : Int32), (110 : Int32), (106 : Int32), (97 : Int32), (122 : Int32), (104 : Int32)] : List Int32)) (n := 6) rfl (fun c hc => (hph3 c hc).2))
  have hws_wordsChN : ∀ d ∈ StrChars.Road.wordsChN, d.before a0 Z = true := fun d hd => hw d (own_hws_wordsChN d hd)
  have Old5 : Old Z n0 h1 := X00.ext E1
  obtain ⟨cq6, kq6, q6a, q6b, q6c⟩ := isOf hZ1 e1 Ea1
  obtain ⟨_, _, ⟨T6, L6, k6, n6⟩, -, X6, ⟨Lc6, hQ6, l6, y6, z6⟩, st6⟩ := X1.virtualBack hx (y := (⟨"java/lang/String", "charAt", "(I)C"⟩ : MethodName)) (z := (⟨"java/lang/String", "charAt", "(I)C"⟩ : MethodName)) hown1 (mvT hZ1 (hw _ (List.mem_of_getElem? (i := 84) rfl))) (mvT hZ1 (hw _ (List.mem_of_getElem? (i := 85) rfl))) (notFace_of_selects (args := #[]) (mvT hZ1 (hw _ (List.mem_of_getElem? (i := 87) rfl)))) (mvT hZ1 (hw _ (List.mem_of_getElem? (i := 87) rfl))) (mvT hZ1 (hw _ (List.mem_of_getElem? (i := 86) rfl))) (by decide) (StrChars.Road.chN (W := 0) hZ1 hws_wordsChN (kI := 4) (hw _ (List.mem_of_getElem? (i := 5) rfl)) Ea1 Va1 Ca1 Ba1 cdh4 (own_up _ hph3) (O_CS.ext Old5.2) P_CS (O_SI.ext Old5.2) P_SI (Nat.le_of_ble_eq_true rfl) (i := 5) (Nat.le_of_ble_eq_true rfl) (j := (5 : Int32)) rfl (by decide) (by decide)) q6a q6c (g := (mkF m 20 #[.val (.int p1), .val (.int (5 : Int32))] [(.int (5 : Int32)), (.ref la1)])) rfl (by rw [hml]; rfl) (Steps.refl _) (argsL := [(.int (5 : Int32))]) (rest := []) (lenOf own_pd7 rfl) rfl (by show 2 * 0 + _ ≤ _; exact Nat.le_of_eq rfl) (hb hby own_d_method_2_20) (fun _ _ => ⟨rfl, e1, (by decide : 2 + 0 ≤ _), (by decide : 28 + 0 ≤ _)⟩)
  dsimp only [Pt.U, Pt.locs, Pt.cells, Pt.slots] at X6 l6 y6 z6 st6 hQ6
  subst y6 z6
  obtain ⟨rfl, rfl, e6⟩ := hQ6
  have N6 : Fr n0 L6 := by rw [l6]; exact Fr.app N0 (Fr.nil n0)
  have hCRf : CHr Z consts_1 s.vm s.heap T6.vm T6.heap := by rw [hh, e6]; exact ((CHr.refl hCH).trans hC1).trans (CHv.at (vm0 := T1.vm) X6 hZ1 (own_EW hw) hC1.1)
  obtain ⟨fs, hr, hrun, hended, hREW⟩ := X6.leaveW hS1 (by rw [e6]; exact hk1) (v := some (.int (104 : Int32))) (fun h => by rw [Bd.returns] at h; cases h)
  refine ⟨_, _, pre0 _ ?_, hrun, hended, _, _, rfl, ?_, hCRf, hREW.1, hREW.2.1, hREW.2.2.1, hREW.2.2.2.mono (by decide) (by decide)⟩
  · show Steps p.tables e below (s₁.setTop (mkF m 0 #[.val (.int p1), .unset] [])) _
    refine XS.iloadN X0.here hx rfl (hb hby own_d_method_2_0) rfl ?_
    show Steps p.tables e below (s₁.setTop (mkF m 1 #[.val (.int p1), .unset] [(.int p1)])) _
    refine XS.sipush X0.here hx rfl (hb hby own_d_method_2_1) ?_
    show Steps p.tables e below (s₁.setTop (mkF m 4 #[.val (.int p1), .unset] [(.int (256 : Int32)), (.int p1)])) _
    refine XS.iand X0.here hx rfl (hb hby own_d_method_2_4) rfl ?_
    show Steps p.tables e below (s₁.setTop (mkF m 5 #[.val (.int p1), .unset] [(.int (p1 &&& (256 : Int32)))])) _
    refine XS.ifNo X0.here hx rfl (hb hby own_d_method_2_5) rfl ((if0 _ _).trans (feq hc1).1) ?_
    show Steps p.tables e below (s₁.setTop (mkF m 8 #[.val (.int p1), .unset] [])) _
    refine XS.iloadN X0.here hx rfl (hb hby own_d_method_2_8) rfl ?_
    show Steps p.tables e below (s₁.setTop (mkF m 9 #[.val (.int p1), .unset] [(.int p1)])) _
    refine XS.sipush X0.here hx rfl (hb hby own_d_method_2_9) ?_
    show Steps p.tables e below (s₁.setTop (mkF m 12 #[.val (.int p1), .unset] [(.int (255 : Int32)), (.int p1)])) _
    refine XS.iand X0.here hx rfl (hb hby own_d_method_2_12) rfl ?_
    show Steps p.tables e below (s₁.setTop (mkF m 13 #[.val (.int p1), .unset] [(.int (p1 &&& (255 : Int32)))])) _
    refine XS.bipush X0.here hx rfl (hb hby own_d_method_2_13) ?_
    show Steps p.tables e below (s₁.setTop (mkF m 15 #[.val (.int p1), .unset] [(.int (6 : Int32)), (.int (p1 &&& (255 : Int32)))])) _
    refine iremM X0 hx rfl (hb hby own_d_method_2_15) rfl (by decide) ?_
    show Steps p.tables e below (s₁.setTop (mkF m 16 #[.val (.int p1), .unset] [(.int (own_k6 p1))])) _
    rw [hj]
    show Steps p.tables e below (s₁.setTop (mkF m 16 #[.val (.int p1), .unset] [(.int (5 : Int32))])) _
    refine XS.istoreN X0.here hx rfl (hb hby own_d_method_2_16) rfl (l' := #[.val (.int p1), .val (.int (5 : Int32))]) rfl ?_
    show Steps p.tables e below (s₁.setTop (mkF m 17 #[.val (.int p1), .val (.int (5 : Int32))] [])) _
    refine st1 _ ?_
    show Steps p.tables e below (T1.setTop (mkF m 19 #[.val (.int p1), .val (.int (5 : Int32))] [(.ref la1)])) _
    refine XS.iloadN X1.here hx rfl (hb hby own_d_method_2_19) rfl ?_
    show Steps p.tables e below (T1.setTop (mkF m 20 #[.val (.int p1), .val (.int (5 : Int32))] [(.int (5 : Int32)), (.ref la1)])) _
    refine st6.trans ?_
    show Steps p.tables e below (T6.setTop (mkF m 23 #[.val (.int p1), .val (.int (5 : Int32))] [(.int (104 : Int32))])) _
    exact retN X6 hx (t := .char) Bd.returns (by simp) (hb hby own_d_method_2_23) hr
  · show own_Qrm_pk5 Z G1 G3 k_EMPTY k_ENGLISH s_ENGLISH t_ENGLISH kb_ENGLISH k_JAPANESE s_JAPANESE t_JAPANESE kb_JAPANESE k_CHINESE s_CHINESE t_CHINESE kb_CHINESE k_VALUES kv_VALUES p1 h0 n0 _ T6.heap _
    rw [e6]
    exact ⟨rfl, N6, Kp2⟩
theorem own_d_method_2_24 : decode method_2_code 24 = .ok (.iload_n 0, 1) := by decide +kernel
theorem own_d_method_2_25 : decode method_2_code 25 = .ok (.sipush 255, 3) := by decide +kernel
theorem own_d_method_2_28 : decode method_2_code 28 = .ok (.iand, 1) := by decide +kernel
theorem own_d_method_2_29 : decode method_2_code 29 = .ok (.i2c, 1) := by decide +kernel
theorem own_d_method_2_30 : decode method_2_code 30 = .ok (.ireturn, 1) := by decide +kernel
def own_Qrm_pkt (Z : State) (G1 : Int32) (G3 : Value) (k_EMPTY : Addr) (k_ENGLISH : Addr) (s_ENGLISH : Addr) (t_ENGLISH : Addr) (kb_ENGLISH : ClassId) (k_JAPANESE : Addr) (s_JAPANESE : Addr) (t_JAPANESE : Addr) (kb_JAPANESE : ClassId) (k_CHINESE : Addr) (s_CHINESE : Addr) (t_CHINESE : Addr) (kb_CHINESE : ClassId) (k_VALUES : Addr) (kv_VALUES : ClassId) (p1 : Int32) (h0 : Heap) (n0 : Nat) (v : Option Value) (h : Heap) (L : List Loc) : Prop := (v = some (.int (own_n p1))) ∧ (Fr n0 L) ∧ (h = h0)
theorem own_efrm_pkt (m : MethodId) (p1 : Int32) : entryFrame m #[(.int p1)] 2 = mkF m 0 #[.val (.int p1), .unset] [] := by first | (simp [entryFrame, mkF, argsToLocals, Value.category]; done) | rfl
set_option maxRecDepth 65536 in
set_option maxHeartbeats 40000000 in
theorem own_rm_pkt (l : Launch) (Z : State) (a0 : Array Value) (hw : ∀ d ∈ tables_1, d.before a0 Z = true) (ws : List Jvm.Cond) (G1 : Int32) (G3 : Value) (k_EMPTY : Addr) (k_ENGLISH : Addr) (s_ENGLISH : Addr) (t_ENGLISH : Addr) (kb_ENGLISH : ClassId) (k_JAPANESE : Addr) (s_JAPANESE : Addr) (t_JAPANESE : Addr) (kb_JAPANESE : ClassId) (k_CHINESE : Addr) (s_CHINESE : Addr) (t_CHINESE : Addr) (kb_CHINESE : ClassId) (k_VALUES : Addr) (kv_VALUES : ClassId) (gl : own_Glob Z G1 G3 k_EMPTY k_ENGLISH s_ENGLISH t_ENGLISH kb_ENGLISH k_JAPANESE s_JAPANESE t_JAPANESE kb_JAPANESE k_CHINESE s_CHINESE t_CHINESE kb_CHINESE k_VALUES kv_VALUES) (p1 : Int32) (h0 : Heap) (n0 : Nat) (Z0 : n0 ≤ h0.size) (hc1 : (p1 &&& (256 : Int32)) = (0 : Int32)) :
    MetFree l (⟨"com/example/dragoman/dragoman/core/LanguageForCodePinLaw", "pick", "(I)C"⟩ : MethodName) (head1 (Jvm.Cond.code (⟨"com/example/dragoman/dragoman/core/LanguageForCodePinLaw", "pick", "(I)C"⟩ : MethodName) method_2_code 2 (some .char) :: ws) ({ frames := 4, cells := 2, slots := 28, locals := 53 } : Room)) (fun a U => a = #[(.int p1)] ∧ Z.Warmed39 U.vm ∧ U.heap = h0 ∧ CHv Z consts_1 U.vm h0) (fun _ _ _ _ _ => True) (fun _ U o U' => ∃ v L, o = .returned v ∧ own_Qrm_pkt Z G1 G3 k_EMPTY k_ENGLISH s_ENGLISH t_ENGLISH kb_ENGLISH k_JAPANESE s_JAPANESE t_JAPANESE kb_JAPANESE k_CHINESE s_CHINESE t_CHINESE kb_CHINESE k_VALUES kv_VALUES p1 h0 n0 v U'.heap L ∧ CHr Z consts_1 U.vm U.heap U'.vm U'.heap ∧ ReturnedEndW U o U' L ({ frames := 4, cells := 2, slots := 28, locals := 53 } : Room).cells ({ frames := 4, cells := 2, slots := 28, locals := 53 } : Room).slots) := by
  refine MetFree.of_bodySF (plainFor_of_name own_pn8) hisR ?_
  intro p e s m args below meth c s₁ Bd hml0 hP hK
  obtain ⟨rfl, hZ, hh, hCH⟩ := hP
  obtain ⟨O_CS, P_CS, O_SI, P_SI, O_EMPTY, E_EMPTY, F_EMPTY, O_ENGLISH, E_ENGLISH, Fs_ENGLISH, Es_ENGLISH, Fc_ENGLISH, Fv_ENGLISH, V_ENGLISH, O_JAPANESE, E_JAPANESE, Fs_JAPANESE, Es_JAPANESE, Fc_JAPANESE, Fv_JAPANESE, V_JAPANESE, O_CHINESE, E_CHINESE, Fs_CHINESE, Es_CHINESE, Fc_CHINESE, Fv_CHINESE, V_CHINESE, O_VALUES, E_VALUES, V_VALUES⟩ := id gl
  have hx := Bd.exec
  have hby := Bd.bytes
  have hml : c.maxLocals = 2 := hml0
  have hown : s.vm.findClass "com/example/dragoman/dragoman/core/LanguageForCodePinLaw" = some m.cls := findClass_of_methodNamed Bd.named
  have hnm := (name_of_methodNamed Bd.named Bd.method).1
  have X0 : Stand p l e ({ frames := 4, cells := 2, slots := 28, locals := 53 } : Room) s m #[(.int p1)] below meth c s₁ [] 0 0 := Stand.of_body Bd
  have e0 : s₁.heap = h0 := by rw [← hh, Bd.state]; rfl
  have N0 := Fr.nil n0
  have pre0 : ∀ t, Steps p.tables e below (s₁.setTop (mkF m 0 #[.val (.int p1), .unset] [])) t → Steps p.tables e below (s₁.setTop (entryFrame m #[(.int p1)] 2)) t := fun t k => castTop (own_efrm_pkt m p1) k
  have hCRf : CHr Z consts_1 s.vm s.heap s₁.vm s₁.heap := by rw [hh, e0]; exact (CHr.refl hCH).trans (CHv.at (vm0 := s.vm) X0 hZ (own_EW hw) hCH)
  obtain ⟨fs, hr, hrun, hended, hREW⟩ := Stand.leaveW (s := s) (vm₁ := s.vm) X0 ((State.WarmedH.refl s).since 0) (by rw [e0]; exact (Nat.zero_le _)) (v := some (.int (own_n p1))) (fun h => by rw [Bd.returns] at h; cases h)
  refine ⟨_, _, pre0 _ ?_, hrun, hended, _, _, rfl, ?_, hCRf, hREW.1, hREW.2.1, hREW.2.2.1, hREW.2.2.2.mono (by decide) (by decide)⟩
  · show Steps p.tables e below (s₁.setTop (mkF m 0 #[.val (.int p1), .unset] [])) _
    refine XS.iloadN X0.here hx rfl (hb hby own_d_method_2_0) rfl ?_
    show Steps p.tables e below (s₁.setTop (mkF m 1 #[.val (.int p1), .unset] [(.int p1)])) _
    refine XS.sipush X0.here hx rfl (hb hby own_d_method_2_1) ?_
    show Steps p.tables e below (s₁.setTop (mkF m 4 #[.val (.int p1), .unset] [(.int (256 : Int32)), (.int p1)])) _
    refine XS.iand X0.here hx rfl (hb hby own_d_method_2_4) rfl ?_
    show Steps p.tables e below (s₁.setTop (mkF m 5 #[.val (.int p1), .unset] [(.int (p1 &&& (256 : Int32)))])) _
    refine XS.ifYes X0.here hx rfl (pc0 := 5) (pc' := 24) rfl (hb hby own_d_method_2_5) rfl ((if0 _ _).trans (teq hc1).1) (by decide) (by decide) ?_
    show Steps p.tables e below (s₁.setTop (mkF m 24 #[.val (.int p1), .unset] [])) _
    refine XS.iloadN X0.here hx rfl (hb hby own_d_method_2_24) rfl ?_
    show Steps p.tables e below (s₁.setTop (mkF m 25 #[.val (.int p1), .unset] [(.int p1)])) _
    refine XS.sipush X0.here hx rfl (hb hby own_d_method_2_25) ?_
    show Steps p.tables e below (s₁.setTop (mkF m 28 #[.val (.int p1), .unset] [(.int (255 : Int32)), (.int p1)])) _
    refine XS.iand X0.here hx rfl (hb hby own_d_method_2_28) rfl ?_
    show Steps p.tables e below (s₁.setTop (mkF m 29 #[.val (.int p1), .unset] [(.int (p1 &&& (255 : Int32)))])) _
    refine XS.i2c X0.here hx rfl (hb hby own_d_method_2_29) rfl ?_
    show Steps p.tables e below (s₁.setTop (mkF m 30 #[.val (.int p1), .unset] [(.int ((p1 &&& (255 : Int32)).toUInt32.toUInt16.toUInt32.toInt32))])) _
    exact retN X0 hx (t := .char) Bd.returns (by simp) (hb hby own_d_method_2_30) hr
  · show own_Qrm_pkt Z G1 G3 k_EMPTY k_ENGLISH s_ENGLISH t_ENGLISH kb_ENGLISH k_JAPANESE s_JAPANESE t_JAPANESE kb_JAPANESE k_CHINESE s_CHINESE t_CHINESE kb_CHINESE k_VALUES kv_VALUES p1 h0 n0 _ s₁.heap _
    rw [e0]
    exact ⟨rfl, N0, rfl⟩
def own_Qpk (p1 : Int32) (h0 : Heap) (n0 : Nat) (v : Option Value) (h : Heap) (L : List Loc) : Prop := (v = some (.int (own_pk p1))) ∧ (Fr n0 L) ∧ (Keep h0 h [])
set_option maxRecDepth 65536 in
theorem own_rm_pk (l : Launch) (Z : State) (a0 : Array Value) (hw : ∀ d ∈ tables_1, d.before a0 Z = true) (ws : List Jvm.Cond) (G1 : Int32) (G3 : Value) (k_EMPTY : Addr) (k_ENGLISH : Addr) (s_ENGLISH : Addr) (t_ENGLISH : Addr) (kb_ENGLISH : ClassId) (k_JAPANESE : Addr) (s_JAPANESE : Addr) (t_JAPANESE : Addr) (kb_JAPANESE : ClassId) (k_CHINESE : Addr) (s_CHINESE : Addr) (t_CHINESE : Addr) (kb_CHINESE : ClassId) (k_VALUES : Addr) (kv_VALUES : ClassId) (gl : own_Glob Z G1 G3 k_EMPTY k_ENGLISH s_ENGLISH t_ENGLISH kb_ENGLISH k_JAPANESE s_JAPANESE t_JAPANESE kb_JAPANESE k_CHINESE s_CHINESE t_CHINESE kb_CHINESE k_VALUES kv_VALUES) (p1 : Int32) (h0 : Heap) (n0 : Nat) (Z0 : n0 ≤ h0.size) (X00 : Old Z n0 h0) :
    MetFree l (⟨"com/example/dragoman/dragoman/core/LanguageForCodePinLaw", "pick", "(I)C"⟩ : MethodName) (head1 (Jvm.Cond.code (⟨"com/example/dragoman/dragoman/core/LanguageForCodePinLaw", "pick", "(I)C"⟩ : MethodName) method_2_code 2 (some .char) :: ws) ({ frames := 4, cells := 2, slots := 28, locals := 53 } : Room)) (fun a U => a = #[(.int p1)] ∧ Z.Warmed39 U.vm ∧ U.heap = h0 ∧ CHv Z consts_1 U.vm h0) (fun _ _ _ _ _ => True) (fun _ U o U' => ∃ v L, o = .returned v ∧ own_Qpk p1 h0 n0 v U'.heap L ∧ CHr Z consts_1 U.vm U.heap U'.vm U'.heap ∧ ReturnedEndW U o U' L ({ frames := 4, cells := 2, slots := 28, locals := 53 } : Room).cells ({ frames := 4, cells := 2, slots := 28, locals := 53 } : Room).slots) := by
  by_cases hx0 : (p1 &&& (256 : Int32)) = (0 : Int32)
  · exact MetFree.imp (own_rm_pkt l Z a0 hw ws G1 G3 k_EMPTY k_ENGLISH s_ENGLISH t_ENGLISH kb_ENGLISH k_JAPANESE s_JAPANESE t_JAPANESE kb_JAPANESE k_CHINESE s_CHINESE t_CHINESE kb_CHINESE k_VALUES kv_VALUES gl p1 h0 n0 Z0 hx0) (fun _ _ _ _ ⟨v, L, e1, ⟨q1, q2, q3⟩, f1⟩ => ⟨v, L, e1, ⟨q1.trans (congrArg (fun z => some (Value.int z)) (show (own_n p1) = own_pk p1 from by simp [own_pk, hx0])), q2, q3 ▸ Keep.refl _ _⟩, f1⟩)
  rcases own_k6c p1 with hj | hj | hj | hj | hj | hj
  · exact MetFree.imp (own_rm_pk0 l Z a0 hw ws G1 G3 k_EMPTY k_ENGLISH s_ENGLISH t_ENGLISH kb_ENGLISH k_JAPANESE s_JAPANESE t_JAPANESE kb_JAPANESE k_CHINESE s_CHINESE t_CHINESE kb_CHINESE k_VALUES kv_VALUES gl p1 h0 n0 Z0 X00 hx0 hj) (fun _ _ _ _ ⟨v, L, e1, ⟨q1, q2, q3⟩, f1⟩ => ⟨v, L, e1, ⟨q1.trans (congrArg (fun z => some (Value.int z)) (show (101 : Int32) = own_pk p1 from by simp [own_pk, own_ez, hx0, hj])), q2, q3⟩, f1⟩)
  · exact MetFree.imp (own_rm_pk1 l Z a0 hw ws G1 G3 k_EMPTY k_ENGLISH s_ENGLISH t_ENGLISH kb_ENGLISH k_JAPANESE s_JAPANESE t_JAPANESE kb_JAPANESE k_CHINESE s_CHINESE t_CHINESE kb_CHINESE k_VALUES kv_VALUES gl p1 h0 n0 Z0 X00 hx0 hj) (fun _ _ _ _ ⟨v, L, e1, ⟨q1, q2, q3⟩, f1⟩ => ⟨v, L, e1, ⟨q1.trans (congrArg (fun z => some (Value.int z)) (show (110 : Int32) = own_pk p1 from by simp [own_pk, own_ez, hx0, hj])), q2, q3⟩, f1⟩)
  · exact MetFree.imp (own_rm_pk2 l Z a0 hw ws G1 G3 k_EMPTY k_ENGLISH s_ENGLISH t_ENGLISH kb_ENGLISH k_JAPANESE s_JAPANESE t_JAPANESE kb_JAPANESE k_CHINESE s_CHINESE t_CHINESE kb_CHINESE k_VALUES kv_VALUES gl p1 h0 n0 Z0 X00 hx0 hj) (fun _ _ _ _ ⟨v, L, e1, ⟨q1, q2, q3⟩, f1⟩ => ⟨v, L, e1, ⟨q1.trans (congrArg (fun z => some (Value.int z)) (show (106 : Int32) = own_pk p1 from by simp [own_pk, own_ez, hx0, hj])), q2, q3⟩, f1⟩)
  · exact MetFree.imp (own_rm_pk3 l Z a0 hw ws G1 G3 k_EMPTY k_ENGLISH s_ENGLISH t_ENGLISH kb_ENGLISH k_JAPANESE s_JAPANESE t_JAPANESE kb_JAPANESE k_CHINESE s_CHINESE t_CHINESE kb_CHINESE k_VALUES kv_VALUES gl p1 h0 n0 Z0 X00 hx0 hj) (fun _ _ _ _ ⟨v, L, e1, ⟨q1, q2, q3⟩, f1⟩ => ⟨v, L, e1, ⟨q1.trans (congrArg (fun z => some (Value.int z)) (show (97 : Int32) = own_pk p1 from by simp [own_pk, own_ez, hx0, hj])), q2, q3⟩, f1⟩)
  · exact MetFree.imp (own_rm_pk4 l Z a0 hw ws G1 G3 k_EMPTY k_ENGLISH s_ENGLISH t_ENGLISH kb_ENGLISH k_JAPANESE s_JAPANESE t_JAPANESE kb_JAPANESE k_CHINESE s_CHINESE t_CHINESE kb_CHINESE k_VALUES kv_VALUES gl p1 h0 n0 Z0 X00 hx0 hj) (fun _ _ _ _ ⟨v, L, e1, ⟨q1, q2, q3⟩, f1⟩ => ⟨v, L, e1, ⟨q1.trans (congrArg (fun z => some (Value.int z)) (show (122 : Int32) = own_pk p1 from by simp [own_pk, own_ez, hx0, hj])), q2, q3⟩, f1⟩)
  · exact MetFree.imp (own_rm_pk5 l Z a0 hw ws G1 G3 k_EMPTY k_ENGLISH s_ENGLISH t_ENGLISH kb_ENGLISH k_JAPANESE s_JAPANESE t_JAPANESE kb_JAPANESE k_CHINESE s_CHINESE t_CHINESE kb_CHINESE k_VALUES kv_VALUES gl p1 h0 n0 Z0 X00 hx0 hj) (fun _ _ _ _ ⟨v, L, e1, ⟨q1, q2, q3⟩, f1⟩ => ⟨v, L, e1, ⟨q1.trans (congrArg (fun z => some (Value.int z)) (show (104 : Int32) = own_pk p1 from by simp [own_pk, own_ez, hx0, hj])), q2, q3⟩, f1⟩)
theorem own_d_prog_9_method_6_0 : decode prog_9_method_6_code 0 = .ok (.invokestatic 39, 3) := by decide +kernel
theorem own_pd9 : parseMethodDescriptor "()[Lcom/example/dragoman/dragoman/core/Language;" = some ⟨[], some (.array (.object "com/example/dragoman/dragoman/core/Language"))⟩ := by decide +kernel
theorem own_d_prog_9_method_6_3 : decode prog_9_method_6_code 3 = .ok (.astore_n 1, 1) := by decide +kernel
theorem own_d_prog_9_method_6_4 : decode prog_9_method_6_code 4 = .ok (.aload_n 1, 1) := by decide +kernel
theorem own_d_prog_9_method_6_5 : decode prog_9_method_6_code 5 = .ok (.arraylength, 1) := by decide +kernel
theorem own_d_prog_9_method_6_6 : decode prog_9_method_6_code 6 = .ok (.istore_n 2, 1) := by decide +kernel
theorem own_d_prog_9_method_6_7 : decode prog_9_method_6_code 7 = .ok (.iconst 0, 1) := by decide +kernel
theorem own_d_prog_9_method_6_8 : decode prog_9_method_6_code 8 = .ok (.istore_n 3, 1) := by decide +kernel
theorem own_d_prog_9_method_6_9 : decode prog_9_method_6_code 9 = .ok (.iload_n 3, 1) := by decide +kernel
theorem own_d_prog_9_method_6_10 : decode prog_9_method_6_code 10 = .ok (.iload_n 2, 1) := by decide +kernel
theorem own_d_prog_9_method_6_11 : decode prog_9_method_6_code 11 = .ok (.if_icmp .ge 32, 3) := by decide +kernel
theorem own_d_prog_9_method_6_14 : decode prog_9_method_6_code 14 = .ok (.aload_n 1, 1) := by decide +kernel
theorem own_d_prog_9_method_6_15 : decode prog_9_method_6_code 15 = .ok (.iload_n 3, 1) := by decide +kernel
theorem own_d_prog_9_method_6_16 : decode prog_9_method_6_code 16 = .ok (.aaload, 1) := by decide +kernel
theorem own_d_prog_9_method_6_17 : decode prog_9_method_6_code 17 = .ok (.astore 4, 2) := by decide +kernel
theorem own_d_prog_9_method_6_19 : decode prog_9_method_6_code 19 = .ok (.aload 4, 2) := by decide +kernel
theorem own_d_prog_9_method_6_21 : decode prog_9_method_6_code 21 = .ok (.getfield 32, 3) := by decide +kernel
theorem own_d_prog_9_method_6_24 : decode prog_9_method_6_code 24 = .ok (.aload_n 0, 1) := by decide +kernel
theorem own_d_prog_9_method_6_25 : decode prog_9_method_6_code 25 = .ok (.invokevirtual 43, 3) := by decide +kernel
theorem own_pd10 : parseMethodDescriptor "(Ljava/lang/Object;)Z" = some ⟨[(.object "java/lang/Object")], some .boolean⟩ := by decide +kernel
theorem own_d_prog_9_method_6_28 : decode prog_9_method_6_code 28 = .ok (.ifCond .eq 9, 3) := by decide +kernel
theorem own_d_prog_9_method_6_31 : decode prog_9_method_6_code 31 = .ok (.aload 4, 2) := by decide +kernel
theorem own_d_prog_9_method_6_33 : decode prog_9_method_6_code 33 = .ok (.invokestatic 49, 3) := by decide +kernel
theorem own_pd11 : parseMethodDescriptor "(Ljava/lang/Object;)Ljava/util/Optional;" = some ⟨[(.object "java/lang/Object")], some (.object "java/util/Optional")⟩ := by decide +kernel
theorem own_d_prog_9_method_6_36 : decode prog_9_method_6_code 36 = .ok (.areturn, 1) := by decide +kernel
def own_Qrm_fcE (Z : State) (G1 : Int32) (G3 : Value) (k_EMPTY : Addr) (k_ENGLISH : Addr) (s_ENGLISH : Addr) (t_ENGLISH : Addr) (kb_ENGLISH : ClassId) (k_JAPANESE : Addr) (s_JAPANESE : Addr) (t_JAPANESE : Addr) (kb_JAPANESE : ClassId) (k_CHINESE : Addr) (s_CHINESE : Addr) (t_CHINESE : Addr) (kb_CHINESE : ClassId) (k_VALUES : Addr) (kv_VALUES : ClassId) (a1 : Addr) (cs : List Int32) (t2 : Addr) (kb3 : ClassId) (h0 : Heap) (n0 : Nat) (v : Option Value) (h : Heap) (L : List Loc) : Prop := ∃ (b1_15 : Addr), (v = some (.ref b1_15)) ∧ (Fr n0 L) ∧ (Keep h0 h []) ∧ (h0.size ≤ b1_15) ∧ (Exa Z h b1_15 "java/util/Optional") ∧ (Fld Z h b1_15 "java/util/Optional" "value" "Ljava/lang/Object;" (.ref k_ENGLISH))
theorem own_efrm_fcE (m : MethodId) (a1 : Addr) : entryFrame m #[(.ref a1)] 5 = mkF m 0 #[.val (.ref a1), .unset, .unset, .unset, .unset] [] := by first | (simp [entryFrame, mkF, argsToLocals, Value.category]; done) | rfl
set_option maxRecDepth 65536 in
set_option maxHeartbeats 40000000 in
theorem own_rm_fcE (l : Launch) (Z : State) (a0 : Array Value) (hw : ∀ d ∈ tables_1, d.before a0 Z = true) (ws : List Jvm.Cond) (G1 : Int32) (G3 : Value) (k_EMPTY : Addr) (k_ENGLISH : Addr) (s_ENGLISH : Addr) (t_ENGLISH : Addr) (kb_ENGLISH : ClassId) (k_JAPANESE : Addr) (s_JAPANESE : Addr) (t_JAPANESE : Addr) (kb_JAPANESE : ClassId) (k_CHINESE : Addr) (s_CHINESE : Addr) (t_CHINESE : Addr) (kb_CHINESE : ClassId) (k_VALUES : Addr) (kv_VALUES : ClassId) (gl : own_Glob Z G1 G3 k_EMPTY k_ENGLISH s_ENGLISH t_ENGLISH kb_ENGLISH k_JAPANESE s_JAPANESE t_JAPANESE kb_JAPANESE k_CHINESE s_CHINESE t_CHINESE kb_CHINESE k_VALUES kv_VALUES) (a1 : Addr) (cs : List Int32) (t2 : Addr) (kb3 : ClassId) (h0 : Heap) (n0 : Nat) (Z0 : n0 ≤ h0.size) (X00 : Old Z n0 h0) (P1 : Exa Z h0 a1 "java/lang/String") (P2 : Fld Z h0 a1 "java/lang/String" "value" "[B" (.ref t2)) (P3 : Fld Z h0 a1 "java/lang/String" "coder" "B" (.int (0 : Int32))) (P4 : Arv Z h0 t2 kb3 .byte (Int32.ofNat cs.length) ((cs.map (fun c => c.toInt8.toInt32)).map Value.int) (.int (0 : Int32))) (P5 : ∀ c ∈ cs, ¬ c < 0 ∧ ¬ (255 : Int32) < c) (P6 : cs.length ≤ 4000) (P7 : ([(101 : Int32), (110 : Int32)] : List Int32) = cs) :
    MetFree l (⟨"com/example/dragoman/dragoman/core/Language", "forCode", "(Ljava/lang/String;)Ljava/util/Optional;"⟩ : MethodName) (head1 (Jvm.Cond.code (⟨"com/example/dragoman/dragoman/core/Language", "forCode", "(Ljava/lang/String;)Ljava/util/Optional;"⟩ : MethodName) prog_9_method_6_code 5 (some (.object "java/util/Optional")) :: ws) ({ frames := 3, cells := 2, slots := 4, locals := 38 } : Room)) (fun a U => a = #[(.ref a1)] ∧ Z.Warmed39 U.vm ∧ U.heap = h0) (fun _ _ _ _ _ => True) (fun _ U o U' => ∃ v L, o = .returned v ∧ own_Qrm_fcE Z G1 G3 k_EMPTY k_ENGLISH s_ENGLISH t_ENGLISH kb_ENGLISH k_JAPANESE s_JAPANESE t_JAPANESE kb_JAPANESE k_CHINESE s_CHINESE t_CHINESE kb_CHINESE k_VALUES kv_VALUES a1 cs t2 kb3 h0 n0 v U'.heap L ∧ FrameEnd U o U' L ({ frames := 3, cells := 2, slots := 4, locals := 38 } : Room).cells ({ frames := 3, cells := 2, slots := 4, locals := 38 } : Room).slots) := by
  refine MetFree.of_bodySF (plainFor_of_name own_pn6) hisR ?_
  intro p e s m args below meth c s₁ Bd hml0 hP hK
  obtain ⟨rfl, hZ, hh⟩ := hP
  obtain ⟨O_CS, P_CS, O_SI, P_SI, O_EMPTY, E_EMPTY, F_EMPTY, O_ENGLISH, E_ENGLISH, Fs_ENGLISH, Es_ENGLISH, Fc_ENGLISH, Fv_ENGLISH, V_ENGLISH, O_JAPANESE, E_JAPANESE, Fs_JAPANESE, Es_JAPANESE, Fc_JAPANESE, Fv_JAPANESE, V_JAPANESE, O_CHINESE, E_CHINESE, Fs_CHINESE, Es_CHINESE, Fc_CHINESE, Fv_CHINESE, V_CHINESE, O_VALUES, E_VALUES, V_VALUES⟩ := id gl
  have hx := Bd.exec
  have hby := Bd.bytes
  have hml : c.maxLocals = 5 := hml0
  have hown : s.vm.findClass "com/example/dragoman/dragoman/core/Language" = some m.cls := findClass_of_methodNamed Bd.named
  have hnm := (name_of_methodNamed Bd.named Bd.method).1
  have X0 : Stand p l e ({ frames := 3, cells := 2, slots := 4, locals := 38 } : Room) s m #[(.ref a1)] below meth c s₁ [] 0 0 := Stand.of_body Bd
  have e0 : s₁.heap = h0 := by rw [← hh, Bd.state]; rfl
  have N0 := Fr.nil n0
  have pre0 : ∀ t, Steps p.tables e below (s₁.setTop (mkF m 0 #[.val (.ref a1), .unset, .unset, .unset, .unset] [])) t → Steps p.tables e below (s₁.setTop (entryFrame m #[(.ref a1)] 5)) t := fun t k => castTop (own_efrm_fcE m a1) k
  obtain ⟨_, _, ⟨T1, L1, k1, n1⟩, -, X1, ⟨Lc1, hQ1, l1, y1, z1⟩, st1⟩ := Jvm.LawKit.callS X0 hx (y := (⟨"com/example/dragoman/dragoman/core/Language", "values", "()[Lcom/example/dragoman/dragoman/core/Language;"⟩ : MethodName)) hown (mvT hZ (hw _ (List.mem_of_getElem? (i := 30) rfl))) (mvT hZ (hw _ (List.mem_of_getElem? (i := 31) rfl))) (mvT hZ (hw _ (List.mem_of_getElem? (i := 28) rfl))) (mvT hZ (hw _ (List.mem_of_getElem? (i := 32) rfl))) (by decide) (backOf (W := 0) (own_rm_values l Z a0 hw [] G1 G3 k_EMPTY k_ENGLISH s_ENGLISH t_ENGLISH kb_ENGLISH k_JAPANESE s_JAPANESE t_JAPANESE kb_JAPANESE k_CHINESE s_CHINESE t_CHINESE kb_CHINESE k_VALUES kv_VALUES gl  h0 n0 Z0 X00 ) hZ (hw _ (List.mem_of_getElem? (i := 32) rfl)) (hw _ (List.mem_of_getElem? (i := 28) rfl)) (by decide) (by decide)) (g := (mkF m 0 #[.val (.ref a1), .unset, .unset, .unset, .unset] [])) rfl (by rw [hml]; rfl) (argsL := []) (rest := []) (lenOf own_pd9 rfl) rfl (by show 2 * 0 + _ ≤ _; exact Nat.le_of_eq rfl) (hb hby own_d_prog_9_method_6_0) (fun _ _ => ⟨rfl, e0, (by decide : 0 + 1 ≤ _), (by decide : 0 + 3 ≤ _)⟩)
  dsimp only [Pt.U, Pt.locs, Pt.cells, Pt.slots] at X1 l1 y1 z1 st1 hQ1
  subst y1 z1
  obtain ⟨b2_1, rfl, Nq1, Kq1, f1_0, f1_1, f1_2⟩ := hQ1
  have N1 : Fr n0 L1 := by rw [l1]; exact Fr.app N0 Nq1
  have Kp2 : Keep h0 T1.heap [] := (Keep.refl h0 []).trans Kq1 all0
  obtain ⟨cl3, Ar3, -, Sz3, Ng3, -, -⟩ := id f1_1
  obtain ⟨cl4, Ar4, qc4, Sz4, Ng4, Hs4, Gs4⟩ := id f1_1
  have hin4 : ¬ ((0 : Int32) < 0 ∨ cl4.slots.size ≤ ((0 : Int32)).toNatClampNeg) := inb_of Sz4 ⟨(by decide), (by decide)⟩
  have hat4 : cl4.slots[((0 : Int32)).toNatClampNeg]? = some (.ref k_ENGLISH) := Has.at Hs4 hin4 rfl
  have Old5 : Old Z n0 T1.heap := X00.keep Kq1 all0
  obtain ⟨T6, X6, e6, st6⟩ := getF X1 hx hZ hown (host := "") (Or.inl (hw _ (List.mem_of_getElem? (i := 48) rfl))) Via.refl rfl (Fs_ENGLISH.ext Old5.2) (g := (mkF m 21 #[.val (.ref a1), .val (.ref b2_1), .val (.int (3 : Int32)), .val (.int (0 : Int32)), .val (.ref k_ENGLISH)] [(.ref k_ENGLISH)])) rfl rfl (hb hby own_d_prog_9_method_6_21)
  have hph7 : ∀ c ∈ ([(101 : Int32), (110 : Int32)] : List Int32), ¬ c < 0 ∧ ¬ (255 : Int32) < c := (own_cS (by decide) (own_cS (by decide) own_c0))
  have cdh8 : StrChars.Road.CodA ([(101 : Int32), (110 : Int32)] : List Int32) 0 (2 : Int32) ((([(101 : Int32), (110 : Int32)] : List Int32).map (fun c => c.toInt8.toInt32)).map Value.int) := (StrChars.Road.codOf (cs := ([(101 : Int32), (110 : Int32)] : List Int32)) (n := 2) rfl (fun c hc => (hph7 c hc).2))
  have hws_wordsEq : ∀ d ∈ StrChars.Road.wordsEq, d.before a0 Z = true := fun d hd => hw d (own_hws_wordsEq d hd)
  have Eh9 : Exa Z T1.heap a1 "java/lang/String" := (P1.keep Kq1)
  have Fh10 : Fld Z T1.heap a1 "java/lang/String" "value" "[B" (.ref t2) := (P2.keep Kq1 nin0)
  have Fh11 : Fld Z T1.heap a1 "java/lang/String" "coder" "B" (.int (0 : Int32)) := (P3.keep Kq1 nin0)
  have Vh12 : Arv Z T1.heap t2 kb3 .byte (Int32.ofNat cs.length) ((cs.map (fun c => c.toInt8.toInt32)).map Value.int) (.int (0 : Int32)) := (P4.keep Kq1 nin0)
  have cdh13 : StrChars.Road.CodA cs 0 (Int32.ofNat cs.length) ((cs.map (fun c => c.toInt8.toInt32)).map Value.int) := (StrChars.Road.codOf (n := cs.length) rfl (fun c hc => (P5 c hc).2))
  obtain ⟨cq14, kq14, q14a, q14b, q14c⟩ := isOf hZ e6 (Es_ENGLISH.ext Old5.2)
  obtain ⟨_, _, ⟨T14, L14, k14, n14⟩, -, X14, ⟨Lc14, hQ14, l14, y14, z14⟩, st14⟩ := X6.virtualBack hx (y := (⟨"java/lang/String", "equals", "(Ljava/lang/Object;)Z"⟩ : MethodName)) (z := (⟨"java/lang/String", "equals", "(Ljava/lang/Object;)Z"⟩ : MethodName)) hown (mvT hZ (hw _ (List.mem_of_getElem? (i := 50) rfl))) (mvT hZ (hw _ (List.mem_of_getElem? (i := 51) rfl))) (notFace_of_selects (args := #[]) (mvT hZ (hw _ (List.mem_of_getElem? (i := 53) rfl)))) (mvT hZ (hw _ (List.mem_of_getElem? (i := 53) rfl))) (mvT hZ (hw _ (List.mem_of_getElem? (i := 52) rfl))) (by decide) (StrChars.Road.eqW (W := 0) hZ hws_wordsEq (kI := 4) (hw _ (List.mem_of_getElem? (i := 5) rfl)) (Es_ENGLISH.ext Old5.2) (Fv_ENGLISH.ext Old5.2) (Fc_ENGLISH.ext Old5.2) (V_ENGLISH.ext Old5.2) cdh8 (own_up _ hph7) (Nat.le_of_ble_eq_true rfl) Eh9 Fh10 Fh11 Vh12 cdh13 (own_up _ P5) P6 (O_CS.ext Old5.2) P_CS (by decide) (by decide)) q14a q14c (g := (mkF m 25 #[.val (.ref a1), .val (.ref b2_1), .val (.int (3 : Int32)), .val (.int (0 : Int32)), .val (.ref k_ENGLISH)] [(.ref a1), (.ref s_ENGLISH)])) rfl (by rw [hml]; rfl) (Steps.refl _) (argsL := [(.ref a1)]) (rest := []) (lenOf own_pd10 rfl) rfl (by show 2 * 0 + _ ≤ _; exact Nat.le_of_eq rfl) (hb hby own_d_prog_9_method_6_25) (fun _ _ => ⟨rfl, e6, (by decide : 1 + 0 ≤ _), (by decide : 3 + 0 ≤ _)⟩)
  dsimp only [Pt.U, Pt.locs, Pt.cells, Pt.slots] at X14 l14 y14 z14 st14 hQ14
  subst y14 z14
  obtain ⟨hcase, rfl, e14⟩ := hQ14
  have hv14 : _ = some (Value.int 1) := hcase.elim (fun q => q.1) (fun q => absurd (P7 : ([(101 : Int32), (110 : Int32)] : List Int32) = cs) q.2)
  subst hv14
  have N14 : Fr n0 L14 := by rw [l14]; exact Fr.app N1 (Fr.nil n0)
  obtain ⟨_, _, ⟨T15, L15, k15, n15⟩, -, X15, ⟨Lc15, hQ15, l15, y15, z15⟩, st15⟩ := Jvm.LawKit.callS X14 hx (y := (⟨"java/util/Optional", "of", "(Ljava/lang/Object;)Ljava/util/Optional;"⟩ : MethodName)) hown (mvT hZ (hw _ (List.mem_of_getElem? (i := 106) rfl))) (mvT hZ (hw _ (List.mem_of_getElem? (i := 107) rfl))) (mvT hZ (hw _ (List.mem_of_getElem? (i := 63) rfl))) (mvT hZ (hw _ (List.mem_of_getElem? (i := 108) rfl))) (by decide) (backOf (W := 0) (own_rm_of l Z a0 hw [] G1 G3 k_EMPTY k_ENGLISH s_ENGLISH t_ENGLISH kb_ENGLISH k_JAPANESE s_JAPANESE t_JAPANESE kb_JAPANESE k_CHINESE s_CHINESE t_CHINESE kb_CHINESE k_VALUES kv_VALUES gl k_ENGLISH T1.heap n0 (Nat.le_trans Z0 Kp2.1) ) hZ (hw _ (List.mem_of_getElem? (i := 108) rfl)) (hw _ (List.mem_of_getElem? (i := 63) rfl)) (by decide) (by decide)) (g := (mkF m 33 #[.val (.ref a1), .val (.ref b2_1), .val (.int (3 : Int32)), .val (.int (0 : Int32)), .val (.ref k_ENGLISH)] [(.ref k_ENGLISH)])) rfl (by rw [hml]; rfl) (argsL := [(.ref k_ENGLISH)]) (rest := []) (lenOf own_pd11 rfl) rfl (by show 2 * 0 + _ ≤ _; exact Nat.le_of_eq rfl) (hb hby own_d_prog_9_method_6_33) (fun _ _ => ⟨rfl, e14, (by decide : 1 + 1 ≤ _), (by decide : 3 + 1 ≤ _)⟩)
  dsimp only [Pt.U, Pt.locs, Pt.cells, Pt.slots] at X15 l15 y15 z15 st15 hQ15
  subst y15 z15
  obtain ⟨b1_15, rfl, Nq15, Kq15, f15_0, f15_1, f15_2⟩ := hQ15
  have N15 : Fr n0 L15 := by rw [l15]; exact Fr.app N14 Nq15
  have Kp16 : Keep h0 T15.heap [] := Kp2.trans Kq15 all0
  obtain ⟨fs, hr, hrun, hended, hW, hsame⟩ := X15.leave (v := some (.ref b1_15)) (fun h => by rw [Bd.returns] at h; cases h)
  refine ⟨_, _, pre0 _ ?_, hrun, hended, _, _, rfl, ?_, ⟨_, rfl⟩, hW, hsame.mono (by decide) (by decide)⟩
  · show Steps p.tables e below (s₁.setTop (mkF m 0 #[.val (.ref a1), .unset, .unset, .unset, .unset] [])) _
    refine st1 _ ?_
    show Steps p.tables e below (T1.setTop (mkF m 3 #[.val (.ref a1), .unset, .unset, .unset, .unset] [(.ref b2_1)])) _
    refine XS.astoreN X1.here hx rfl (hb hby own_d_prog_9_method_6_3) rfl rfl (l' := #[.val (.ref a1), .val (.ref b2_1), .unset, .unset, .unset]) rfl ?_
    show Steps p.tables e below (T1.setTop (mkF m 4 #[.val (.ref a1), .val (.ref b2_1), .unset, .unset, .unset] [])) _
    refine XS.aloadN X1.here hx rfl (hb hby own_d_prog_9_method_6_4) rfl rfl ?_
    show Steps p.tables e below (T1.setTop (mkF m 5 #[.val (.ref a1), .val (.ref b2_1), .unset, .unset, .unset] [(.ref b2_1)])) _
    refine X1.arraylength hx Ar3.1 (State.isArrayOf_alike hZ.alike Ar3.2.1) (g := (mkF m 5 #[.val (.ref a1), .val (.ref b2_1), .unset, .unset, .unset] [(.ref b2_1)])) rfl rfl (hb hby own_d_prog_9_method_6_5) _ ?_
    rw [len_of Sz3 Ng3]
    show Steps p.tables e below (T1.setTop (mkF m 6 #[.val (.ref a1), .val (.ref b2_1), .unset, .unset, .unset] [(.int (3 : Int32))])) _
    refine XS.istoreN X1.here hx rfl (hb hby own_d_prog_9_method_6_6) rfl (l' := #[.val (.ref a1), .val (.ref b2_1), .val (.int (3 : Int32)), .unset, .unset]) rfl ?_
    show Steps p.tables e below (T1.setTop (mkF m 7 #[.val (.ref a1), .val (.ref b2_1), .val (.int (3 : Int32)), .unset, .unset] [])) _
    refine XS.iconst X1.here hx rfl (hb hby own_d_prog_9_method_6_7) ?_
    show Steps p.tables e below (T1.setTop (mkF m 8 #[.val (.ref a1), .val (.ref b2_1), .val (.int (3 : Int32)), .unset, .unset] [(.int (0 : Int32))])) _
    refine XS.istoreN X1.here hx rfl (hb hby own_d_prog_9_method_6_8) rfl (l' := #[.val (.ref a1), .val (.ref b2_1), .val (.int (3 : Int32)), .val (.int (0 : Int32)), .unset]) rfl ?_
    show Steps p.tables e below (T1.setTop (mkF m 9 #[.val (.ref a1), .val (.ref b2_1), .val (.int (3 : Int32)), .val (.int (0 : Int32)), .unset] [])) _
    refine XS.iloadN X1.here hx rfl (hb hby own_d_prog_9_method_6_9) rfl ?_
    show Steps p.tables e below (T1.setTop (mkF m 10 #[.val (.ref a1), .val (.ref b2_1), .val (.int (3 : Int32)), .val (.int (0 : Int32)), .unset] [(.int (0 : Int32))])) _
    refine XS.iloadN X1.here hx rfl (hb hby own_d_prog_9_method_6_10) rfl ?_
    show Steps p.tables e below (T1.setTop (mkF m 11 #[.val (.ref a1), .val (.ref b2_1), .val (.int (3 : Int32)), .val (.int (0 : Int32)), .unset] [(.int (3 : Int32)), (.int (0 : Int32))])) _
    refine XS.icmpNo X1.here hx rfl (hb hby own_d_prog_9_method_6_11) rfl (tlt (by decide : (0 : Int32) < (3 : Int32))).2.1 ?_
    show Steps p.tables e below (T1.setTop (mkF m 14 #[.val (.ref a1), .val (.ref b2_1), .val (.int (3 : Int32)), .val (.int (0 : Int32)), .unset] [])) _
    refine XS.aloadN X1.here hx rfl (hb hby own_d_prog_9_method_6_14) rfl rfl ?_
    show Steps p.tables e below (T1.setTop (mkF m 15 #[.val (.ref a1), .val (.ref b2_1), .val (.int (3 : Int32)), .val (.int (0 : Int32)), .unset] [(.ref b2_1)])) _
    refine XS.iloadN X1.here hx rfl (hb hby own_d_prog_9_method_6_15) rfl ?_
    show Steps p.tables e below (T1.setTop (mkF m 16 #[.val (.ref a1), .val (.ref b2_1), .val (.int (3 : Int32)), .val (.int (0 : Int32)), .unset] [(.int (0 : Int32)), (.ref b2_1)])) _
    refine X1.aaload hx (j := (0 : Int32)) (v := (.ref k_ENGLISH)) Ar4.1 (State.isArrayOf_alike hZ.alike Ar4.2.1) rfl Ar4.2.2 hin4 hat4 (g := (mkF m 16 #[.val (.ref a1), .val (.ref b2_1), .val (.int (3 : Int32)), .val (.int (0 : Int32)), .unset] [(.int (0 : Int32)), (.ref b2_1)])) rfl rfl (hb hby own_d_prog_9_method_6_16) _ ?_
    show Steps p.tables e below (T1.setTop (mkF m 17 #[.val (.ref a1), .val (.ref b2_1), .val (.int (3 : Int32)), .val (.int (0 : Int32)), .unset] [(.ref k_ENGLISH)])) _
    refine XS.astore X1.here hx rfl (hb hby own_d_prog_9_method_6_17) rfl rfl (l' := #[.val (.ref a1), .val (.ref b2_1), .val (.int (3 : Int32)), .val (.int (0 : Int32)), .val (.ref k_ENGLISH)]) rfl ?_
    show Steps p.tables e below (T1.setTop (mkF m 19 #[.val (.ref a1), .val (.ref b2_1), .val (.int (3 : Int32)), .val (.int (0 : Int32)), .val (.ref k_ENGLISH)] [])) _
    refine XS.aload X1.here hx rfl (hb hby own_d_prog_9_method_6_19) rfl rfl ?_
    show Steps p.tables e below (T1.setTop (mkF m 21 #[.val (.ref a1), .val (.ref b2_1), .val (.int (3 : Int32)), .val (.int (0 : Int32)), .val (.ref k_ENGLISH)] [(.ref k_ENGLISH)])) _
    refine st6 _ ?_
    show Steps p.tables e below (T6.setTop (mkF m 24 #[.val (.ref a1), .val (.ref b2_1), .val (.int (3 : Int32)), .val (.int (0 : Int32)), .val (.ref k_ENGLISH)] [(.ref s_ENGLISH)])) _
    refine XS.aloadN X6.here hx rfl (hb hby own_d_prog_9_method_6_24) rfl rfl ?_
    show Steps p.tables e below (T6.setTop (mkF m 25 #[.val (.ref a1), .val (.ref b2_1), .val (.int (3 : Int32)), .val (.int (0 : Int32)), .val (.ref k_ENGLISH)] [(.ref a1), (.ref s_ENGLISH)])) _
    refine st14.trans ?_
    show Steps p.tables e below (T14.setTop (mkF m 28 #[.val (.ref a1), .val (.ref b2_1), .val (.int (3 : Int32)), .val (.int (0 : Int32)), .val (.ref k_ENGLISH)] [(.int (1 : Int32))])) _
    refine XS.ifNo X14.here hx rfl (hb hby own_d_prog_9_method_6_28) rfl ((if0 _ _).trans (feq (by decide : ¬ ((1 : Int32) = (0 : Int32)))).1) ?_
    show Steps p.tables e below (T14.setTop (mkF m 31 #[.val (.ref a1), .val (.ref b2_1), .val (.int (3 : Int32)), .val (.int (0 : Int32)), .val (.ref k_ENGLISH)] [])) _
    refine XS.aload X14.here hx rfl (hb hby own_d_prog_9_method_6_31) rfl rfl ?_
    show Steps p.tables e below (T14.setTop (mkF m 33 #[.val (.ref a1), .val (.ref b2_1), .val (.int (3 : Int32)), .val (.int (0 : Int32)), .val (.ref k_ENGLISH)] [(.ref k_ENGLISH)])) _
    refine st15 _ ?_
    show Steps p.tables e below (T15.setTop (mkF m 36 #[.val (.ref a1), .val (.ref b2_1), .val (.int (3 : Int32)), .val (.int (0 : Int32)), .val (.ref k_ENGLISH)] [(.ref b1_15)])) _
    jvm_step X15.here [X15.here.top, hx, (hb hby own_d_prog_9_method_6_36), X15.method', Bd.returns, Value.isRef, FieldType.isReference]
    first | (intro acts; rw [hr _ acts rfl rfl rfl]) | rw [hr _ _ rfl rfl rfl]
    exact Steps.refl _
  · show own_Qrm_fcE Z G1 G3 k_EMPTY k_ENGLISH s_ENGLISH t_ENGLISH kb_ENGLISH k_JAPANESE s_JAPANESE t_JAPANESE kb_JAPANESE k_CHINESE s_CHINESE t_CHINESE kb_CHINESE k_VALUES kv_VALUES a1 cs t2 kb3 h0 n0 _ T15.heap _
    exact ⟨b1_15, rfl, N15, Kp16, (Nat.le_trans Kp2.1 f15_0), f15_1, f15_2⟩
theorem own_d_prog_9_method_6_37 : decode prog_9_method_6_code 37 = .ok (.iinc 3 1, 3) := by decide +kernel
theorem own_d_prog_9_method_6_40 : decode prog_9_method_6_code 40 = .ok (.goto (-31), 3) := by decide +kernel
def own_Qrm_fcJ (Z : State) (G1 : Int32) (G3 : Value) (k_EMPTY : Addr) (k_ENGLISH : Addr) (s_ENGLISH : Addr) (t_ENGLISH : Addr) (kb_ENGLISH : ClassId) (k_JAPANESE : Addr) (s_JAPANESE : Addr) (t_JAPANESE : Addr) (kb_JAPANESE : ClassId) (k_CHINESE : Addr) (s_CHINESE : Addr) (t_CHINESE : Addr) (kb_CHINESE : ClassId) (k_VALUES : Addr) (kv_VALUES : ClassId) (a1 : Addr) (cs : List Int32) (t2 : Addr) (kb3 : ClassId) (h0 : Heap) (n0 : Nat) (v : Option Value) (h : Heap) (L : List Loc) : Prop := ∃ (b1_21 : Addr), (v = some (.ref b1_21)) ∧ (Fr n0 L) ∧ (Keep h0 h []) ∧ (h0.size ≤ b1_21) ∧ (Exa Z h b1_21 "java/util/Optional") ∧ (Fld Z h b1_21 "java/util/Optional" "value" "Ljava/lang/Object;" (.ref k_JAPANESE))
theorem own_efrm_fcJ (m : MethodId) (a1 : Addr) : entryFrame m #[(.ref a1)] 5 = mkF m 0 #[.val (.ref a1), .unset, .unset, .unset, .unset] [] := by first | (simp [entryFrame, mkF, argsToLocals, Value.category]; done) | rfl
set_option maxRecDepth 65536 in
set_option maxHeartbeats 40000000 in
theorem own_rm_fcJ (l : Launch) (Z : State) (a0 : Array Value) (hw : ∀ d ∈ tables_1, d.before a0 Z = true) (ws : List Jvm.Cond) (G1 : Int32) (G3 : Value) (k_EMPTY : Addr) (k_ENGLISH : Addr) (s_ENGLISH : Addr) (t_ENGLISH : Addr) (kb_ENGLISH : ClassId) (k_JAPANESE : Addr) (s_JAPANESE : Addr) (t_JAPANESE : Addr) (kb_JAPANESE : ClassId) (k_CHINESE : Addr) (s_CHINESE : Addr) (t_CHINESE : Addr) (kb_CHINESE : ClassId) (k_VALUES : Addr) (kv_VALUES : ClassId) (gl : own_Glob Z G1 G3 k_EMPTY k_ENGLISH s_ENGLISH t_ENGLISH kb_ENGLISH k_JAPANESE s_JAPANESE t_JAPANESE kb_JAPANESE k_CHINESE s_CHINESE t_CHINESE kb_CHINESE k_VALUES kv_VALUES) (a1 : Addr) (cs : List Int32) (t2 : Addr) (kb3 : ClassId) (h0 : Heap) (n0 : Nat) (Z0 : n0 ≤ h0.size) (X00 : Old Z n0 h0) (P1 : Exa Z h0 a1 "java/lang/String") (P2 : Fld Z h0 a1 "java/lang/String" "value" "[B" (.ref t2)) (P3 : Fld Z h0 a1 "java/lang/String" "coder" "B" (.int (0 : Int32))) (P4 : Arv Z h0 t2 kb3 .byte (Int32.ofNat cs.length) ((cs.map (fun c => c.toInt8.toInt32)).map Value.int) (.int (0 : Int32))) (P5 : ∀ c ∈ cs, ¬ c < 0 ∧ ¬ (255 : Int32) < c) (P6 : cs.length ≤ 4000) (P7 : ¬ (([(101 : Int32), (110 : Int32)] : List Int32) = cs)) (P8 : ([(106 : Int32), (97 : Int32)] : List Int32) = cs) :
    MetFree l (⟨"com/example/dragoman/dragoman/core/Language", "forCode", "(Ljava/lang/String;)Ljava/util/Optional;"⟩ : MethodName) (head1 (Jvm.Cond.code (⟨"com/example/dragoman/dragoman/core/Language", "forCode", "(Ljava/lang/String;)Ljava/util/Optional;"⟩ : MethodName) prog_9_method_6_code 5 (some (.object "java/util/Optional")) :: ws) ({ frames := 3, cells := 2, slots := 4, locals := 38 } : Room)) (fun a U => a = #[(.ref a1)] ∧ Z.Warmed39 U.vm ∧ U.heap = h0) (fun _ _ _ _ _ => True) (fun _ U o U' => ∃ v L, o = .returned v ∧ own_Qrm_fcJ Z G1 G3 k_EMPTY k_ENGLISH s_ENGLISH t_ENGLISH kb_ENGLISH k_JAPANESE s_JAPANESE t_JAPANESE kb_JAPANESE k_CHINESE s_CHINESE t_CHINESE kb_CHINESE k_VALUES kv_VALUES a1 cs t2 kb3 h0 n0 v U'.heap L ∧ FrameEnd U o U' L ({ frames := 3, cells := 2, slots := 4, locals := 38 } : Room).cells ({ frames := 3, cells := 2, slots := 4, locals := 38 } : Room).slots) := by
  refine MetFree.of_bodySF (plainFor_of_name own_pn6) hisR ?_
  intro p e s m args below meth c s₁ Bd hml0 hP hK
  obtain ⟨rfl, hZ, hh⟩ := hP
  obtain ⟨O_CS, P_CS, O_SI, P_SI, O_EMPTY, E_EMPTY, F_EMPTY, O_ENGLISH, E_ENGLISH, Fs_ENGLISH, Es_ENGLISH, Fc_ENGLISH, Fv_ENGLISH, V_ENGLISH, O_JAPANESE, E_JAPANESE, Fs_JAPANESE, Es_JAPANESE, Fc_JAPANESE, Fv_JAPANESE, V_JAPANESE, O_CHINESE, E_CHINESE, Fs_CHINESE, Es_CHINESE, Fc_CHINESE, Fv_CHINESE, V_CHINESE, O_VALUES, E_VALUES, V_VALUES⟩ := id gl
  have hx := Bd.exec
  have hby := Bd.bytes
  have hml : c.maxLocals = 5 := hml0
  have hown : s.vm.findClass "com/example/dragoman/dragoman/core/Language" = some m.cls := findClass_of_methodNamed Bd.named
  have hnm := (name_of_methodNamed Bd.named Bd.method).1
  have X0 : Stand p l e ({ frames := 3, cells := 2, slots := 4, locals := 38 } : Room) s m #[(.ref a1)] below meth c s₁ [] 0 0 := Stand.of_body Bd
  have e0 : s₁.heap = h0 := by rw [← hh, Bd.state]; rfl
  have N0 := Fr.nil n0
  have pre0 : ∀ t, Steps p.tables e below (s₁.setTop (mkF m 0 #[.val (.ref a1), .unset, .unset, .unset, .unset] [])) t → Steps p.tables e below (s₁.setTop (entryFrame m #[(.ref a1)] 5)) t := fun t k => castTop (own_efrm_fcJ m a1) k
  obtain ⟨_, _, ⟨T1, L1, k1, n1⟩, -, X1, ⟨Lc1, hQ1, l1, y1, z1⟩, st1⟩ := Jvm.LawKit.callS X0 hx (y := (⟨"com/example/dragoman/dragoman/core/Language", "values", "()[Lcom/example/dragoman/dragoman/core/Language;"⟩ : MethodName)) hown (mvT hZ (hw _ (List.mem_of_getElem? (i := 30) rfl))) (mvT hZ (hw _ (List.mem_of_getElem? (i := 31) rfl))) (mvT hZ (hw _ (List.mem_of_getElem? (i := 28) rfl))) (mvT hZ (hw _ (List.mem_of_getElem? (i := 32) rfl))) (by decide) (backOf (W := 0) (own_rm_values l Z a0 hw [] G1 G3 k_EMPTY k_ENGLISH s_ENGLISH t_ENGLISH kb_ENGLISH k_JAPANESE s_JAPANESE t_JAPANESE kb_JAPANESE k_CHINESE s_CHINESE t_CHINESE kb_CHINESE k_VALUES kv_VALUES gl  h0 n0 Z0 X00 ) hZ (hw _ (List.mem_of_getElem? (i := 32) rfl)) (hw _ (List.mem_of_getElem? (i := 28) rfl)) (by decide) (by decide)) (g := (mkF m 0 #[.val (.ref a1), .unset, .unset, .unset, .unset] [])) rfl (by rw [hml]; rfl) (argsL := []) (rest := []) (lenOf own_pd9 rfl) rfl (by show 2 * 0 + _ ≤ _; exact Nat.le_of_eq rfl) (hb hby own_d_prog_9_method_6_0) (fun _ _ => ⟨rfl, e0, (by decide : 0 + 1 ≤ _), (by decide : 0 + 3 ≤ _)⟩)
  dsimp only [Pt.U, Pt.locs, Pt.cells, Pt.slots] at X1 l1 y1 z1 st1 hQ1
  subst y1 z1
  obtain ⟨b2_1, rfl, Nq1, Kq1, f1_0, f1_1, f1_2⟩ := hQ1
  have N1 : Fr n0 L1 := by rw [l1]; exact Fr.app N0 Nq1
  have Kp2 : Keep h0 T1.heap [] := (Keep.refl h0 []).trans Kq1 all0
  obtain ⟨cl3, Ar3, -, Sz3, Ng3, -, -⟩ := id f1_1
  obtain ⟨cl4, Ar4, qc4, Sz4, Ng4, Hs4, Gs4⟩ := id f1_1
  have hin4 : ¬ ((0 : Int32) < 0 ∨ cl4.slots.size ≤ ((0 : Int32)).toNatClampNeg) := inb_of Sz4 ⟨(by decide), (by decide)⟩
  have hat4 : cl4.slots[((0 : Int32)).toNatClampNeg]? = some (.ref k_ENGLISH) := Has.at Hs4 hin4 rfl
  have Old5 : Old Z n0 T1.heap := X00.keep Kq1 all0
  obtain ⟨T6, X6, e6, st6⟩ := getF X1 hx hZ hown (host := "") (Or.inl (hw _ (List.mem_of_getElem? (i := 48) rfl))) Via.refl rfl (Fs_ENGLISH.ext Old5.2) (g := (mkF m 21 #[.val (.ref a1), .val (.ref b2_1), .val (.int (3 : Int32)), .val (.int (0 : Int32)), .val (.ref k_ENGLISH)] [(.ref k_ENGLISH)])) rfl rfl (hb hby own_d_prog_9_method_6_21)
  have hph7 : ∀ c ∈ ([(101 : Int32), (110 : Int32)] : List Int32), ¬ c < 0 ∧ ¬ (255 : Int32) < c := (own_cS (by decide) (own_cS (by decide) own_c0))
  have cdh8 : StrChars.Road.CodA ([(101 : Int32), (110 : Int32)] : List Int32) 0 (2 : Int32) ((([(101 : Int32), (110 : Int32)] : List Int32).map (fun c => c.toInt8.toInt32)).map Value.int) := (StrChars.Road.codOf (cs := ([(101 : Int32), (110 : Int32)] : List Int32)) (n := 2) rfl (fun c hc => (hph7 c hc).2))
  have hws_wordsEq : ∀ d ∈ StrChars.Road.wordsEq, d.before a0 Z = true := fun d hd => hw d (own_hws_wordsEq d hd)
  have Eh9 : Exa Z T1.heap a1 "java/lang/String" := (P1.keep Kq1)
  have Fh10 : Fld Z T1.heap a1 "java/lang/String" "value" "[B" (.ref t2) := (P2.keep Kq1 nin0)
  have Fh11 : Fld Z T1.heap a1 "java/lang/String" "coder" "B" (.int (0 : Int32)) := (P3.keep Kq1 nin0)
  have Vh12 : Arv Z T1.heap t2 kb3 .byte (Int32.ofNat cs.length) ((cs.map (fun c => c.toInt8.toInt32)).map Value.int) (.int (0 : Int32)) := (P4.keep Kq1 nin0)
  have cdh13 : StrChars.Road.CodA cs 0 (Int32.ofNat cs.length) ((cs.map (fun c => c.toInt8.toInt32)).map Value.int) := (StrChars.Road.codOf (n := cs.length) rfl (fun c hc => (P5 c hc).2))
  obtain ⟨cq14, kq14, q14a, q14b, q14c⟩ := isOf hZ e6 (Es_ENGLISH.ext Old5.2)
  obtain ⟨_, _, ⟨T14, L14, k14, n14⟩, -, X14, ⟨Lc14, hQ14, l14, y14, z14⟩, st14⟩ := X6.virtualBack hx (y := (⟨"java/lang/String", "equals", "(Ljava/lang/Object;)Z"⟩ : MethodName)) (z := (⟨"java/lang/String", "equals", "(Ljava/lang/Object;)Z"⟩ : MethodName)) hown (mvT hZ (hw _ (List.mem_of_getElem? (i := 50) rfl))) (mvT hZ (hw _ (List.mem_of_getElem? (i := 51) rfl))) (notFace_of_selects (args := #[]) (mvT hZ (hw _ (List.mem_of_getElem? (i := 53) rfl)))) (mvT hZ (hw _ (List.mem_of_getElem? (i := 53) rfl))) (mvT hZ (hw _ (List.mem_of_getElem? (i := 52) rfl))) (by decide) (StrChars.Road.eqW (W := 0) hZ hws_wordsEq (kI := 4) (hw _ (List.mem_of_getElem? (i := 5) rfl)) (Es_ENGLISH.ext Old5.2) (Fv_ENGLISH.ext Old5.2) (Fc_ENGLISH.ext Old5.2) (V_ENGLISH.ext Old5.2) cdh8 (own_up _ hph7) (Nat.le_of_ble_eq_true rfl) Eh9 Fh10 Fh11 Vh12 cdh13 (own_up _ P5) P6 (O_CS.ext Old5.2) P_CS (by decide) (by decide)) q14a q14c (g := (mkF m 25 #[.val (.ref a1), .val (.ref b2_1), .val (.int (3 : Int32)), .val (.int (0 : Int32)), .val (.ref k_ENGLISH)] [(.ref a1), (.ref s_ENGLISH)])) rfl (by rw [hml]; rfl) (Steps.refl _) (argsL := [(.ref a1)]) (rest := []) (lenOf own_pd10 rfl) rfl (by show 2 * 0 + _ ≤ _; exact Nat.le_of_eq rfl) (hb hby own_d_prog_9_method_6_25) (fun _ _ => ⟨rfl, e6, (by decide : 1 + 0 ≤ _), (by decide : 3 + 0 ≤ _)⟩)
  dsimp only [Pt.U, Pt.locs, Pt.cells, Pt.slots] at X14 l14 y14 z14 st14 hQ14
  subst y14 z14
  obtain ⟨hcase, rfl, e14⟩ := hQ14
  have hv14 : _ = some (Value.int 0) := hcase.elim (fun q => absurd q.2 (P7 : ¬ (([(101 : Int32), (110 : Int32)] : List Int32) = cs))) (fun q => q.1)
  subst hv14
  have N14 : Fr n0 L14 := by rw [l14]; exact Fr.app N1 (Fr.nil n0)
  obtain ⟨cl15, Ar15, qc15, Sz15, Ng15, Hs15, Gs15⟩ := id f1_1
  have hin15 : ¬ ((1 : Int32) < 0 ∨ cl15.slots.size ≤ ((1 : Int32)).toNatClampNeg) := inb_of Sz15 ⟨(by decide), (by decide)⟩
  have hat15 : cl15.slots[((1 : Int32)).toNatClampNeg]? = some (.ref k_JAPANESE) := Has.at Hs15 hin15 rfl
  obtain ⟨T16, X16, e16, st16⟩ := getF X14 hx hZ hown (host := "") (Or.inl (hw _ (List.mem_of_getElem? (i := 48) rfl))) Via.refl e14 (Fs_JAPANESE.ext Old5.2) (g := (mkF m 21 #[.val (.ref a1), .val (.ref b2_1), .val (.int (3 : Int32)), .val (.int (1 : Int32)), .val (.ref k_JAPANESE)] [(.ref k_JAPANESE)])) rfl rfl (hb hby own_d_prog_9_method_6_21)
  have hph17 : ∀ c ∈ ([(106 : Int32), (97 : Int32)] : List Int32), ¬ c < 0 ∧ ¬ (255 : Int32) < c := (own_cS (by decide) (own_cS (by decide) own_c0))
  have cdh18 : StrChars.Road.CodA ([(106 : Int32), (97 : Int32)] : List Int32) 0 (2 : Int32) ((([(106 : Int32), (97 : Int32)] : List Int32).map (fun c => c.toInt8.toInt32)).map Value.int) := (StrChars.Road.codOf (cs := ([(106 : Int32), (97 : Int32)] : List Int32)) (n := 2) rfl (fun c hc => (hph17 c hc).2))
  have cdh19 : StrChars.Road.CodA cs 0 (Int32.ofNat cs.length) ((cs.map (fun c => c.toInt8.toInt32)).map Value.int) := (StrChars.Road.codOf (n := cs.length) rfl (fun c hc => (P5 c hc).2))
  obtain ⟨cq20, kq20, q20a, q20b, q20c⟩ := isOf hZ e16 (Es_JAPANESE.ext Old5.2)
  obtain ⟨_, _, ⟨T20, L20, k20, n20⟩, -, X20, ⟨Lc20, hQ20, l20, y20, z20⟩, st20⟩ := X16.virtualBack hx (y := (⟨"java/lang/String", "equals", "(Ljava/lang/Object;)Z"⟩ : MethodName)) (z := (⟨"java/lang/String", "equals", "(Ljava/lang/Object;)Z"⟩ : MethodName)) hown (mvT hZ (hw _ (List.mem_of_getElem? (i := 50) rfl))) (mvT hZ (hw _ (List.mem_of_getElem? (i := 51) rfl))) (notFace_of_selects (args := #[]) (mvT hZ (hw _ (List.mem_of_getElem? (i := 53) rfl)))) (mvT hZ (hw _ (List.mem_of_getElem? (i := 53) rfl))) (mvT hZ (hw _ (List.mem_of_getElem? (i := 52) rfl))) (by decide) (StrChars.Road.eqW (W := 0) hZ hws_wordsEq (kI := 4) (hw _ (List.mem_of_getElem? (i := 5) rfl)) (Es_JAPANESE.ext Old5.2) (Fv_JAPANESE.ext Old5.2) (Fc_JAPANESE.ext Old5.2) (V_JAPANESE.ext Old5.2) cdh18 (own_up _ hph17) (Nat.le_of_ble_eq_true rfl) Eh9 Fh10 Fh11 Vh12 cdh19 (own_up _ P5) P6 (O_CS.ext Old5.2) P_CS (by decide) (by decide)) q20a q20c (g := (mkF m 25 #[.val (.ref a1), .val (.ref b2_1), .val (.int (3 : Int32)), .val (.int (1 : Int32)), .val (.ref k_JAPANESE)] [(.ref a1), (.ref s_JAPANESE)])) rfl (by rw [hml]; rfl) (Steps.refl _) (argsL := [(.ref a1)]) (rest := []) (lenOf own_pd10 rfl) rfl (by show 2 * 0 + _ ≤ _; exact Nat.le_of_eq rfl) (hb hby own_d_prog_9_method_6_25) (fun _ _ => ⟨rfl, e16, (by decide : 1 + 0 ≤ _), (by decide : 3 + 0 ≤ _)⟩)
  dsimp only [Pt.U, Pt.locs, Pt.cells, Pt.slots] at X20 l20 y20 z20 st20 hQ20
  subst y20 z20
  obtain ⟨hcase, rfl, e20⟩ := hQ20
  have hv20 : _ = some (Value.int 1) := hcase.elim (fun q => q.1) (fun q => absurd (P8 : ([(106 : Int32), (97 : Int32)] : List Int32) = cs) q.2)
  subst hv20
  have N20 : Fr n0 L20 := by rw [l20]; exact Fr.app N14 (Fr.nil n0)
  obtain ⟨_, _, ⟨T21, L21, k21, n21⟩, -, X21, ⟨Lc21, hQ21, l21, y21, z21⟩, st21⟩ := Jvm.LawKit.callS X20 hx (y := (⟨"java/util/Optional", "of", "(Ljava/lang/Object;)Ljava/util/Optional;"⟩ : MethodName)) hown (mvT hZ (hw _ (List.mem_of_getElem? (i := 106) rfl))) (mvT hZ (hw _ (List.mem_of_getElem? (i := 107) rfl))) (mvT hZ (hw _ (List.mem_of_getElem? (i := 63) rfl))) (mvT hZ (hw _ (List.mem_of_getElem? (i := 108) rfl))) (by decide) (backOf (W := 0) (own_rm_of l Z a0 hw [] G1 G3 k_EMPTY k_ENGLISH s_ENGLISH t_ENGLISH kb_ENGLISH k_JAPANESE s_JAPANESE t_JAPANESE kb_JAPANESE k_CHINESE s_CHINESE t_CHINESE kb_CHINESE k_VALUES kv_VALUES gl k_JAPANESE T1.heap n0 (Nat.le_trans Z0 Kp2.1) ) hZ (hw _ (List.mem_of_getElem? (i := 108) rfl)) (hw _ (List.mem_of_getElem? (i := 63) rfl)) (by decide) (by decide)) (g := (mkF m 33 #[.val (.ref a1), .val (.ref b2_1), .val (.int (3 : Int32)), .val (.int (1 : Int32)), .val (.ref k_JAPANESE)] [(.ref k_JAPANESE)])) rfl (by rw [hml]; rfl) (argsL := [(.ref k_JAPANESE)]) (rest := []) (lenOf own_pd11 rfl) rfl (by show 2 * 0 + _ ≤ _; exact Nat.le_of_eq rfl) (hb hby own_d_prog_9_method_6_33) (fun _ _ => ⟨rfl, e20, (by decide : 1 + 1 ≤ _), (by decide : 3 + 1 ≤ _)⟩)
  dsimp only [Pt.U, Pt.locs, Pt.cells, Pt.slots] at X21 l21 y21 z21 st21 hQ21
  subst y21 z21
  obtain ⟨b1_21, rfl, Nq21, Kq21, f21_0, f21_1, f21_2⟩ := hQ21
  have N21 : Fr n0 L21 := by rw [l21]; exact Fr.app N20 Nq21
  have Kp22 : Keep h0 T21.heap [] := Kp2.trans Kq21 all0
  obtain ⟨fs, hr, hrun, hended, hW, hsame⟩ := X21.leave (v := some (.ref b1_21)) (fun h => by rw [Bd.returns] at h; cases h)
  refine ⟨_, _, pre0 _ ?_, hrun, hended, _, _, rfl, ?_, ⟨_, rfl⟩, hW, hsame.mono (by decide) (by decide)⟩
  · show Steps p.tables e below (s₁.setTop (mkF m 0 #[.val (.ref a1), .unset, .unset, .unset, .unset] [])) _
    refine st1 _ ?_
    show Steps p.tables e below (T1.setTop (mkF m 3 #[.val (.ref a1), .unset, .unset, .unset, .unset] [(.ref b2_1)])) _
    refine XS.astoreN X1.here hx rfl (hb hby own_d_prog_9_method_6_3) rfl rfl (l' := #[.val (.ref a1), .val (.ref b2_1), .unset, .unset, .unset]) rfl ?_
    show Steps p.tables e below (T1.setTop (mkF m 4 #[.val (.ref a1), .val (.ref b2_1), .unset, .unset, .unset] [])) _
    refine XS.aloadN X1.here hx rfl (hb hby own_d_prog_9_method_6_4) rfl rfl ?_
    show Steps p.tables e below (T1.setTop (mkF m 5 #[.val (.ref a1), .val (.ref b2_1), .unset, .unset, .unset] [(.ref b2_1)])) _
    refine X1.arraylength hx Ar3.1 (State.isArrayOf_alike hZ.alike Ar3.2.1) (g := (mkF m 5 #[.val (.ref a1), .val (.ref b2_1), .unset, .unset, .unset] [(.ref b2_1)])) rfl rfl (hb hby own_d_prog_9_method_6_5) _ ?_
    rw [len_of Sz3 Ng3]
    show Steps p.tables e below (T1.setTop (mkF m 6 #[.val (.ref a1), .val (.ref b2_1), .unset, .unset, .unset] [(.int (3 : Int32))])) _
    refine XS.istoreN X1.here hx rfl (hb hby own_d_prog_9_method_6_6) rfl (l' := #[.val (.ref a1), .val (.ref b2_1), .val (.int (3 : Int32)), .unset, .unset]) rfl ?_
    show Steps p.tables e below (T1.setTop (mkF m 7 #[.val (.ref a1), .val (.ref b2_1), .val (.int (3 : Int32)), .unset, .unset] [])) _
    refine XS.iconst X1.here hx rfl (hb hby own_d_prog_9_method_6_7) ?_
    show Steps p.tables e below (T1.setTop (mkF m 8 #[.val (.ref a1), .val (.ref b2_1), .val (.int (3 : Int32)), .unset, .unset] [(.int (0 : Int32))])) _
    refine XS.istoreN X1.here hx rfl (hb hby own_d_prog_9_method_6_8) rfl (l' := #[.val (.ref a1), .val (.ref b2_1), .val (.int (3 : Int32)), .val (.int (0 : Int32)), .unset]) rfl ?_
    show Steps p.tables e below (T1.setTop (mkF m 9 #[.val (.ref a1), .val (.ref b2_1), .val (.int (3 : Int32)), .val (.int (0 : Int32)), .unset] [])) _
    refine XS.iloadN X1.here hx rfl (hb hby own_d_prog_9_method_6_9) rfl ?_
    show Steps p.tables e below (T1.setTop (mkF m 10 #[.val (.ref a1), .val (.ref b2_1), .val (.int (3 : Int32)), .val (.int (0 : Int32)), .unset] [(.int (0 : Int32))])) _
    refine XS.iloadN X1.here hx rfl (hb hby own_d_prog_9_method_6_10) rfl ?_
    show Steps p.tables e below (T1.setTop (mkF m 11 #[.val (.ref a1), .val (.ref b2_1), .val (.int (3 : Int32)), .val (.int (0 : Int32)), .unset] [(.int (3 : Int32)), (.int (0 : Int32))])) _
    refine XS.icmpNo X1.here hx rfl (hb hby own_d_prog_9_method_6_11) rfl (tlt (by decide : (0 : Int32) < (3 : Int32))).2.1 ?_
    show Steps p.tables e below (T1.setTop (mkF m 14 #[.val (.ref a1), .val (.ref b2_1), .val (.int (3 : Int32)), .val (.int (0 : Int32)), .unset] [])) _
    refine XS.aloadN X1.here hx rfl (hb hby own_d_prog_9_method_6_14) rfl rfl ?_
    show Steps p.tables e below (T1.setTop (mkF m 15 #[.val (.ref a1), .val (.ref b2_1), .val (.int (3 : Int32)), .val (.int (0 : Int32)), .unset] [(.ref b2_1)])) _
    refine XS.iloadN X1.here hx rfl (hb hby own_d_prog_9_method_6_15) rfl ?_
    show Steps p.tables e below (T1.setTop (mkF m 16 #[.val (.ref a1), .val (.ref b2_1), .val (.int (3 : Int32)), .val (.int (0 : Int32)), .unset] [(.int (0 : Int32)), (.ref b2_1)])) _
    refine X1.aaload hx (j := (0 : Int32)) (v := (.ref k_ENGLISH)) Ar4.1 (State.isArrayOf_alike hZ.alike Ar4.2.1) rfl Ar4.2.2 hin4 hat4 (g := (mkF m 16 #[.val (.ref a1), .val (.ref b2_1), .val (.int (3 : Int32)), .val (.int (0 : Int32)), .unset] [(.int (0 : Int32)), (.ref b2_1)])) rfl rfl (hb hby own_d_prog_9_method_6_16) _ ?_
    show Steps p.tables e below (T1.setTop (mkF m 17 #[.val (.ref a1), .val (.ref b2_1), .val (.int (3 : Int32)), .val (.int (0 : Int32)), .unset] [(.ref k_ENGLISH)])) _
    refine XS.astore X1.here hx rfl (hb hby own_d_prog_9_method_6_17) rfl rfl (l' := #[.val (.ref a1), .val (.ref b2_1), .val (.int (3 : Int32)), .val (.int (0 : Int32)), .val (.ref k_ENGLISH)]) rfl ?_
    show Steps p.tables e below (T1.setTop (mkF m 19 #[.val (.ref a1), .val (.ref b2_1), .val (.int (3 : Int32)), .val (.int (0 : Int32)), .val (.ref k_ENGLISH)] [])) _
    refine XS.aload X1.here hx rfl (hb hby own_d_prog_9_method_6_19) rfl rfl ?_
    show Steps p.tables e below (T1.setTop (mkF m 21 #[.val (.ref a1), .val (.ref b2_1), .val (.int (3 : Int32)), .val (.int (0 : Int32)), .val (.ref k_ENGLISH)] [(.ref k_ENGLISH)])) _
    refine st6 _ ?_
    show Steps p.tables e below (T6.setTop (mkF m 24 #[.val (.ref a1), .val (.ref b2_1), .val (.int (3 : Int32)), .val (.int (0 : Int32)), .val (.ref k_ENGLISH)] [(.ref s_ENGLISH)])) _
    refine XS.aloadN X6.here hx rfl (hb hby own_d_prog_9_method_6_24) rfl rfl ?_
    show Steps p.tables e below (T6.setTop (mkF m 25 #[.val (.ref a1), .val (.ref b2_1), .val (.int (3 : Int32)), .val (.int (0 : Int32)), .val (.ref k_ENGLISH)] [(.ref a1), (.ref s_ENGLISH)])) _
    refine st14.trans ?_
    show Steps p.tables e below (T14.setTop (mkF m 28 #[.val (.ref a1), .val (.ref b2_1), .val (.int (3 : Int32)), .val (.int (0 : Int32)), .val (.ref k_ENGLISH)] [(.int (0 : Int32))])) _
    refine XS.ifYes X14.here hx rfl (pc0 := 28) (pc' := 37) rfl (hb hby own_d_prog_9_method_6_28) rfl ((if0 _ _).trans (teq (rfl : (0 : Int32) = (0 : Int32))).1) (by decide) (by decide) ?_
    show Steps p.tables e below (T14.setTop (mkF m 37 #[.val (.ref a1), .val (.ref b2_1), .val (.int (3 : Int32)), .val (.int (0 : Int32)), .val (.ref k_ENGLISH)] [])) _
    refine XS.iinc X14.here hx rfl (hb hby own_d_prog_9_method_6_37) rfl (l' := #[.val (.ref a1), .val (.ref b2_1), .val (.int (3 : Int32)), .val (.int (1 : Int32)), .val (.ref k_ENGLISH)]) rfl ?_
    show Steps p.tables e below (T14.setTop (mkF m 40 #[.val (.ref a1), .val (.ref b2_1), .val (.int (3 : Int32)), .val (.int (1 : Int32)), .val (.ref k_ENGLISH)] [])) _
    refine XS.goto X14.here hx rfl (pc0 := 40) (pc' := 9) rfl (hb hby own_d_prog_9_method_6_40) (by decide) (by decide) ?_
    show Steps p.tables e below (T14.setTop (mkF m 9 #[.val (.ref a1), .val (.ref b2_1), .val (.int (3 : Int32)), .val (.int (1 : Int32)), .val (.ref k_ENGLISH)] [])) _
    refine XS.iloadN X14.here hx rfl (hb hby own_d_prog_9_method_6_9) rfl ?_
    show Steps p.tables e below (T14.setTop (mkF m 10 #[.val (.ref a1), .val (.ref b2_1), .val (.int (3 : Int32)), .val (.int (1 : Int32)), .val (.ref k_ENGLISH)] [(.int (1 : Int32))])) _
    refine XS.iloadN X14.here hx rfl (hb hby own_d_prog_9_method_6_10) rfl ?_
    show Steps p.tables e below (T14.setTop (mkF m 11 #[.val (.ref a1), .val (.ref b2_1), .val (.int (3 : Int32)), .val (.int (1 : Int32)), .val (.ref k_ENGLISH)] [(.int (3 : Int32)), (.int (1 : Int32))])) _
    refine XS.icmpNo X14.here hx rfl (hb hby own_d_prog_9_method_6_11) rfl (tlt (by decide : (1 : Int32) < (3 : Int32))).2.1 ?_
    show Steps p.tables e below (T14.setTop (mkF m 14 #[.val (.ref a1), .val (.ref b2_1), .val (.int (3 : Int32)), .val (.int (1 : Int32)), .val (.ref k_ENGLISH)] [])) _
    refine XS.aloadN X14.here hx rfl (hb hby own_d_prog_9_method_6_14) rfl rfl ?_
    show Steps p.tables e below (T14.setTop (mkF m 15 #[.val (.ref a1), .val (.ref b2_1), .val (.int (3 : Int32)), .val (.int (1 : Int32)), .val (.ref k_ENGLISH)] [(.ref b2_1)])) _
    refine XS.iloadN X14.here hx rfl (hb hby own_d_prog_9_method_6_15) rfl ?_
    show Steps p.tables e below (T14.setTop (mkF m 16 #[.val (.ref a1), .val (.ref b2_1), .val (.int (3 : Int32)), .val (.int (1 : Int32)), .val (.ref k_ENGLISH)] [(.int (1 : Int32)), (.ref b2_1)])) _
    refine X14.aaload hx (j := (1 : Int32)) (v := (.ref k_JAPANESE)) (by rw [e14]; exact Ar15.1) (State.isArrayOf_alike hZ.alike Ar15.2.1) rfl Ar15.2.2 hin15 hat15 (g := (mkF m 16 #[.val (.ref a1), .val (.ref b2_1), .val (.int (3 : Int32)), .val (.int (1 : Int32)), .val (.ref k_ENGLISH)] [(.int (1 : Int32)), (.ref b2_1)])) rfl rfl (hb hby own_d_prog_9_method_6_16) _ ?_
    show Steps p.tables e below (T14.setTop (mkF m 17 #[.val (.ref a1), .val (.ref b2_1), .val (.int (3 : Int32)), .val (.int (1 : Int32)), .val (.ref k_ENGLISH)] [(.ref k_JAPANESE)])) _
    refine XS.astore X14.here hx rfl (hb hby own_d_prog_9_method_6_17) rfl rfl (l' := #[.val (.ref a1), .val (.ref b2_1), .val (.int (3 : Int32)), .val (.int (1 : Int32)), .val (.ref k_JAPANESE)]) rfl ?_
    show Steps p.tables e below (T14.setTop (mkF m 19 #[.val (.ref a1), .val (.ref b2_1), .val (.int (3 : Int32)), .val (.int (1 : Int32)), .val (.ref k_JAPANESE)] [])) _
    refine XS.aload X14.here hx rfl (hb hby own_d_prog_9_method_6_19) rfl rfl ?_
    show Steps p.tables e below (T14.setTop (mkF m 21 #[.val (.ref a1), .val (.ref b2_1), .val (.int (3 : Int32)), .val (.int (1 : Int32)), .val (.ref k_JAPANESE)] [(.ref k_JAPANESE)])) _
    refine st16 _ ?_
    show Steps p.tables e below (T16.setTop (mkF m 24 #[.val (.ref a1), .val (.ref b2_1), .val (.int (3 : Int32)), .val (.int (1 : Int32)), .val (.ref k_JAPANESE)] [(.ref s_JAPANESE)])) _
    refine XS.aloadN X16.here hx rfl (hb hby own_d_prog_9_method_6_24) rfl rfl ?_
    show Steps p.tables e below (T16.setTop (mkF m 25 #[.val (.ref a1), .val (.ref b2_1), .val (.int (3 : Int32)), .val (.int (1 : Int32)), .val (.ref k_JAPANESE)] [(.ref a1), (.ref s_JAPANESE)])) _
    refine st20.trans ?_
    show Steps p.tables e below (T20.setTop (mkF m 28 #[.val (.ref a1), .val (.ref b2_1), .val (.int (3 : Int32)), .val (.int (1 : Int32)), .val (.ref k_JAPANESE)] [(.int (1 : Int32))])) _
    refine XS.ifNo X20.here hx rfl (hb hby own_d_prog_9_method_6_28) rfl ((if0 _ _).trans (feq (by decide : ¬ ((1 : Int32) = (0 : Int32)))).1) ?_
    show Steps p.tables e below (T20.setTop (mkF m 31 #[.val (.ref a1), .val (.ref b2_1), .val (.int (3 : Int32)), .val (.int (1 : Int32)), .val (.ref k_JAPANESE)] [])) _
    refine XS.aload X20.here hx rfl (hb hby own_d_prog_9_method_6_31) rfl rfl ?_
    show Steps p.tables e below (T20.setTop (mkF m 33 #[.val (.ref a1), .val (.ref b2_1), .val (.int (3 : Int32)), .val (.int (1 : Int32)), .val (.ref k_JAPANESE)] [(.ref k_JAPANESE)])) _
    refine st21 _ ?_
    show Steps p.tables e below (T21.setTop (mkF m 36 #[.val (.ref a1), .val (.ref b2_1), .val (.int (3 : Int32)), .val (.int (1 : Int32)), .val (.ref k_JAPANESE)] [(.ref b1_21)])) _
    jvm_step X21.here [X21.here.top, hx, (hb hby own_d_prog_9_method_6_36), X21.method', Bd.returns, Value.isRef, FieldType.isReference]
    first | (intro acts; rw [hr _ acts rfl rfl rfl]) | rw [hr _ _ rfl rfl rfl]
    exact Steps.refl _
  · show own_Qrm_fcJ Z G1 G3 k_EMPTY k_ENGLISH s_ENGLISH t_ENGLISH kb_ENGLISH k_JAPANESE s_JAPANESE t_JAPANESE kb_JAPANESE k_CHINESE s_CHINESE t_CHINESE kb_CHINESE k_VALUES kv_VALUES a1 cs t2 kb3 h0 n0 _ T21.heap _
    exact ⟨b1_21, rfl, N21, Kp22, (Nat.le_trans Kp2.1 f21_0), f21_1, f21_2⟩
def own_Qrm_fcC (Z : State) (G1 : Int32) (G3 : Value) (k_EMPTY : Addr) (k_ENGLISH : Addr) (s_ENGLISH : Addr) (t_ENGLISH : Addr) (kb_ENGLISH : ClassId) (k_JAPANESE : Addr) (s_JAPANESE : Addr) (t_JAPANESE : Addr) (kb_JAPANESE : ClassId) (k_CHINESE : Addr) (s_CHINESE : Addr) (t_CHINESE : Addr) (kb_CHINESE : ClassId) (k_VALUES : Addr) (kv_VALUES : ClassId) (a1 : Addr) (cs : List Int32) (t2 : Addr) (kb3 : ClassId) (h0 : Heap) (n0 : Nat) (v : Option Value) (h : Heap) (L : List Loc) : Prop := ∃ (b1_27 : Addr), (v = some (.ref b1_27)) ∧ (Fr n0 L) ∧ (Keep h0 h []) ∧ (h0.size ≤ b1_27) ∧ (Exa Z h b1_27 "java/util/Optional") ∧ (Fld Z h b1_27 "java/util/Optional" "value" "Ljava/lang/Object;" (.ref k_CHINESE))
theorem own_efrm_fcC (m : MethodId) (a1 : Addr) : entryFrame m #[(.ref a1)] 5 = mkF m 0 #[.val (.ref a1), .unset, .unset, .unset, .unset] [] := by first | (simp [entryFrame, mkF, argsToLocals, Value.category]; done) | rfl
set_option maxRecDepth 65536 in
set_option maxHeartbeats 40000000 in
theorem own_rm_fcC (l : Launch) (Z : State) (a0 : Array Value) (hw : ∀ d ∈ tables_1, d.before a0 Z = true) (ws : List Jvm.Cond) (G1 : Int32) (G3 : Value) (k_EMPTY : Addr) (k_ENGLISH : Addr) (s_ENGLISH : Addr) (t_ENGLISH : Addr) (kb_ENGLISH : ClassId) (k_JAPANESE : Addr) (s_JAPANESE : Addr) (t_JAPANESE : Addr) (kb_JAPANESE : ClassId) (k_CHINESE : Addr) (s_CHINESE : Addr) (t_CHINESE : Addr) (kb_CHINESE : ClassId) (k_VALUES : Addr) (kv_VALUES : ClassId) (gl : own_Glob Z G1 G3 k_EMPTY k_ENGLISH s_ENGLISH t_ENGLISH kb_ENGLISH k_JAPANESE s_JAPANESE t_JAPANESE kb_JAPANESE k_CHINESE s_CHINESE t_CHINESE kb_CHINESE k_VALUES kv_VALUES) (a1 : Addr) (cs : List Int32) (t2 : Addr) (kb3 : ClassId) (h0 : Heap) (n0 : Nat) (Z0 : n0 ≤ h0.size) (X00 : Old Z n0 h0) (P1 : Exa Z h0 a1 "java/lang/String") (P2 : Fld Z h0 a1 "java/lang/String" "value" "[B" (.ref t2)) (P3 : Fld Z h0 a1 "java/lang/String" "coder" "B" (.int (0 : Int32))) (P4 : Arv Z h0 t2 kb3 .byte (Int32.ofNat cs.length) ((cs.map (fun c => c.toInt8.toInt32)).map Value.int) (.int (0 : Int32))) (P5 : ∀ c ∈ cs, ¬ c < 0 ∧ ¬ (255 : Int32) < c) (P6 : cs.length ≤ 4000) (P7 : ¬ (([(101 : Int32), (110 : Int32)] : List Int32) = cs)) (P8 : ¬ (([(106 : Int32), (97 : Int32)] : List Int32) = cs)) (P9 : ([(122 : Int32), (104 : Int32)] : List Int32) = cs) :
    MetFree l (⟨"com/example/dragoman/dragoman/core/Language", "forCode", "(Ljava/lang/String;)Ljava/util/Optional;"⟩ : MethodName) (head1 (Jvm.Cond.code (⟨"com/example/dragoman/dragoman/core/Language", "forCode", "(Ljava/lang/String;)Ljava/util/Optional;"⟩ : MethodName) prog_9_method_6_code 5 (some (.object "java/util/Optional")) :: ws) ({ frames := 3, cells := 2, slots := 4, locals := 38 } : Room)) (fun a U => a = #[(.ref a1)] ∧ Z.Warmed39 U.vm ∧ U.heap = h0) (fun _ _ _ _ _ => True) (fun _ U o U' => ∃ v L, o = .returned v ∧ own_Qrm_fcC Z G1 G3 k_EMPTY k_ENGLISH s_ENGLISH t_ENGLISH kb_ENGLISH k_JAPANESE s_JAPANESE t_JAPANESE kb_JAPANESE k_CHINESE s_CHINESE t_CHINESE kb_CHINESE k_VALUES kv_VALUES a1 cs t2 kb3 h0 n0 v U'.heap L ∧ FrameEnd U o U' L ({ frames := 3, cells := 2, slots := 4, locals := 38 } : Room).cells ({ frames := 3, cells := 2, slots := 4, locals := 38 } : Room).slots) := by
  refine MetFree.of_bodySF (plainFor_of_name own_pn6) hisR ?_
  intro p e s m args below meth c s₁ Bd hml0 hP hK
  obtain ⟨rfl, hZ, hh⟩ := hP
  obtain ⟨O_CS, P_CS, O_SI, P_SI, O_EMPTY, E_EMPTY, F_EMPTY, O_ENGLISH, E_ENGLISH, Fs_ENGLISH, Es_ENGLISH, Fc_ENGLISH, Fv_ENGLISH, V_ENGLISH, O_JAPANESE, E_JAPANESE, Fs_JAPANESE, Es_JAPANESE, Fc_JAPANESE, Fv_JAPANESE, V_JAPANESE, O_CHINESE, E_CHINESE, Fs_CHINESE, Es_CHINESE, Fc_CHINESE, Fv_CHINESE, V_CHINESE, O_VALUES, E_VALUES, V_VALUES⟩ := id gl
  have hx := Bd.exec
  have hby := Bd.bytes
  have hml : c.maxLocals = 5 := hml0
  have hown : s.vm.findClass "com/example/dragoman/dragoman/core/Language" = some m.cls := findClass_of_methodNamed Bd.named
  have hnm := (name_of_methodNamed Bd.named Bd.method).1
  have X0 : Stand p l e ({ frames := 3, cells := 2, slots := 4, locals := 38 } : Room) s m #[(.ref a1)] below meth c s₁ [] 0 0 := Stand.of_body Bd
  have e0 : s₁.heap = h0 := by rw [← hh, Bd.state]; rfl
  have N0 := Fr.nil n0
  have pre0 : ∀ t, Steps p.tables e below (s₁.setTop (mkF m 0 #[.val (.ref a1), .unset, .unset, .unset, .unset] [])) t → Steps p.tables e below (s₁.setTop (entryFrame m #[(.ref a1)] 5)) t := fun t k => castTop (own_efrm_fcC m a1) k
  obtain ⟨_, _, ⟨T1, L1, k1, n1⟩, -, X1, ⟨Lc1, hQ1, l1, y1, z1⟩, st1⟩ := Jvm.LawKit.callS X0 hx (y := (⟨"com/example/dragoman/dragoman/core/Language", "values", "()[Lcom/example/dragoman/dragoman/core/Language;"⟩ : MethodName)) hown (mvT hZ (hw _ (List.mem_of_getElem? (i := 30) rfl))) (mvT hZ (hw _ (List.mem_of_getElem? (i := 31) rfl))) (mvT hZ (hw _ (List.mem_of_getElem? (i := 28) rfl))) (mvT hZ (hw _ (List.mem_of_getElem? (i := 32) rfl))) (by decide) (backOf (W := 0) (own_rm_values l Z a0 hw [] G1 G3 k_EMPTY k_ENGLISH s_ENGLISH t_ENGLISH kb_ENGLISH k_JAPANESE s_JAPANESE t_JAPANESE kb_JAPANESE k_CHINESE s_CHINESE t_CHINESE kb_CHINESE k_VALUES kv_VALUES gl  h0 n0 Z0 X00 ) hZ (hw _ (List.mem_of_getElem? (i := 32) rfl)) (hw _ (List.mem_of_getElem? (i := 28) rfl)) (by decide) (by decide)) (g := (mkF m 0 #[.val (.ref a1), .unset, .unset, .unset, .unset] [])) rfl (by rw [hml]; rfl) (argsL := []) (rest := []) (lenOf own_pd9 rfl) rfl (by show 2 * 0 + _ ≤ _; exact Nat.le_of_eq rfl) (hb hby own_d_prog_9_method_6_0) (fun _ _ => ⟨rfl, e0, (by decide : 0 + 1 ≤ _), (by decide : 0 + 3 ≤ _)⟩)
  dsimp only [Pt.U, Pt.locs, Pt.cells, Pt.slots] at X1 l1 y1 z1 st1 hQ1
  subst y1 z1
  obtain ⟨b2_1, rfl, Nq1, Kq1, f1_0, f1_1, f1_2⟩ := hQ1
  have N1 : Fr n0 L1 := by rw [l1]; exact Fr.app N0 Nq1
  have Kp2 : Keep h0 T1.heap [] := (Keep.refl h0 []).trans Kq1 all0
  obtain ⟨cl3, Ar3, -, Sz3, Ng3, -, -⟩ := id f1_1
  obtain ⟨cl4, Ar4, qc4, Sz4, Ng4, Hs4, Gs4⟩ := id f1_1
  have hin4 : ¬ ((0 : Int32) < 0 ∨ cl4.slots.size ≤ ((0 : Int32)).toNatClampNeg) := inb_of Sz4 ⟨(by decide), (by decide)⟩
  have hat4 : cl4.slots[((0 : Int32)).toNatClampNeg]? = some (.ref k_ENGLISH) := Has.at Hs4 hin4 rfl
  have Old5 : Old Z n0 T1.heap := X00.keep Kq1 all0
  obtain ⟨T6, X6, e6, st6⟩ := getF X1 hx hZ hown (host := "") (Or.inl (hw _ (List.mem_of_getElem? (i := 48) rfl))) Via.refl rfl (Fs_ENGLISH.ext Old5.2) (g := (mkF m 21 #[.val (.ref a1), .val (.ref b2_1), .val (.int (3 : Int32)), .val (.int (0 : Int32)), .val (.ref k_ENGLISH)] [(.ref k_ENGLISH)])) rfl rfl (hb hby own_d_prog_9_method_6_21)
  have hph7 : ∀ c ∈ ([(101 : Int32), (110 : Int32)] : List Int32), ¬ c < 0 ∧ ¬ (255 : Int32) < c := (own_cS (by decide) (own_cS (by decide) own_c0))
  have cdh8 : StrChars.Road.CodA ([(101 : Int32), (110 : Int32)] : List Int32) 0 (2 : Int32) ((([(101 : Int32), (110 : Int32)] : List Int32).map (fun c => c.toInt8.toInt32)).map Value.int) := (StrChars.Road.codOf (cs := ([(101 : Int32), (110 : Int32)] : List Int32)) (n := 2) rfl (fun c hc => (hph7 c hc).2))
  have hws_wordsEq : ∀ d ∈ StrChars.Road.wordsEq, d.before a0 Z = true := fun d hd => hw d (own_hws_wordsEq d hd)
  have Eh9 : Exa Z T1.heap a1 "java/lang/String" := (P1.keep Kq1)
  have Fh10 : Fld Z T1.heap a1 "java/lang/String" "value" "[B" (.ref t2) := (P2.keep Kq1 nin0)
  have Fh11 : Fld Z T1.heap a1 "java/lang/String" "coder" "B" (.int (0 : Int32)) := (P3.keep Kq1 nin0)
  have Vh12 : Arv Z T1.heap t2 kb3 .byte (Int32.ofNat cs.length) ((cs.map (fun c => c.toInt8.toInt32)).map Value.int) (.int (0 : Int32)) := (P4.keep Kq1 nin0)
  have cdh13 : StrChars.Road.CodA cs 0 (Int32.ofNat cs.length) ((cs.map (fun c => c.toInt8.toInt32)).map Value.int) := (StrChars.Road.codOf (n := cs.length) rfl (fun c hc => (P5 c hc).2))
  obtain ⟨cq14, kq14, q14a, q14b, q14c⟩ := isOf hZ e6 (Es_ENGLISH.ext Old5.2)
  obtain ⟨_, _, ⟨T14, L14, k14, n14⟩, -, X14, ⟨Lc14, hQ14, l14, y14, z14⟩, st14⟩ := X6.virtualBack hx (y := (⟨"java/lang/String", "equals", "(Ljava/lang/Object;)Z"⟩ : MethodName)) (z := (⟨"java/lang/String", "equals", "(Ljava/lang/Object;)Z"⟩ : MethodName)) hown (mvT hZ (hw _ (List.mem_of_getElem? (i := 50) rfl))) (mvT hZ (hw _ (List.mem_of_getElem? (i := 51) rfl))) (notFace_of_selects (args := #[]) (mvT hZ (hw _ (List.mem_of_getElem? (i := 53) rfl)))) (mvT hZ (hw _ (List.mem_of_getElem? (i := 53) rfl))) (mvT hZ (hw _ (List.mem_of_getElem? (i := 52) rfl))) (by decide) (StrChars.Road.eqW (W := 0) hZ hws_wordsEq (kI := 4) (hw _ (List.mem_of_getElem? (i := 5) rfl)) (Es_ENGLISH.ext Old5.2) (Fv_ENGLISH.ext Old5.2) (Fc_ENGLISH.ext Old5.2) (V_ENGLISH.ext Old5.2) cdh8 (own_up _ hph7) (Nat.le_of_ble_eq_true rfl) Eh9 Fh10 Fh11 Vh12 cdh13 (own_up _ P5) P6 (O_CS.ext Old5.2) P_CS (by decide) (by decide)) q14a q14c (g := (mkF m 25 #[.val (.ref a1), .val (.ref b2_1), .val (.int (3 : Int32)), .val (.int (0 : Int32)), .val (.ref k_ENGLISH)] [(.ref a1), (.ref s_ENGLISH)])) rfl (by rw [hml]; rfl) (Steps.refl _) (argsL := [(.ref a1)]) (rest := []) (lenOf own_pd10 rfl) rfl (by show 2 * 0 + _ ≤ _; exact Nat.le_of_eq rfl) (hb hby own_d_prog_9_method_6_25) (fun _ _ => ⟨rfl, e6, (by decide : 1 + 0 ≤ _), (by decide : 3 + 0 ≤ _)⟩)
  dsimp only [Pt.U, Pt.locs, Pt.cells, Pt.slots] at X14 l14 y14 z14 st14 hQ14
  subst y14 z14
  obtain ⟨hcase, rfl, e14⟩ := hQ14
  have hv14 : _ = some (Value.int 0) := hcase.elim (fun q => absurd q.2 (P7 : ¬ (([(101 : Int32), (110 : Int32)] : List Int32) = cs))) (fun q => q.1)
  subst hv14
  have N14 : Fr n0 L14 := by rw [l14]; exact Fr.app N1 (Fr.nil n0)
  obtain ⟨cl15, Ar15, qc15, Sz15, Ng15, Hs15, Gs15⟩ := id f1_1
  have hin15 : ¬ ((1 : Int32) < 0 ∨ cl15.slots.size ≤ ((1 : Int32)).toNatClampNeg) := inb_of Sz15 ⟨(by decide), (by decide)⟩
  have hat15 : cl15.slots[((1 : Int32)).toNatClampNeg]? = some (.ref k_JAPANESE) := Has.at Hs15 hin15 rfl
  obtain ⟨T16, X16, e16, st16⟩ := getF X14 hx hZ hown (host := "") (Or.inl (hw _ (List.mem_of_getElem? (i := 48) rfl))) Via.refl e14 (Fs_JAPANESE.ext Old5.2) (g := (mkF m 21 #[.val (.ref a1), .val (.ref b2_1), .val (.int (3 : Int32)), .val (.int (1 : Int32)), .val (.ref k_JAPANESE)] [(.ref k_JAPANESE)])) rfl rfl (hb hby own_d_prog_9_method_6_21)
  have hph17 : ∀ c ∈ ([(106 : Int32), (97 : Int32)] : List Int32), ¬ c < 0 ∧ ¬ (255 : Int32) < c := (own_cS (by decide) (own_cS (by decide) own_c0))
  have cdh18 : StrChars.Road.CodA ([(106 : Int32), (97 : Int32)] : List Int32) 0 (2 : Int32) ((([(106 : Int32), (97 : Int32)] : List Int32).map (fun c => c.toInt8.toInt32)).map Value.int) := (StrChars.Road.codOf (cs := ([(106 : Int32), (97 : Int32)] : List Int32)) (n := 2) rfl (fun c hc => (hph17 c hc).2))
  have cdh19 : StrChars.Road.CodA cs 0 (Int32.ofNat cs.length) ((cs.map (fun c => c.toInt8.toInt32)).map Value.int) := (StrChars.Road.codOf (n := cs.length) rfl (fun c hc => (P5 c hc).2))
  obtain ⟨cq20, kq20, q20a, q20b, q20c⟩ := isOf hZ e16 (Es_JAPANESE.ext Old5.2)
  obtain ⟨_, _, ⟨T20, L20, k20, n20⟩, -, X20, ⟨Lc20, hQ20, l20, y20, z20⟩, st20⟩ := X16.virtualBack hx (y := (⟨"java/lang/String", "equals", "(Ljava/lang/Object;)Z"⟩ : MethodName)) (z := (⟨"java/lang/String", "equals", "(Ljava/lang/Object;)Z"⟩ : MethodName)) hown (mvT hZ (hw _ (List.mem_of_getElem? (i := 50) rfl))) (mvT hZ (hw _ (List.mem_of_getElem? (i := 51) rfl))) (notFace_of_selects (args := #[]) (mvT hZ (hw _ (List.mem_of_getElem? (i := 53) rfl)))) (mvT hZ (hw _ (List.mem_of_getElem? (i := 53) rfl))) (mvT hZ (hw _ (List.mem_of_getElem? (i := 52) rfl))) (by decide) (StrChars.Road.eqW (W := 0) hZ hws_wordsEq (kI := 4) (hw _ (List.mem_of_getElem? (i := 5) rfl)) (Es_JAPANESE.ext Old5.2) (Fv_JAPANESE.ext Old5.2) (Fc_JAPANESE.ext Old5.2) (V_JAPANESE.ext Old5.2) cdh18 (own_up _ hph17) (Nat.le_of_ble_eq_true rfl) Eh9 Fh10 Fh11 Vh12 cdh19 (own_up _ P5) P6 (O_CS.ext Old5.2) P_CS (by decide) (by decide)) q20a q20c (g := (mkF m 25 #[.val (.ref a1), .val (.ref b2_1), .val (.int (3 : Int32)), .val (.int (1 : Int32)), .val (.ref k_JAPANESE)] [(.ref a1), (.ref s_JAPANESE)])) rfl (by rw [hml]; rfl) (Steps.refl _) (argsL := [(.ref a1)]) (rest := []) (lenOf own_pd10 rfl) rfl (by show 2 * 0 + _ ≤ _; exact Nat.le_of_eq rfl) (hb hby own_d_prog_9_method_6_25) (fun _ _ => ⟨rfl, e16, (by decide : 1 + 0 ≤ _), (by decide : 3 + 0 ≤ _)⟩)
  dsimp only [Pt.U, Pt.locs, Pt.cells, Pt.slots] at X20 l20 y20 z20 st20 hQ20
  subst y20 z20
  obtain ⟨hcase, rfl, e20⟩ := hQ20
  have hv20 : _ = some (Value.int 0) := hcase.elim (fun q => absurd q.2 (P8 : ¬ (([(106 : Int32), (97 : Int32)] : List Int32) = cs))) (fun q => q.1)
  subst hv20
  have N20 : Fr n0 L20 := by rw [l20]; exact Fr.app N14 (Fr.nil n0)
  obtain ⟨cl21, Ar21, qc21, Sz21, Ng21, Hs21, Gs21⟩ := id f1_1
  have hin21 : ¬ ((2 : Int32) < 0 ∨ cl21.slots.size ≤ ((2 : Int32)).toNatClampNeg) := inb_of Sz21 ⟨(by decide), (by decide)⟩
  have hat21 : cl21.slots[((2 : Int32)).toNatClampNeg]? = some (.ref k_CHINESE) := Has.at Hs21 hin21 rfl
  obtain ⟨T22, X22, e22, st22⟩ := getF X20 hx hZ hown (host := "") (Or.inl (hw _ (List.mem_of_getElem? (i := 48) rfl))) Via.refl e20 (Fs_CHINESE.ext Old5.2) (g := (mkF m 21 #[.val (.ref a1), .val (.ref b2_1), .val (.int (3 : Int32)), .val (.int (2 : Int32)), .val (.ref k_CHINESE)] [(.ref k_CHINESE)])) rfl rfl (hb hby own_d_prog_9_method_6_21)
  have hph23 : ∀ c ∈ ([(122 : Int32), (104 : Int32)] : List Int32), ¬ c < 0 ∧ ¬ (255 : Int32) < c := (own_cS (by decide) (own_cS (by decide) own_c0))
  have cdh24 : StrChars.Road.CodA ([(122 : Int32), (104 : Int32)] : List Int32) 0 (2 : Int32) ((([(122 : Int32), (104 : Int32)] : List Int32).map (fun c => c.toInt8.toInt32)).map Value.int) := (StrChars.Road.codOf (cs := ([(122 : Int32), (104 : Int32)] : List Int32)) (n := 2) rfl (fun c hc => (hph23 c hc).2))
  have cdh25 : StrChars.Road.CodA cs 0 (Int32.ofNat cs.length) ((cs.map (fun c => c.toInt8.toInt32)).map Value.int) := (StrChars.Road.codOf (n := cs.length) rfl (fun c hc => (P5 c hc).2))
  obtain ⟨cq26, kq26, q26a, q26b, q26c⟩ := isOf hZ e22 (Es_CHINESE.ext Old5.2)
  obtain ⟨_, _, ⟨T26, L26, k26, n26⟩, -, X26, ⟨Lc26, hQ26, l26, y26, z26⟩, st26⟩ := X22.virtualBack hx (y := (⟨"java/lang/String", "equals", "(Ljava/lang/Object;)Z"⟩ : MethodName)) (z := (⟨"java/lang/String", "equals", "(Ljava/lang/Object;)Z"⟩ : MethodName)) hown (mvT hZ (hw _ (List.mem_of_getElem? (i := 50) rfl))) (mvT hZ (hw _ (List.mem_of_getElem? (i := 51) rfl))) (notFace_of_selects (args := #[]) (mvT hZ (hw _ (List.mem_of_getElem? (i := 53) rfl)))) (mvT hZ (hw _ (List.mem_of_getElem? (i := 53) rfl))) (mvT hZ (hw _ (List.mem_of_getElem? (i := 52) rfl))) (by decide) (StrChars.Road.eqW (W := 0) hZ hws_wordsEq (kI := 4) (hw _ (List.mem_of_getElem? (i := 5) rfl)) (Es_CHINESE.ext Old5.2) (Fv_CHINESE.ext Old5.2) (Fc_CHINESE.ext Old5.2) (V_CHINESE.ext Old5.2) cdh24 (own_up _ hph23) (Nat.le_of_ble_eq_true rfl) Eh9 Fh10 Fh11 Vh12 cdh25 (own_up _ P5) P6 (O_CS.ext Old5.2) P_CS (by decide) (by decide)) q26a q26c (g := (mkF m 25 #[.val (.ref a1), .val (.ref b2_1), .val (.int (3 : Int32)), .val (.int (2 : Int32)), .val (.ref k_CHINESE)] [(.ref a1), (.ref s_CHINESE)])) rfl (by rw [hml]; rfl) (Steps.refl _) (argsL := [(.ref a1)]) (rest := []) (lenOf own_pd10 rfl) rfl (by show 2 * 0 + _ ≤ _; exact Nat.le_of_eq rfl) (hb hby own_d_prog_9_method_6_25) (fun _ _ => ⟨rfl, e22, (by decide : 1 + 0 ≤ _), (by decide : 3 + 0 ≤ _)⟩)
  dsimp only [Pt.U, Pt.locs, Pt.cells, Pt.slots] at X26 l26 y26 z26 st26 hQ26
  subst y26 z26
  obtain ⟨hcase, rfl, e26⟩ := hQ26
  have hv26 : _ = some (Value.int 1) := hcase.elim (fun q => q.1) (fun q => absurd (P9 : ([(122 : Int32), (104 : Int32)] : List Int32) = cs) q.2)
  subst hv26
  have N26 : Fr n0 L26 := by rw [l26]; exact Fr.app N20 (Fr.nil n0)
  obtain ⟨_, _, ⟨T27, L27, k27, n27⟩, -, X27, ⟨Lc27, hQ27, l27, y27, z27⟩, st27⟩ := Jvm.LawKit.callS X26 hx (y := (⟨"java/util/Optional", "of", "(Ljava/lang/Object;)Ljava/util/Optional;"⟩ : MethodName)) hown (mvT hZ (hw _ (List.mem_of_getElem? (i := 106) rfl))) (mvT hZ (hw _ (List.mem_of_getElem? (i := 107) rfl))) (mvT hZ (hw _ (List.mem_of_getElem? (i := 63) rfl))) (mvT hZ (hw _ (List.mem_of_getElem? (i := 108) rfl))) (by decide) (backOf (W := 0) (own_rm_of l Z a0 hw [] G1 G3 k_EMPTY k_ENGLISH s_ENGLISH t_ENGLISH kb_ENGLISH k_JAPANESE s_JAPANESE t_JAPANESE kb_JAPANESE k_CHINESE s_CHINESE t_CHINESE kb_CHINESE k_VALUES kv_VALUES gl k_CHINESE T1.heap n0 (Nat.le_trans Z0 Kp2.1) ) hZ (hw _ (List.mem_of_getElem? (i := 108) rfl)) (hw _ (List.mem_of_getElem? (i := 63) rfl)) (by decide) (by decide)) (g := (mkF m 33 #[.val (.ref a1), .val (.ref b2_1), .val (.int (3 : Int32)), .val (.int (2 : Int32)), .val (.ref k_CHINESE)] [(.ref k_CHINESE)])) rfl (by rw [hml]; rfl) (argsL := [(.ref k_CHINESE)]) (rest := []) (lenOf own_pd11 rfl) rfl (by show 2 * 0 + _ ≤ _; exact Nat.le_of_eq rfl) (hb hby own_d_prog_9_method_6_33) (fun _ _ => ⟨rfl, e26, (by decide : 1 + 1 ≤ _), (by decide : 3 + 1 ≤ _)⟩)
  dsimp only [Pt.U, Pt.locs, Pt.cells, Pt.slots] at X27 l27 y27 z27 st27 hQ27
  subst y27 z27
  obtain ⟨b1_27, rfl, Nq27, Kq27, f27_0, f27_1, f27_2⟩ := hQ27
  have N27 : Fr n0 L27 := by rw [l27]; exact Fr.app N26 Nq27
  have Kp28 : Keep h0 T27.heap [] := Kp2.trans Kq27 all0
  obtain ⟨fs, hr, hrun, hended, hW, hsame⟩ := X27.leave (v := some (.ref b1_27)) (fun h => by rw [Bd.returns] at h; cases h)
  refine ⟨_, _, pre0 _ ?_, hrun, hended, _, _, rfl, ?_, ⟨_, rfl⟩, hW, hsame.mono (by decide) (by decide)⟩
  · show Steps p.tables e below (s₁.setTop (mkF m 0 #[.val (.ref a1), .unset, .unset, .unset, .unset] [])) _
    refine st1 _ ?_
    show Steps p.tables e below (T1.setTop (mkF m 3 #[.val (.ref a1), .unset, .unset, .unset, .unset] [(.ref b2_1)])) _
    refine XS.astoreN X1.here hx rfl (hb hby own_d_prog_9_method_6_3) rfl rfl (l' := #[.val (.ref a1), .val (.ref b2_1), .unset, .unset, .unset]) rfl ?_
    show Steps p.tables e below (T1.setTop (mkF m 4 #[.val (.ref a1), .val (.ref b2_1), .unset, .unset, .unset] [])) _
    refine XS.aloadN X1.here hx rfl (hb hby own_d_prog_9_method_6_4) rfl rfl ?_
    show Steps p.tables e below (T1.setTop (mkF m 5 #[.val (.ref a1), .val (.ref b2_1), .unset, .unset, .unset] [(.ref b2_1)])) _
    refine X1.arraylength hx Ar3.1 (State.isArrayOf_alike hZ.alike Ar3.2.1) (g := (mkF m 5 #[.val (.ref a1), .val (.ref b2_1), .unset, .unset, .unset] [(.ref b2_1)])) rfl rfl (hb hby own_d_prog_9_method_6_5) _ ?_
    rw [len_of Sz3 Ng3]
    show Steps p.tables e below (T1.setTop (mkF m 6 #[.val (.ref a1), .val (.ref b2_1), .unset, .unset, .unset] [(.int (3 : Int32))])) _
    refine XS.istoreN X1.here hx rfl (hb hby own_d_prog_9_method_6_6) rfl (l' := #[.val (.ref a1), .val (.ref b2_1), .val (.int (3 : Int32)), .unset, .unset]) rfl ?_
    show Steps p.tables e below (T1.setTop (mkF m 7 #[.val (.ref a1), .val (.ref b2_1), .val (.int (3 : Int32)), .unset, .unset] [])) _
    refine XS.iconst X1.here hx rfl (hb hby own_d_prog_9_method_6_7) ?_
    show Steps p.tables e below (T1.setTop (mkF m 8 #[.val (.ref a1), .val (.ref b2_1), .val (.int (3 : Int32)), .unset, .unset] [(.int (0 : Int32))])) _
    refine XS.istoreN X1.here hx rfl (hb hby own_d_prog_9_method_6_8) rfl (l' := #[.val (.ref a1), .val (.ref b2_1), .val (.int (3 : Int32)), .val (.int (0 : Int32)), .unset]) rfl ?_
    show Steps p.tables e below (T1.setTop (mkF m 9 #[.val (.ref a1), .val (.ref b2_1), .val (.int (3 : Int32)), .val (.int (0 : Int32)), .unset] [])) _
    refine XS.iloadN X1.here hx rfl (hb hby own_d_prog_9_method_6_9) rfl ?_
    show Steps p.tables e below (T1.setTop (mkF m 10 #[.val (.ref a1), .val (.ref b2_1), .val (.int (3 : Int32)), .val (.int (0 : Int32)), .unset] [(.int (0 : Int32))])) _
    refine XS.iloadN X1.here hx rfl (hb hby own_d_prog_9_method_6_10) rfl ?_
    show Steps p.tables e below (T1.setTop (mkF m 11 #[.val (.ref a1), .val (.ref b2_1), .val (.int (3 : Int32)), .val (.int (0 : Int32)), .unset] [(.int (3 : Int32)), (.int (0 : Int32))])) _
    refine XS.icmpNo X1.here hx rfl (hb hby own_d_prog_9_method_6_11) rfl (tlt (by decide : (0 : Int32) < (3 : Int32))).2.1 ?_
    show Steps p.tables e below (T1.setTop (mkF m 14 #[.val (.ref a1), .val (.ref b2_1), .val (.int (3 : Int32)), .val (.int (0 : Int32)), .unset] [])) _
    refine XS.aloadN X1.here hx rfl (hb hby own_d_prog_9_method_6_14) rfl rfl ?_
    show Steps p.tables e below (T1.setTop (mkF m 15 #[.val (.ref a1), .val (.ref b2_1), .val (.int (3 : Int32)), .val (.int (0 : Int32)), .unset] [(.ref b2_1)])) _
    refine XS.iloadN X1.here hx rfl (hb hby own_d_prog_9_method_6_15) rfl ?_
    show Steps p.tables e below (T1.setTop (mkF m 16 #[.val (.ref a1), .val (.ref b2_1), .val (.int (3 : Int32)), .val (.int (0 : Int32)), .unset] [(.int (0 : Int32)), (.ref b2_1)])) _
    refine X1.aaload hx (j := (0 : Int32)) (v := (.ref k_ENGLISH)) Ar4.1 (State.isArrayOf_alike hZ.alike Ar4.2.1) rfl Ar4.2.2 hin4 hat4 (g := (mkF m 16 #[.val (.ref a1), .val (.ref b2_1), .val (.int (3 : Int32)), .val (.int (0 : Int32)), .unset] [(.int (0 : Int32)), (.ref b2_1)])) rfl rfl (hb hby own_d_prog_9_method_6_16) _ ?_
    show Steps p.tables e below (T1.setTop (mkF m 17 #[.val (.ref a1), .val (.ref b2_1), .val (.int (3 : Int32)), .val (.int (0 : Int32)), .unset] [(.ref k_ENGLISH)])) _
    refine XS.astore X1.here hx rfl (hb hby own_d_prog_9_method_6_17) rfl rfl (l' := #[.val (.ref a1), .val (.ref b2_1), .val (.int (3 : Int32)), .val (.int (0 : Int32)), .val (.ref k_ENGLISH)]) rfl ?_
    show Steps p.tables e below (T1.setTop (mkF m 19 #[.val (.ref a1), .val (.ref b2_1), .val (.int (3 : Int32)), .val (.int (0 : Int32)), .val (.ref k_ENGLISH)] [])) _
    refine XS.aload X1.here hx rfl (hb hby own_d_prog_9_method_6_19) rfl rfl ?_
    show Steps p.tables e below (T1.setTop (mkF m 21 #[.val (.ref a1), .val (.ref b2_1), .val (.int (3 : Int32)), .val (.int (0 : Int32)), .val (.ref k_ENGLISH)] [(.ref k_ENGLISH)])) _
    refine st6 _ ?_
    show Steps p.tables e below (T6.setTop (mkF m 24 #[.val (.ref a1), .val (.ref b2_1), .val (.int (3 : Int32)), .val (.int (0 : Int32)), .val (.ref k_ENGLISH)] [(.ref s_ENGLISH)])) _
    refine XS.aloadN X6.here hx rfl (hb hby own_d_prog_9_method_6_24) rfl rfl ?_
    show Steps p.tables e below (T6.setTop (mkF m 25 #[.val (.ref a1), .val (.ref b2_1), .val (.int (3 : Int32)), .val (.int (0 : Int32)), .val (.ref k_ENGLISH)] [(.ref a1), (.ref s_ENGLISH)])) _
    refine st14.trans ?_
    show Steps p.tables e below (T14.setTop (mkF m 28 #[.val (.ref a1), .val (.ref b2_1), .val (.int (3 : Int32)), .val (.int (0 : Int32)), .val (.ref k_ENGLISH)] [(.int (0 : Int32))])) _
    refine XS.ifYes X14.here hx rfl (pc0 := 28) (pc' := 37) rfl (hb hby own_d_prog_9_method_6_28) rfl ((if0 _ _).trans (teq (rfl : (0 : Int32) = (0 : Int32))).1) (by decide) (by decide) ?_
    show Steps p.tables e below (T14.setTop (mkF m 37 #[.val (.ref a1), .val (.ref b2_1), .val (.int (3 : Int32)), .val (.int (0 : Int32)), .val (.ref k_ENGLISH)] [])) _
    refine XS.iinc X14.here hx rfl (hb hby own_d_prog_9_method_6_37) rfl (l' := #[.val (.ref a1), .val (.ref b2_1), .val (.int (3 : Int32)), .val (.int (1 : Int32)), .val (.ref k_ENGLISH)]) rfl ?_
    show Steps p.tables e below (T14.setTop (mkF m 40 #[.val (.ref a1), .val (.ref b2_1), .val (.int (3 : Int32)), .val (.int (1 : Int32)), .val (.ref k_ENGLISH)] [])) _
    refine XS.goto X14.here hx rfl (pc0 := 40) (pc' := 9) rfl (hb hby own_d_prog_9_method_6_40) (by decide) (by decide) ?_
    show Steps p.tables e below (T14.setTop (mkF m 9 #[.val (.ref a1), .val (.ref b2_1), .val (.int (3 : Int32)), .val (.int (1 : Int32)), .val (.ref k_ENGLISH)] [])) _
    refine XS.iloadN X14.here hx rfl (hb hby own_d_prog_9_method_6_9) rfl ?_
    show Steps p.tables e below (T14.setTop (mkF m 10 #[.val (.ref a1), .val (.ref b2_1), .val (.int (3 : Int32)), .val (.int (1 : Int32)), .val (.ref k_ENGLISH)] [(.int (1 : Int32))])) _
    refine XS.iloadN X14.here hx rfl (hb hby own_d_prog_9_method_6_10) rfl ?_
    show Steps p.tables e below (T14.setTop (mkF m 11 #[.val (.ref a1), .val (.ref b2_1), .val (.int (3 : Int32)), .val (.int (1 : Int32)), .val (.ref k_ENGLISH)] [(.int (3 : Int32)), (.int (1 : Int32))])) _
    refine XS.icmpNo X14.here hx rfl (hb hby own_d_prog_9_method_6_11) rfl (tlt (by decide : (1 : Int32) < (3 : Int32))).2.1 ?_
    show Steps p.tables e below (T14.setTop (mkF m 14 #[.val (.ref a1), .val (.ref b2_1), .val (.int (3 : Int32)), .val (.int (1 : Int32)), .val (.ref k_ENGLISH)] [])) _
    refine XS.aloadN X14.here hx rfl (hb hby own_d_prog_9_method_6_14) rfl rfl ?_
    show Steps p.tables e below (T14.setTop (mkF m 15 #[.val (.ref a1), .val (.ref b2_1), .val (.int (3 : Int32)), .val (.int (1 : Int32)), .val (.ref k_ENGLISH)] [(.ref b2_1)])) _
    refine XS.iloadN X14.here hx rfl (hb hby own_d_prog_9_method_6_15) rfl ?_
    show Steps p.tables e below (T14.setTop (mkF m 16 #[.val (.ref a1), .val (.ref b2_1), .val (.int (3 : Int32)), .val (.int (1 : Int32)), .val (.ref k_ENGLISH)] [(.int (1 : Int32)), (.ref b2_1)])) _
    refine X14.aaload hx (j := (1 : Int32)) (v := (.ref k_JAPANESE)) (by rw [e14]; exact Ar15.1) (State.isArrayOf_alike hZ.alike Ar15.2.1) rfl Ar15.2.2 hin15 hat15 (g := (mkF m 16 #[.val (.ref a1), .val (.ref b2_1), .val (.int (3 : Int32)), .val (.int (1 : Int32)), .val (.ref k_ENGLISH)] [(.int (1 : Int32)), (.ref b2_1)])) rfl rfl (hb hby own_d_prog_9_method_6_16) _ ?_
    show Steps p.tables e below (T14.setTop (mkF m 17 #[.val (.ref a1), .val (.ref b2_1), .val (.int (3 : Int32)), .val (.int (1 : Int32)), .val (.ref k_ENGLISH)] [(.ref k_JAPANESE)])) _
    refine XS.astore X14.here hx rfl (hb hby own_d_prog_9_method_6_17) rfl rfl (l' := #[.val (.ref a1), .val (.ref b2_1), .val (.int (3 : Int32)), .val (.int (1 : Int32)), .val (.ref k_JAPANESE)]) rfl ?_
    show Steps p.tables e below (T14.setTop (mkF m 19 #[.val (.ref a1), .val (.ref b2_1), .val (.int (3 : Int32)), .val (.int (1 : Int32)), .val (.ref k_JAPANESE)] [])) _
    refine XS.aload X14.here hx rfl (hb hby own_d_prog_9_method_6_19) rfl rfl ?_
    show Steps p.tables e below (T14.setTop (mkF m 21 #[.val (.ref a1), .val (.ref b2_1), .val (.int (3 : Int32)), .val (.int (1 : Int32)), .val (.ref k_JAPANESE)] [(.ref k_JAPANESE)])) _
    refine st16 _ ?_
    show Steps p.tables e below (T16.setTop (mkF m 24 #[.val (.ref a1), .val (.ref b2_1), .val (.int (3 : Int32)), .val (.int (1 : Int32)), .val (.ref k_JAPANESE)] [(.ref s_JAPANESE)])) _
    refine XS.aloadN X16.here hx rfl (hb hby own_d_prog_9_method_6_24) rfl rfl ?_
    show Steps p.tables e below (T16.setTop (mkF m 25 #[.val (.ref a1), .val (.ref b2_1), .val (.int (3 : Int32)), .val (.int (1 : Int32)), .val (.ref k_JAPANESE)] [(.ref a1), (.ref s_JAPANESE)])) _
    refine st20.trans ?_
    show Steps p.tables e below (T20.setTop (mkF m 28 #[.val (.ref a1), .val (.ref b2_1), .val (.int (3 : Int32)), .val (.int (1 : Int32)), .val (.ref k_JAPANESE)] [(.int (0 : Int32))])) _
    refine XS.ifYes X20.here hx rfl (pc0 := 28) (pc' := 37) rfl (hb hby own_d_prog_9_method_6_28) rfl ((if0 _ _).trans (teq (rfl : (0 : Int32) = (0 : Int32))).1) (by decide) (by decide) ?_
    show Steps p.tables e below (T20.setTop (mkF m 37 #[.val (.ref a1), .val (.ref b2_1), .val (.int (3 : Int32)), .val (.int (1 : Int32)), .val (.ref k_JAPANESE)] [])) _
    refine XS.iinc X20.here hx rfl (hb hby own_d_prog_9_method_6_37) rfl (l' := #[.val (.ref a1), .val (.ref b2_1), .val (.int (3 : Int32)), .val (.int (2 : Int32)), .val (.ref k_JAPANESE)]) rfl ?_
    show Steps p.tables e below (T20.setTop (mkF m 40 #[.val (.ref a1), .val (.ref b2_1), .val (.int (3 : Int32)), .val (.int (2 : Int32)), .val (.ref k_JAPANESE)] [])) _
    refine XS.goto X20.here hx rfl (pc0 := 40) (pc' := 9) rfl (hb hby own_d_prog_9_method_6_40) (by decide) (by decide) ?_
    show Steps p.tables e below (T20.setTop (mkF m 9 #[.val (.ref a1), .val (.ref b2_1), .val (.int (3 : Int32)), .val (.int (2 : Int32)), .val (.ref k_JAPANESE)] [])) _
    refine XS.iloadN X20.here hx rfl (hb hby own_d_prog_9_method_6_9) rfl ?_
    show Steps p.tables e below (T20.setTop (mkF m 10 #[.val (.ref a1), .val (.ref b2_1), .val (.int (3 : Int32)), .val (.int (2 : Int32)), .val (.ref k_JAPANESE)] [(.int (2 : Int32))])) _
    refine XS.iloadN X20.here hx rfl (hb hby own_d_prog_9_method_6_10) rfl ?_
    show Steps p.tables e below (T20.setTop (mkF m 11 #[.val (.ref a1), .val (.ref b2_1), .val (.int (3 : Int32)), .val (.int (2 : Int32)), .val (.ref k_JAPANESE)] [(.int (3 : Int32)), (.int (2 : Int32))])) _
    refine XS.icmpNo X20.here hx rfl (hb hby own_d_prog_9_method_6_11) rfl (tlt (by decide : (2 : Int32) < (3 : Int32))).2.1 ?_
    show Steps p.tables e below (T20.setTop (mkF m 14 #[.val (.ref a1), .val (.ref b2_1), .val (.int (3 : Int32)), .val (.int (2 : Int32)), .val (.ref k_JAPANESE)] [])) _
    refine XS.aloadN X20.here hx rfl (hb hby own_d_prog_9_method_6_14) rfl rfl ?_
    show Steps p.tables e below (T20.setTop (mkF m 15 #[.val (.ref a1), .val (.ref b2_1), .val (.int (3 : Int32)), .val (.int (2 : Int32)), .val (.ref k_JAPANESE)] [(.ref b2_1)])) _
    refine XS.iloadN X20.here hx rfl (hb hby own_d_prog_9_method_6_15) rfl ?_
    show Steps p.tables e below (T20.setTop (mkF m 16 #[.val (.ref a1), .val (.ref b2_1), .val (.int (3 : Int32)), .val (.int (2 : Int32)), .val (.ref k_JAPANESE)] [(.int (2 : Int32)), (.ref b2_1)])) _
    refine X20.aaload hx (j := (2 : Int32)) (v := (.ref k_CHINESE)) (by rw [e20]; exact Ar21.1) (State.isArrayOf_alike hZ.alike Ar21.2.1) rfl Ar21.2.2 hin21 hat21 (g := (mkF m 16 #[.val (.ref a1), .val (.ref b2_1), .val (.int (3 : Int32)), .val (.int (2 : Int32)), .val (.ref k_JAPANESE)] [(.int (2 : Int32)), (.ref b2_1)])) rfl rfl (hb hby own_d_prog_9_method_6_16) _ ?_
    show Steps p.tables e below (T20.setTop (mkF m 17 #[.val (.ref a1), .val (.ref b2_1), .val (.int (3 : Int32)), .val (.int (2 : Int32)), .val (.ref k_JAPANESE)] [(.ref k_CHINESE)])) _
    refine XS.astore X20.here hx rfl (hb hby own_d_prog_9_method_6_17) rfl rfl (l' := #[.val (.ref a1), .val (.ref b2_1), .val (.int (3 : Int32)), .val (.int (2 : Int32)), .val (.ref k_CHINESE)]) rfl ?_
    show Steps p.tables e below (T20.setTop (mkF m 19 #[.val (.ref a1), .val (.ref b2_1), .val (.int (3 : Int32)), .val (.int (2 : Int32)), .val (.ref k_CHINESE)] [])) _
    refine XS.aload X20.here hx rfl (hb hby own_d_prog_9_method_6_19) rfl rfl ?_
    show Steps p.tables e below (T20.setTop (mkF m 21 #[.val (.ref a1), .val (.ref b2_1), .val (.int (3 : Int32)), .val (.int (2 : Int32)), .val (.ref k_CHINESE)] [(.ref k_CHINESE)])) _
    refine st22 _ ?_
    show Steps p.tables e below (T22.setTop (mkF m 24 #[.val (.ref a1), .val (.ref b2_1), .val (.int (3 : Int32)), .val (.int (2 : Int32)), .val (.ref k_CHINESE)] [(.ref s_CHINESE)])) _
    refine XS.aloadN X22.here hx rfl (hb hby own_d_prog_9_method_6_24) rfl rfl ?_
    show Steps p.tables e below (T22.setTop (mkF m 25 #[.val (.ref a1), .val (.ref b2_1), .val (.int (3 : Int32)), .val (.int (2 : Int32)), .val (.ref k_CHINESE)] [(.ref a1), (.ref s_CHINESE)])) _
    refine st26.trans ?_
    show Steps p.tables e below (T26.setTop (mkF m 28 #[.val (.ref a1), .val (.ref b2_1), .val (.int (3 : Int32)), .val (.int (2 : Int32)), .val (.ref k_CHINESE)] [(.int (1 : Int32))])) _
    refine XS.ifNo X26.here hx rfl (hb hby own_d_prog_9_method_6_28) rfl ((if0 _ _).trans (feq (by decide : ¬ ((1 : Int32) = (0 : Int32)))).1) ?_
    show Steps p.tables e below (T26.setTop (mkF m 31 #[.val (.ref a1), .val (.ref b2_1), .val (.int (3 : Int32)), .val (.int (2 : Int32)), .val (.ref k_CHINESE)] [])) _
    refine XS.aload X26.here hx rfl (hb hby own_d_prog_9_method_6_31) rfl rfl ?_
    show Steps p.tables e below (T26.setTop (mkF m 33 #[.val (.ref a1), .val (.ref b2_1), .val (.int (3 : Int32)), .val (.int (2 : Int32)), .val (.ref k_CHINESE)] [(.ref k_CHINESE)])) _
    refine st27 _ ?_
    show Steps p.tables e below (T27.setTop (mkF m 36 #[.val (.ref a1), .val (.ref b2_1), .val (.int (3 : Int32)), .val (.int (2 : Int32)), .val (.ref k_CHINESE)] [(.ref b1_27)])) _
    jvm_step X27.here [X27.here.top, hx, (hb hby own_d_prog_9_method_6_36), X27.method', Bd.returns, Value.isRef, FieldType.isReference]
    first | (intro acts; rw [hr _ acts rfl rfl rfl]) | rw [hr _ _ rfl rfl rfl]
    exact Steps.refl _
  · show own_Qrm_fcC Z G1 G3 k_EMPTY k_ENGLISH s_ENGLISH t_ENGLISH kb_ENGLISH k_JAPANESE s_JAPANESE t_JAPANESE kb_JAPANESE k_CHINESE s_CHINESE t_CHINESE kb_CHINESE k_VALUES kv_VALUES a1 cs t2 kb3 h0 n0 _ T27.heap _
    exact ⟨b1_27, rfl, N27, Kp28, (Nat.le_trans Kp2.1 f27_0), f27_1, f27_2⟩
theorem own_d_prog_9_method_6_43 : decode prog_9_method_6_code 43 = .ok (.invokestatic 55, 3) := by decide +kernel
theorem own_pd12 : parseMethodDescriptor "()Ljava/util/Optional;" = some ⟨[], some (.object "java/util/Optional")⟩ := by decide +kernel
theorem own_d_prog_9_method_6_46 : decode prog_9_method_6_code 46 = .ok (.areturn, 1) := by decide +kernel
def own_Qrm_fcO (Z : State) (G1 : Int32) (G3 : Value) (k_EMPTY : Addr) (k_ENGLISH : Addr) (s_ENGLISH : Addr) (t_ENGLISH : Addr) (kb_ENGLISH : ClassId) (k_JAPANESE : Addr) (s_JAPANESE : Addr) (t_JAPANESE : Addr) (kb_JAPANESE : ClassId) (k_CHINESE : Addr) (s_CHINESE : Addr) (t_CHINESE : Addr) (kb_CHINESE : ClassId) (k_VALUES : Addr) (kv_VALUES : ClassId) (a1 : Addr) (cs : List Int32) (t2 : Addr) (kb3 : ClassId) (h0 : Heap) (n0 : Nat) (v : Option Value) (h : Heap) (L : List Loc) : Prop := (v = some (.ref k_EMPTY)) ∧ (Fr n0 L) ∧ (Keep h0 h [])
theorem own_efrm_fcO (m : MethodId) (a1 : Addr) : entryFrame m #[(.ref a1)] 5 = mkF m 0 #[.val (.ref a1), .unset, .unset, .unset, .unset] [] := by first | (simp [entryFrame, mkF, argsToLocals, Value.category]; done) | rfl
set_option maxRecDepth 65536 in
set_option maxHeartbeats 40000000 in
theorem own_rm_fcO (l : Launch) (Z : State) (a0 : Array Value) (hw : ∀ d ∈ tables_1, d.before a0 Z = true) (ws : List Jvm.Cond) (G1 : Int32) (G3 : Value) (k_EMPTY : Addr) (k_ENGLISH : Addr) (s_ENGLISH : Addr) (t_ENGLISH : Addr) (kb_ENGLISH : ClassId) (k_JAPANESE : Addr) (s_JAPANESE : Addr) (t_JAPANESE : Addr) (kb_JAPANESE : ClassId) (k_CHINESE : Addr) (s_CHINESE : Addr) (t_CHINESE : Addr) (kb_CHINESE : ClassId) (k_VALUES : Addr) (kv_VALUES : ClassId) (gl : own_Glob Z G1 G3 k_EMPTY k_ENGLISH s_ENGLISH t_ENGLISH kb_ENGLISH k_JAPANESE s_JAPANESE t_JAPANESE kb_JAPANESE k_CHINESE s_CHINESE t_CHINESE kb_CHINESE k_VALUES kv_VALUES) (a1 : Addr) (cs : List Int32) (t2 : Addr) (kb3 : ClassId) (h0 : Heap) (n0 : Nat) (Z0 : n0 ≤ h0.size) (X00 : Old Z n0 h0) (P1 : Exa Z h0 a1 "java/lang/String") (P2 : Fld Z h0 a1 "java/lang/String" "value" "[B" (.ref t2)) (P3 : Fld Z h0 a1 "java/lang/String" "coder" "B" (.int (0 : Int32))) (P4 : Arv Z h0 t2 kb3 .byte (Int32.ofNat cs.length) ((cs.map (fun c => c.toInt8.toInt32)).map Value.int) (.int (0 : Int32))) (P5 : ∀ c ∈ cs, ¬ c < 0 ∧ ¬ (255 : Int32) < c) (P6 : cs.length ≤ 4000) (P7 : ¬ (([(101 : Int32), (110 : Int32)] : List Int32) = cs)) (P8 : ¬ (([(106 : Int32), (97 : Int32)] : List Int32) = cs)) (P9 : ¬ (([(122 : Int32), (104 : Int32)] : List Int32) = cs)) :
    MetFree l (⟨"com/example/dragoman/dragoman/core/Language", "forCode", "(Ljava/lang/String;)Ljava/util/Optional;"⟩ : MethodName) (head1 (Jvm.Cond.code (⟨"com/example/dragoman/dragoman/core/Language", "forCode", "(Ljava/lang/String;)Ljava/util/Optional;"⟩ : MethodName) prog_9_method_6_code 5 (some (.object "java/util/Optional")) :: ws) ({ frames := 2, cells := 1, slots := 3, locals := 28 } : Room)) (fun a U => a = #[(.ref a1)] ∧ Z.Warmed39 U.vm ∧ U.heap = h0) (fun _ _ _ _ _ => True) (fun _ U o U' => ∃ v L, o = .returned v ∧ own_Qrm_fcO Z G1 G3 k_EMPTY k_ENGLISH s_ENGLISH t_ENGLISH kb_ENGLISH k_JAPANESE s_JAPANESE t_JAPANESE kb_JAPANESE k_CHINESE s_CHINESE t_CHINESE kb_CHINESE k_VALUES kv_VALUES a1 cs t2 kb3 h0 n0 v U'.heap L ∧ FrameEnd U o U' L ({ frames := 2, cells := 1, slots := 3, locals := 28 } : Room).cells ({ frames := 2, cells := 1, slots := 3, locals := 28 } : Room).slots) := by
  refine MetFree.of_bodySF (plainFor_of_name own_pn6) hisR ?_
  intro p e s m args below meth c s₁ Bd hml0 hP hK
  obtain ⟨rfl, hZ, hh⟩ := hP
  obtain ⟨O_CS, P_CS, O_SI, P_SI, O_EMPTY, E_EMPTY, F_EMPTY, O_ENGLISH, E_ENGLISH, Fs_ENGLISH, Es_ENGLISH, Fc_ENGLISH, Fv_ENGLISH, V_ENGLISH, O_JAPANESE, E_JAPANESE, Fs_JAPANESE, Es_JAPANESE, Fc_JAPANESE, Fv_JAPANESE, V_JAPANESE, O_CHINESE, E_CHINESE, Fs_CHINESE, Es_CHINESE, Fc_CHINESE, Fv_CHINESE, V_CHINESE, O_VALUES, E_VALUES, V_VALUES⟩ := id gl
  have hx := Bd.exec
  have hby := Bd.bytes
  have hml : c.maxLocals = 5 := hml0
  have hown : s.vm.findClass "com/example/dragoman/dragoman/core/Language" = some m.cls := findClass_of_methodNamed Bd.named
  have hnm := (name_of_methodNamed Bd.named Bd.method).1
  have X0 : Stand p l e ({ frames := 2, cells := 1, slots := 3, locals := 28 } : Room) s m #[(.ref a1)] below meth c s₁ [] 0 0 := Stand.of_body Bd
  have e0 : s₁.heap = h0 := by rw [← hh, Bd.state]; rfl
  have N0 := Fr.nil n0
  have pre0 : ∀ t, Steps p.tables e below (s₁.setTop (mkF m 0 #[.val (.ref a1), .unset, .unset, .unset, .unset] [])) t → Steps p.tables e below (s₁.setTop (entryFrame m #[(.ref a1)] 5)) t := fun t k => castTop (own_efrm_fcO m a1) k
  obtain ⟨_, _, ⟨T1, L1, k1, n1⟩, -, X1, ⟨Lc1, hQ1, l1, y1, z1⟩, st1⟩ := Jvm.LawKit.callS X0 hx (y := (⟨"com/example/dragoman/dragoman/core/Language", "values", "()[Lcom/example/dragoman/dragoman/core/Language;"⟩ : MethodName)) hown (mvT hZ (hw _ (List.mem_of_getElem? (i := 30) rfl))) (mvT hZ (hw _ (List.mem_of_getElem? (i := 31) rfl))) (mvT hZ (hw _ (List.mem_of_getElem? (i := 28) rfl))) (mvT hZ (hw _ (List.mem_of_getElem? (i := 32) rfl))) (by decide) (backOf (W := 0) (own_rm_values l Z a0 hw [] G1 G3 k_EMPTY k_ENGLISH s_ENGLISH t_ENGLISH kb_ENGLISH k_JAPANESE s_JAPANESE t_JAPANESE kb_JAPANESE k_CHINESE s_CHINESE t_CHINESE kb_CHINESE k_VALUES kv_VALUES gl  h0 n0 Z0 X00 ) hZ (hw _ (List.mem_of_getElem? (i := 32) rfl)) (hw _ (List.mem_of_getElem? (i := 28) rfl)) (by decide) (by decide)) (g := (mkF m 0 #[.val (.ref a1), .unset, .unset, .unset, .unset] [])) rfl (by rw [hml]; rfl) (argsL := []) (rest := []) (lenOf own_pd9 rfl) rfl (by show 2 * 0 + _ ≤ _; exact Nat.le_of_eq rfl) (hb hby own_d_prog_9_method_6_0) (fun _ _ => ⟨rfl, e0, (by decide : 0 + 1 ≤ _), (by decide : 0 + 3 ≤ _)⟩)
  dsimp only [Pt.U, Pt.locs, Pt.cells, Pt.slots] at X1 l1 y1 z1 st1 hQ1
  subst y1 z1
  obtain ⟨b2_1, rfl, Nq1, Kq1, f1_0, f1_1, f1_2⟩ := hQ1
  have N1 : Fr n0 L1 := by rw [l1]; exact Fr.app N0 Nq1
  have Kp2 : Keep h0 T1.heap [] := (Keep.refl h0 []).trans Kq1 all0
  obtain ⟨cl3, Ar3, -, Sz3, Ng3, -, -⟩ := id f1_1
  obtain ⟨cl4, Ar4, qc4, Sz4, Ng4, Hs4, Gs4⟩ := id f1_1
  have hin4 : ¬ ((0 : Int32) < 0 ∨ cl4.slots.size ≤ ((0 : Int32)).toNatClampNeg) := inb_of Sz4 ⟨(by decide), (by decide)⟩
  have hat4 : cl4.slots[((0 : Int32)).toNatClampNeg]? = some (.ref k_ENGLISH) := Has.at Hs4 hin4 rfl
  have Old5 : Old Z n0 T1.heap := X00.keep Kq1 all0
  obtain ⟨T6, X6, e6, st6⟩ := getF X1 hx hZ hown (host := "") (Or.inl (hw _ (List.mem_of_getElem? (i := 48) rfl))) Via.refl rfl (Fs_ENGLISH.ext Old5.2) (g := (mkF m 21 #[.val (.ref a1), .val (.ref b2_1), .val (.int (3 : Int32)), .val (.int (0 : Int32)), .val (.ref k_ENGLISH)] [(.ref k_ENGLISH)])) rfl rfl (hb hby own_d_prog_9_method_6_21)
  have hph7 : ∀ c ∈ ([(101 : Int32), (110 : Int32)] : List Int32), ¬ c < 0 ∧ ¬ (255 : Int32) < c := (own_cS (by decide) (own_cS (by decide) own_c0))
  have cdh8 : StrChars.Road.CodA ([(101 : Int32), (110 : Int32)] : List Int32) 0 (2 : Int32) ((([(101 : Int32), (110 : Int32)] : List Int32).map (fun c => c.toInt8.toInt32)).map Value.int) := (StrChars.Road.codOf (cs := ([(101 : Int32), (110 : Int32)] : List Int32)) (n := 2) rfl (fun c hc => (hph7 c hc).2))
  have hws_wordsEq : ∀ d ∈ StrChars.Road.wordsEq, d.before a0 Z = true := fun d hd => hw d (own_hws_wordsEq d hd)
  have Eh9 : Exa Z T1.heap a1 "java/lang/String" := (P1.keep Kq1)
  have Fh10 : Fld Z T1.heap a1 "java/lang/String" "value" "[B" (.ref t2) := (P2.keep Kq1 nin0)
  have Fh11 : Fld Z T1.heap a1 "java/lang/String" "coder" "B" (.int (0 : Int32)) := (P3.keep Kq1 nin0)
  have Vh12 : Arv Z T1.heap t2 kb3 .byte (Int32.ofNat cs.length) ((cs.map (fun c => c.toInt8.toInt32)).map Value.int) (.int (0 : Int32)) := (P4.keep Kq1 nin0)
  have cdh13 : StrChars.Road.CodA cs 0 (Int32.ofNat cs.length) ((cs.map (fun c => c.toInt8.toInt32)).map Value.int) := (StrChars.Road.codOf (n := cs.length) rfl (fun c hc => (P5 c hc).2))
  obtain ⟨cq14, kq14, q14a, q14b, q14c⟩ := isOf hZ e6 (Es_ENGLISH.ext Old5.2)
  obtain ⟨_, _, ⟨T14, L14, k14, n14⟩, -, X14, ⟨Lc14, hQ14, l14, y14, z14⟩, st14⟩ := X6.virtualBack hx (y := (⟨"java/lang/String", "equals", "(Ljava/lang/Object;)Z"⟩ : MethodName)) (z := (⟨"java/lang/String", "equals", "(Ljava/lang/Object;)Z"⟩ : MethodName)) hown (mvT hZ (hw _ (List.mem_of_getElem? (i := 50) rfl))) (mvT hZ (hw _ (List.mem_of_getElem? (i := 51) rfl))) (notFace_of_selects (args := #[]) (mvT hZ (hw _ (List.mem_of_getElem? (i := 53) rfl)))) (mvT hZ (hw _ (List.mem_of_getElem? (i := 53) rfl))) (mvT hZ (hw _ (List.mem_of_getElem? (i := 52) rfl))) (by decide) (StrChars.Road.eqW (W := 0) hZ hws_wordsEq (kI := 4) (hw _ (List.mem_of_getElem? (i := 5) rfl)) (Es_ENGLISH.ext Old5.2) (Fv_ENGLISH.ext Old5.2) (Fc_ENGLISH.ext Old5.2) (V_ENGLISH.ext Old5.2) cdh8 (own_up _ hph7) (Nat.le_of_ble_eq_true rfl) Eh9 Fh10 Fh11 Vh12 cdh13 (own_up _ P5) P6 (O_CS.ext Old5.2) P_CS (by decide) (by decide)) q14a q14c (g := (mkF m 25 #[.val (.ref a1), .val (.ref b2_1), .val (.int (3 : Int32)), .val (.int (0 : Int32)), .val (.ref k_ENGLISH)] [(.ref a1), (.ref s_ENGLISH)])) rfl (by rw [hml]; rfl) (Steps.refl _) (argsL := [(.ref a1)]) (rest := []) (lenOf own_pd10 rfl) rfl (by show 2 * 0 + _ ≤ _; exact Nat.le_of_eq rfl) (hb hby own_d_prog_9_method_6_25) (fun _ _ => ⟨rfl, e6, (by decide : 1 + 0 ≤ _), (by decide : 3 + 0 ≤ _)⟩)
  dsimp only [Pt.U, Pt.locs, Pt.cells, Pt.slots] at X14 l14 y14 z14 st14 hQ14
  subst y14 z14
  obtain ⟨hcase, rfl, e14⟩ := hQ14
  have hv14 : _ = some (Value.int 0) := hcase.elim (fun q => absurd q.2 (P7 : ¬ (([(101 : Int32), (110 : Int32)] : List Int32) = cs))) (fun q => q.1)
  subst hv14
  have N14 : Fr n0 L14 := by rw [l14]; exact Fr.app N1 (Fr.nil n0)
  obtain ⟨cl15, Ar15, qc15, Sz15, Ng15, Hs15, Gs15⟩ := id f1_1
  have hin15 : ¬ ((1 : Int32) < 0 ∨ cl15.slots.size ≤ ((1 : Int32)).toNatClampNeg) := inb_of Sz15 ⟨(by decide), (by decide)⟩
  have hat15 : cl15.slots[((1 : Int32)).toNatClampNeg]? = some (.ref k_JAPANESE) := Has.at Hs15 hin15 rfl
  obtain ⟨T16, X16, e16, st16⟩ := getF X14 hx hZ hown (host := "") (Or.inl (hw _ (List.mem_of_getElem? (i := 48) rfl))) Via.refl e14 (Fs_JAPANESE.ext Old5.2) (g := (mkF m 21 #[.val (.ref a1), .val (.ref b2_1), .val (.int (3 : Int32)), .val (.int (1 : Int32)), .val (.ref k_JAPANESE)] [(.ref k_JAPANESE)])) rfl rfl (hb hby own_d_prog_9_method_6_21)
  have hph17 : ∀ c ∈ ([(106 : Int32), (97 : Int32)] : List Int32), ¬ c < 0 ∧ ¬ (255 : Int32) < c := (own_cS (by decide) (own_cS (by decide) own_c0))
  have cdh18 : StrChars.Road.CodA ([(106 : Int32), (97 : Int32)] : List Int32) 0 (2 : Int32) ((([(106 : Int32), (97 : Int32)] : List Int32).map (fun c => c.toInt8.toInt32)).map Value.int) := (StrChars.Road.codOf (cs := ([(106 : Int32), (97 : Int32)] : List Int32)) (n := 2) rfl (fun c hc => (hph17 c hc).2))
  have cdh19 : StrChars.Road.CodA cs 0 (Int32.ofNat cs.length) ((cs.map (fun c => c.toInt8.toInt32)).map Value.int) := (StrChars.Road.codOf (n := cs.length) rfl (fun c hc => (P5 c hc).2))
  obtain ⟨cq20, kq20, q20a, q20b, q20c⟩ := isOf hZ e16 (Es_JAPANESE.ext Old5.2)
  obtain ⟨_, _, ⟨T20, L20, k20, n20⟩, -, X20, ⟨Lc20, hQ20, l20, y20, z20⟩, st20⟩ := X16.virtualBack hx (y := (⟨"java/lang/String", "equals", "(Ljava/lang/Object;)Z"⟩ : MethodName)) (z := (⟨"java/lang/String", "equals", "(Ljava/lang/Object;)Z"⟩ : MethodName)) hown (mvT hZ (hw _ (List.mem_of_getElem? (i := 50) rfl))) (mvT hZ (hw _ (List.mem_of_getElem? (i := 51) rfl))) (notFace_of_selects (args := #[]) (mvT hZ (hw _ (List.mem_of_getElem? (i := 53) rfl)))) (mvT hZ (hw _ (List.mem_of_getElem? (i := 53) rfl))) (mvT hZ (hw _ (List.mem_of_getElem? (i := 52) rfl))) (by decide) (StrChars.Road.eqW (W := 0) hZ hws_wordsEq (kI := 4) (hw _ (List.mem_of_getElem? (i := 5) rfl)) (Es_JAPANESE.ext Old5.2) (Fv_JAPANESE.ext Old5.2) (Fc_JAPANESE.ext Old5.2) (V_JAPANESE.ext Old5.2) cdh18 (own_up _ hph17) (Nat.le_of_ble_eq_true rfl) Eh9 Fh10 Fh11 Vh12 cdh19 (own_up _ P5) P6 (O_CS.ext Old5.2) P_CS (by decide) (by decide)) q20a q20c (g := (mkF m 25 #[.val (.ref a1), .val (.ref b2_1), .val (.int (3 : Int32)), .val (.int (1 : Int32)), .val (.ref k_JAPANESE)] [(.ref a1), (.ref s_JAPANESE)])) rfl (by rw [hml]; rfl) (Steps.refl _) (argsL := [(.ref a1)]) (rest := []) (lenOf own_pd10 rfl) rfl (by show 2 * 0 + _ ≤ _; exact Nat.le_of_eq rfl) (hb hby own_d_prog_9_method_6_25) (fun _ _ => ⟨rfl, e16, (by decide : 1 + 0 ≤ _), (by decide : 3 + 0 ≤ _)⟩)
  dsimp only [Pt.U, Pt.locs, Pt.cells, Pt.slots] at X20 l20 y20 z20 st20 hQ20
  subst y20 z20
  obtain ⟨hcase, rfl, e20⟩ := hQ20
  have hv20 : _ = some (Value.int 0) := hcase.elim (fun q => absurd q.2 (P8 : ¬ (([(106 : Int32), (97 : Int32)] : List Int32) = cs))) (fun q => q.1)
  subst hv20
  have N20 : Fr n0 L20 := by rw [l20]; exact Fr.app N14 (Fr.nil n0)
  obtain ⟨cl21, Ar21, qc21, Sz21, Ng21, Hs21, Gs21⟩ := id f1_1
  have hin21 : ¬ ((2 : Int32) < 0 ∨ cl21.slots.size ≤ ((2 : Int32)).toNatClampNeg) := inb_of Sz21 ⟨(by decide), (by decide)⟩
  have hat21 : cl21.slots[((2 : Int32)).toNatClampNeg]? = some (.ref k_CHINESE) := Has.at Hs21 hin21 rfl
  obtain ⟨T22, X22, e22, st22⟩ := getF X20 hx hZ hown (host := "") (Or.inl (hw _ (List.mem_of_getElem? (i := 48) rfl))) Via.refl e20 (Fs_CHINESE.ext Old5.2) (g := (mkF m 21 #[.val (.ref a1), .val (.ref b2_1), .val (.int (3 : Int32)), .val (.int (2 : Int32)), .val (.ref k_CHINESE)] [(.ref k_CHINESE)])) rfl rfl (hb hby own_d_prog_9_method_6_21)
  have hph23 : ∀ c ∈ ([(122 : Int32), (104 : Int32)] : List Int32), ¬ c < 0 ∧ ¬ (255 : Int32) < c := (own_cS (by decide) (own_cS (by decide) own_c0))
  have cdh24 : StrChars.Road.CodA ([(122 : Int32), (104 : Int32)] : List Int32) 0 (2 : Int32) ((([(122 : Int32), (104 : Int32)] : List Int32).map (fun c => c.toInt8.toInt32)).map Value.int) := (StrChars.Road.codOf (cs := ([(122 : Int32), (104 : Int32)] : List Int32)) (n := 2) rfl (fun c hc => (hph23 c hc).2))
  have cdh25 : StrChars.Road.CodA cs 0 (Int32.ofNat cs.length) ((cs.map (fun c => c.toInt8.toInt32)).map Value.int) := (StrChars.Road.codOf (n := cs.length) rfl (fun c hc => (P5 c hc).2))
  obtain ⟨cq26, kq26, q26a, q26b, q26c⟩ := isOf hZ e22 (Es_CHINESE.ext Old5.2)
  obtain ⟨_, _, ⟨T26, L26, k26, n26⟩, -, X26, ⟨Lc26, hQ26, l26, y26, z26⟩, st26⟩ := X22.virtualBack hx (y := (⟨"java/lang/String", "equals", "(Ljava/lang/Object;)Z"⟩ : MethodName)) (z := (⟨"java/lang/String", "equals", "(Ljava/lang/Object;)Z"⟩ : MethodName)) hown (mvT hZ (hw _ (List.mem_of_getElem? (i := 50) rfl))) (mvT hZ (hw _ (List.mem_of_getElem? (i := 51) rfl))) (notFace_of_selects (args := #[]) (mvT hZ (hw _ (List.mem_of_getElem? (i := 53) rfl)))) (mvT hZ (hw _ (List.mem_of_getElem? (i := 53) rfl))) (mvT hZ (hw _ (List.mem_of_getElem? (i := 52) rfl))) (by decide) (StrChars.Road.eqW (W := 0) hZ hws_wordsEq (kI := 4) (hw _ (List.mem_of_getElem? (i := 5) rfl)) (Es_CHINESE.ext Old5.2) (Fv_CHINESE.ext Old5.2) (Fc_CHINESE.ext Old5.2) (V_CHINESE.ext Old5.2) cdh24 (own_up _ hph23) (Nat.le_of_ble_eq_true rfl) Eh9 Fh10 Fh11 Vh12 cdh25 (own_up _ P5) P6 (O_CS.ext Old5.2) P_CS (by decide) (by decide)) q26a q26c (g := (mkF m 25 #[.val (.ref a1), .val (.ref b2_1), .val (.int (3 : Int32)), .val (.int (2 : Int32)), .val (.ref k_CHINESE)] [(.ref a1), (.ref s_CHINESE)])) rfl (by rw [hml]; rfl) (Steps.refl _) (argsL := [(.ref a1)]) (rest := []) (lenOf own_pd10 rfl) rfl (by show 2 * 0 + _ ≤ _; exact Nat.le_of_eq rfl) (hb hby own_d_prog_9_method_6_25) (fun _ _ => ⟨rfl, e22, (by decide : 1 + 0 ≤ _), (by decide : 3 + 0 ≤ _)⟩)
  dsimp only [Pt.U, Pt.locs, Pt.cells, Pt.slots] at X26 l26 y26 z26 st26 hQ26
  subst y26 z26
  obtain ⟨hcase, rfl, e26⟩ := hQ26
  have hv26 : _ = some (Value.int 0) := hcase.elim (fun q => absurd q.2 (P9 : ¬ (([(122 : Int32), (104 : Int32)] : List Int32) = cs))) (fun q => q.1)
  subst hv26
  have N26 : Fr n0 L26 := by rw [l26]; exact Fr.app N20 (Fr.nil n0)
  obtain ⟨_, _, ⟨T27, L27, k27, n27⟩, -, X27, ⟨Lc27, hQ27, l27, y27, z27⟩, st27⟩ := Jvm.LawKit.callS X26 hx (y := (⟨"java/util/Optional", "empty", "()Ljava/util/Optional;"⟩ : MethodName)) hown (mvT hZ (hw _ (List.mem_of_getElem? (i := 61) rfl))) (mvT hZ (hw _ (List.mem_of_getElem? (i := 62) rfl))) (mvT hZ (hw _ (List.mem_of_getElem? (i := 63) rfl))) (mvT hZ (hw _ (List.mem_of_getElem? (i := 64) rfl))) (by decide) (backOf (W := 0) (own_rm_empty l Z a0 hw [] G1 G3 k_EMPTY k_ENGLISH s_ENGLISH t_ENGLISH kb_ENGLISH k_JAPANESE s_JAPANESE t_JAPANESE kb_JAPANESE k_CHINESE s_CHINESE t_CHINESE kb_CHINESE k_VALUES kv_VALUES gl  T1.heap n0 (Nat.le_trans Z0 Kp2.1) Old5 ) hZ (hw _ (List.mem_of_getElem? (i := 64) rfl)) (hw _ (List.mem_of_getElem? (i := 63) rfl)) (by decide) (by decide)) (g := (mkF m 43 #[.val (.ref a1), .val (.ref b2_1), .val (.int (3 : Int32)), .val (.int (3 : Int32)), .val (.ref k_CHINESE)] [])) rfl (by rw [hml]; rfl) (argsL := []) (rest := []) (lenOf own_pd12 rfl) rfl (by show 2 * 0 + _ ≤ _; exact Nat.le_of_eq rfl) (hb hby own_d_prog_9_method_6_43) (fun _ _ => ⟨rfl, e26, (by decide : 1 + 0 ≤ _), (by decide : 3 + 0 ≤ _)⟩)
  dsimp only [Pt.U, Pt.locs, Pt.cells, Pt.slots] at X27 l27 y27 z27 st27 hQ27
  subst y27 z27
  obtain ⟨rfl, Nq27, e27⟩ := hQ27
  have N27 : Fr n0 L27 := by rw [l27]; exact Fr.app N26 Nq27
  obtain ⟨fs, hr, hrun, hended, hW, hsame⟩ := X27.leave (v := some (.ref k_EMPTY)) (fun h => by rw [Bd.returns] at h; cases h)
  refine ⟨_, _, pre0 _ ?_, hrun, hended, _, _, rfl, ?_, ⟨_, rfl⟩, hW, hsame.mono (by decide) (by decide)⟩
  · show Steps p.tables e below (s₁.setTop (mkF m 0 #[.val (.ref a1), .unset, .unset, .unset, .unset] [])) _
    refine st1 _ ?_
    show Steps p.tables e below (T1.setTop (mkF m 3 #[.val (.ref a1), .unset, .unset, .unset, .unset] [(.ref b2_1)])) _
    refine XS.astoreN X1.here hx rfl (hb hby own_d_prog_9_method_6_3) rfl rfl (l' := #[.val (.ref a1), .val (.ref b2_1), .unset, .unset, .unset]) rfl ?_
    show Steps p.tables e below (T1.setTop (mkF m 4 #[.val (.ref a1), .val (.ref b2_1), .unset, .unset, .unset] [])) _
    refine XS.aloadN X1.here hx rfl (hb hby own_d_prog_9_method_6_4) rfl rfl ?_
    show Steps p.tables e below (T1.setTop (mkF m 5 #[.val (.ref a1), .val (.ref b2_1), .unset, .unset, .unset] [(.ref b2_1)])) _
    refine X1.arraylength hx Ar3.1 (State.isArrayOf_alike hZ.alike Ar3.2.1) (g := (mkF m 5 #[.val (.ref a1), .val (.ref b2_1), .unset, .unset, .unset] [(.ref b2_1)])) rfl rfl (hb hby own_d_prog_9_method_6_5) _ ?_
    rw [len_of Sz3 Ng3]
    show Steps p.tables e below (T1.setTop (mkF m 6 #[.val (.ref a1), .val (.ref b2_1), .unset, .unset, .unset] [(.int (3 : Int32))])) _
    refine XS.istoreN X1.here hx rfl (hb hby own_d_prog_9_method_6_6) rfl (l' := #[.val (.ref a1), .val (.ref b2_1), .val (.int (3 : Int32)), .unset, .unset]) rfl ?_
    show Steps p.tables e below (T1.setTop (mkF m 7 #[.val (.ref a1), .val (.ref b2_1), .val (.int (3 : Int32)), .unset, .unset] [])) _
    refine XS.iconst X1.here hx rfl (hb hby own_d_prog_9_method_6_7) ?_
    show Steps p.tables e below (T1.setTop (mkF m 8 #[.val (.ref a1), .val (.ref b2_1), .val (.int (3 : Int32)), .unset, .unset] [(.int (0 : Int32))])) _
    refine XS.istoreN X1.here hx rfl (hb hby own_d_prog_9_method_6_8) rfl (l' := #[.val (.ref a1), .val (.ref b2_1), .val (.int (3 : Int32)), .val (.int (0 : Int32)), .unset]) rfl ?_
    show Steps p.tables e below (T1.setTop (mkF m 9 #[.val (.ref a1), .val (.ref b2_1), .val (.int (3 : Int32)), .val (.int (0 : Int32)), .unset] [])) _
    refine XS.iloadN X1.here hx rfl (hb hby own_d_prog_9_method_6_9) rfl ?_
    show Steps p.tables e below (T1.setTop (mkF m 10 #[.val (.ref a1), .val (.ref b2_1), .val (.int (3 : Int32)), .val (.int (0 : Int32)), .unset] [(.int (0 : Int32))])) _
    refine XS.iloadN X1.here hx rfl (hb hby own_d_prog_9_method_6_10) rfl ?_
    show Steps p.tables e below (T1.setTop (mkF m 11 #[.val (.ref a1), .val (.ref b2_1), .val (.int (3 : Int32)), .val (.int (0 : Int32)), .unset] [(.int (3 : Int32)), (.int (0 : Int32))])) _
    refine XS.icmpNo X1.here hx rfl (hb hby own_d_prog_9_method_6_11) rfl (tlt (by decide : (0 : Int32) < (3 : Int32))).2.1 ?_
    show Steps p.tables e below (T1.setTop (mkF m 14 #[.val (.ref a1), .val (.ref b2_1), .val (.int (3 : Int32)), .val (.int (0 : Int32)), .unset] [])) _
    refine XS.aloadN X1.here hx rfl (hb hby own_d_prog_9_method_6_14) rfl rfl ?_
    show Steps p.tables e below (T1.setTop (mkF m 15 #[.val (.ref a1), .val (.ref b2_1), .val (.int (3 : Int32)), .val (.int (0 : Int32)), .unset] [(.ref b2_1)])) _
    refine XS.iloadN X1.here hx rfl (hb hby own_d_prog_9_method_6_15) rfl ?_
    show Steps p.tables e below (T1.setTop (mkF m 16 #[.val (.ref a1), .val (.ref b2_1), .val (.int (3 : Int32)), .val (.int (0 : Int32)), .unset] [(.int (0 : Int32)), (.ref b2_1)])) _
    refine X1.aaload hx (j := (0 : Int32)) (v := (.ref k_ENGLISH)) Ar4.1 (State.isArrayOf_alike hZ.alike Ar4.2.1) rfl Ar4.2.2 hin4 hat4 (g := (mkF m 16 #[.val (.ref a1), .val (.ref b2_1), .val (.int (3 : Int32)), .val (.int (0 : Int32)), .unset] [(.int (0 : Int32)), (.ref b2_1)])) rfl rfl (hb hby own_d_prog_9_method_6_16) _ ?_
    show Steps p.tables e below (T1.setTop (mkF m 17 #[.val (.ref a1), .val (.ref b2_1), .val (.int (3 : Int32)), .val (.int (0 : Int32)), .unset] [(.ref k_ENGLISH)])) _
    refine XS.astore X1.here hx rfl (hb hby own_d_prog_9_method_6_17) rfl rfl (l' := #[.val (.ref a1), .val (.ref b2_1), .val (.int (3 : Int32)), .val (.int (0 : Int32)), .val (.ref k_ENGLISH)]) rfl ?_
    show Steps p.tables e below (T1.setTop (mkF m 19 #[.val (.ref a1), .val (.ref b2_1), .val (.int (3 : Int32)), .val (.int (0 : Int32)), .val (.ref k_ENGLISH)] [])) _
    refine XS.aload X1.here hx rfl (hb hby own_d_prog_9_method_6_19) rfl rfl ?_
    show Steps p.tables e below (T1.setTop (mkF m 21 #[.val (.ref a1), .val (.ref b2_1), .val (.int (3 : Int32)), .val (.int (0 : Int32)), .val (.ref k_ENGLISH)] [(.ref k_ENGLISH)])) _
    refine st6 _ ?_
    show Steps p.tables e below (T6.setTop (mkF m 24 #[.val (.ref a1), .val (.ref b2_1), .val (.int (3 : Int32)), .val (.int (0 : Int32)), .val (.ref k_ENGLISH)] [(.ref s_ENGLISH)])) _
    refine XS.aloadN X6.here hx rfl (hb hby own_d_prog_9_method_6_24) rfl rfl ?_
    show Steps p.tables e below (T6.setTop (mkF m 25 #[.val (.ref a1), .val (.ref b2_1), .val (.int (3 : Int32)), .val (.int (0 : Int32)), .val (.ref k_ENGLISH)] [(.ref a1), (.ref s_ENGLISH)])) _
    refine st14.trans ?_
    show Steps p.tables e below (T14.setTop (mkF m 28 #[.val (.ref a1), .val (.ref b2_1), .val (.int (3 : Int32)), .val (.int (0 : Int32)), .val (.ref k_ENGLISH)] [(.int (0 : Int32))])) _
    refine XS.ifYes X14.here hx rfl (pc0 := 28) (pc' := 37) rfl (hb hby own_d_prog_9_method_6_28) rfl ((if0 _ _).trans (teq (rfl : (0 : Int32) = (0 : Int32))).1) (by decide) (by decide) ?_
    show Steps p.tables e below (T14.setTop (mkF m 37 #[.val (.ref a1), .val (.ref b2_1), .val (.int (3 : Int32)), .val (.int (0 : Int32)), .val (.ref k_ENGLISH)] [])) _
    refine XS.iinc X14.here hx rfl (hb hby own_d_prog_9_method_6_37) rfl (l' := #[.val (.ref a1), .val (.ref b2_1), .val (.int (3 : Int32)), .val (.int (1 : Int32)), .val (.ref k_ENGLISH)]) rfl ?_
    show Steps p.tables e below (T14.setTop (mkF m 40 #[.val (.ref a1), .val (.ref b2_1), .val (.int (3 : Int32)), .val (.int (1 : Int32)), .val (.ref k_ENGLISH)] [])) _
    refine XS.goto X14.here hx rfl (pc0 := 40) (pc' := 9) rfl (hb hby own_d_prog_9_method_6_40) (by decide) (by decide) ?_
    show Steps p.tables e below (T14.setTop (mkF m 9 #[.val (.ref a1), .val (.ref b2_1), .val (.int (3 : Int32)), .val (.int (1 : Int32)), .val (.ref k_ENGLISH)] [])) _
    refine XS.iloadN X14.here hx rfl (hb hby own_d_prog_9_method_6_9) rfl ?_
    show Steps p.tables e below (T14.setTop (mkF m 10 #[.val (.ref a1), .val (.ref b2_1), .val (.int (3 : Int32)), .val (.int (1 : Int32)), .val (.ref k_ENGLISH)] [(.int (1 : Int32))])) _
    refine XS.iloadN X14.here hx rfl (hb hby own_d_prog_9_method_6_10) rfl ?_
    show Steps p.tables e below (T14.setTop (mkF m 11 #[.val (.ref a1), .val (.ref b2_1), .val (.int (3 : Int32)), .val (.int (1 : Int32)), .val (.ref k_ENGLISH)] [(.int (3 : Int32)), (.int (1 : Int32))])) _
    refine XS.icmpNo X14.here hx rfl (hb hby own_d_prog_9_method_6_11) rfl (tlt (by decide : (1 : Int32) < (3 : Int32))).2.1 ?_
    show Steps p.tables e below (T14.setTop (mkF m 14 #[.val (.ref a1), .val (.ref b2_1), .val (.int (3 : Int32)), .val (.int (1 : Int32)), .val (.ref k_ENGLISH)] [])) _
    refine XS.aloadN X14.here hx rfl (hb hby own_d_prog_9_method_6_14) rfl rfl ?_
    show Steps p.tables e below (T14.setTop (mkF m 15 #[.val (.ref a1), .val (.ref b2_1), .val (.int (3 : Int32)), .val (.int (1 : Int32)), .val (.ref k_ENGLISH)] [(.ref b2_1)])) _
    refine XS.iloadN X14.here hx rfl (hb hby own_d_prog_9_method_6_15) rfl ?_
    show Steps p.tables e below (T14.setTop (mkF m 16 #[.val (.ref a1), .val (.ref b2_1), .val (.int (3 : Int32)), .val (.int (1 : Int32)), .val (.ref k_ENGLISH)] [(.int (1 : Int32)), (.ref b2_1)])) _
    refine X14.aaload hx (j := (1 : Int32)) (v := (.ref k_JAPANESE)) (by rw [e14]; exact Ar15.1) (State.isArrayOf_alike hZ.alike Ar15.2.1) rfl Ar15.2.2 hin15 hat15 (g := (mkF m 16 #[.val (.ref a1), .val (.ref b2_1), .val (.int (3 : Int32)), .val (.int (1 : Int32)), .val (.ref k_ENGLISH)] [(.int (1 : Int32)), (.ref b2_1)])) rfl rfl (hb hby own_d_prog_9_method_6_16) _ ?_
    show Steps p.tables e below (T14.setTop (mkF m 17 #[.val (.ref a1), .val (.ref b2_1), .val (.int (3 : Int32)), .val (.int (1 : Int32)), .val (.ref k_ENGLISH)] [(.ref k_JAPANESE)])) _
    refine XS.astore X14.here hx rfl (hb hby own_d_prog_9_method_6_17) rfl rfl (l' := #[.val (.ref a1), .val (.ref b2_1), .val (.int (3 : Int32)), .val (.int (1 : Int32)), .val (.ref k_JAPANESE)]) rfl ?_
    show Steps p.tables e below (T14.setTop (mkF m 19 #[.val (.ref a1), .val (.ref b2_1), .val (.int (3 : Int32)), .val (.int (1 : Int32)), .val (.ref k_JAPANESE)] [])) _
    refine XS.aload X14.here hx rfl (hb hby own_d_prog_9_method_6_19) rfl rfl ?_
    show Steps p.tables e below (T14.setTop (mkF m 21 #[.val (.ref a1), .val (.ref b2_1), .val (.int (3 : Int32)), .val (.int (1 : Int32)), .val (.ref k_JAPANESE)] [(.ref k_JAPANESE)])) _
    refine st16 _ ?_
    show Steps p.tables e below (T16.setTop (mkF m 24 #[.val (.ref a1), .val (.ref b2_1), .val (.int (3 : Int32)), .val (.int (1 : Int32)), .val (.ref k_JAPANESE)] [(.ref s_JAPANESE)])) _
    refine XS.aloadN X16.here hx rfl (hb hby own_d_prog_9_method_6_24) rfl rfl ?_
    show Steps p.tables e below (T16.setTop (mkF m 25 #[.val (.ref a1), .val (.ref b2_1), .val (.int (3 : Int32)), .val (.int (1 : Int32)), .val (.ref k_JAPANESE)] [(.ref a1), (.ref s_JAPANESE)])) _
    refine st20.trans ?_
    show Steps p.tables e below (T20.setTop (mkF m 28 #[.val (.ref a1), .val (.ref b2_1), .val (.int (3 : Int32)), .val (.int (1 : Int32)), .val (.ref k_JAPANESE)] [(.int (0 : Int32))])) _
    refine XS.ifYes X20.here hx rfl (pc0 := 28) (pc' := 37) rfl (hb hby own_d_prog_9_method_6_28) rfl ((if0 _ _).trans (teq (rfl : (0 : Int32) = (0 : Int32))).1) (by decide) (by decide) ?_
    show Steps p.tables e below (T20.setTop (mkF m 37 #[.val (.ref a1), .val (.ref b2_1), .val (.int (3 : Int32)), .val (.int (1 : Int32)), .val (.ref k_JAPANESE)] [])) _
    refine XS.iinc X20.here hx rfl (hb hby own_d_prog_9_method_6_37) rfl (l' := #[.val (.ref a1), .val (.ref b2_1), .val (.int (3 : Int32)), .val (.int (2 : Int32)), .val (.ref k_JAPANESE)]) rfl ?_
    show Steps p.tables e below (T20.setTop (mkF m 40 #[.val (.ref a1), .val (.ref b2_1), .val (.int (3 : Int32)), .val (.int (2 : Int32)), .val (.ref k_JAPANESE)] [])) _
    refine XS.goto X20.here hx rfl (pc0 := 40) (pc' := 9) rfl (hb hby own_d_prog_9_method_6_40) (by decide) (by decide) ?_
    show Steps p.tables e below (T20.setTop (mkF m 9 #[.val (.ref a1), .val (.ref b2_1), .val (.int (3 : Int32)), .val (.int (2 : Int32)), .val (.ref k_JAPANESE)] [])) _
    refine XS.iloadN X20.here hx rfl (hb hby own_d_prog_9_method_6_9) rfl ?_
    show Steps p.tables e below (T20.setTop (mkF m 10 #[.val (.ref a1), .val (.ref b2_1), .val (.int (3 : Int32)), .val (.int (2 : Int32)), .val (.ref k_JAPANESE)] [(.int (2 : Int32))])) _
    refine XS.iloadN X20.here hx rfl (hb hby own_d_prog_9_method_6_10) rfl ?_
    show Steps p.tables e below (T20.setTop (mkF m 11 #[.val (.ref a1), .val (.ref b2_1), .val (.int (3 : Int32)), .val (.int (2 : Int32)), .val (.ref k_JAPANESE)] [(.int (3 : Int32)), (.int (2 : Int32))])) _
    refine XS.icmpNo X20.here hx rfl (hb hby own_d_prog_9_method_6_11) rfl (tlt (by decide : (2 : Int32) < (3 : Int32))).2.1 ?_
    show Steps p.tables e below (T20.setTop (mkF m 14 #[.val (.ref a1), .val (.ref b2_1), .val (.int (3 : Int32)), .val (.int (2 : Int32)), .val (.ref k_JAPANESE)] [])) _
    refine XS.aloadN X20.here hx rfl (hb hby own_d_prog_9_method_6_14) rfl rfl ?_
    show Steps p.tables e below (T20.setTop (mkF m 15 #[.val (.ref a1), .val (.ref b2_1), .val (.int (3 : Int32)), .val (.int (2 : Int32)), .val (.ref k_JAPANESE)] [(.ref b2_1)])) _
    refine XS.iloadN X20.here hx rfl (hb hby own_d_prog_9_method_6_15) rfl ?_
    show Steps p.tables e below (T20.setTop (mkF m 16 #[.val (.ref a1), .val (.ref b2_1), .val (.int (3 : Int32)), .val (.int (2 : Int32)), .val (.ref k_JAPANESE)] [(.int (2 : Int32)), (.ref b2_1)])) _
    refine X20.aaload hx (j := (2 : Int32)) (v := (.ref k_CHINESE)) (by rw [e20]; exact Ar21.1) (State.isArrayOf_alike hZ.alike Ar21.2.1) rfl Ar21.2.2 hin21 hat21 (g := (mkF m 16 #[.val (.ref a1), .val (.ref b2_1), .val (.int (3 : Int32)), .val (.int (2 : Int32)), .val (.ref k_JAPANESE)] [(.int (2 : Int32)), (.ref b2_1)])) rfl rfl (hb hby own_d_prog_9_method_6_16) _ ?_
    show Steps p.tables e below (T20.setTop (mkF m 17 #[.val (.ref a1), .val (.ref b2_1), .val (.int (3 : Int32)), .val (.int (2 : Int32)), .val (.ref k_JAPANESE)] [(.ref k_CHINESE)])) _
    refine XS.astore X20.here hx rfl (hb hby own_d_prog_9_method_6_17) rfl rfl (l' := #[.val (.ref a1), .val (.ref b2_1), .val (.int (3 : Int32)), .val (.int (2 : Int32)), .val (.ref k_CHINESE)]) rfl ?_
    show Steps p.tables e below (T20.setTop (mkF m 19 #[.val (.ref a1), .val (.ref b2_1), .val (.int (3 : Int32)), .val (.int (2 : Int32)), .val (.ref k_CHINESE)] [])) _
    refine XS.aload X20.here hx rfl (hb hby own_d_prog_9_method_6_19) rfl rfl ?_
    show Steps p.tables e below (T20.setTop (mkF m 21 #[.val (.ref a1), .val (.ref b2_1), .val (.int (3 : Int32)), .val (.int (2 : Int32)), .val (.ref k_CHINESE)] [(.ref k_CHINESE)])) _
    refine st22 _ ?_
    show Steps p.tables e below (T22.setTop (mkF m 24 #[.val (.ref a1), .val (.ref b2_1), .val (.int (3 : Int32)), .val (.int (2 : Int32)), .val (.ref k_CHINESE)] [(.ref s_CHINESE)])) _
    refine XS.aloadN X22.here hx rfl (hb hby own_d_prog_9_method_6_24) rfl rfl ?_
    show Steps p.tables e below (T22.setTop (mkF m 25 #[.val (.ref a1), .val (.ref b2_1), .val (.int (3 : Int32)), .val (.int (2 : Int32)), .val (.ref k_CHINESE)] [(.ref a1), (.ref s_CHINESE)])) _
    refine st26.trans ?_
    show Steps p.tables e below (T26.setTop (mkF m 28 #[.val (.ref a1), .val (.ref b2_1), .val (.int (3 : Int32)), .val (.int (2 : Int32)), .val (.ref k_CHINESE)] [(.int (0 : Int32))])) _
    refine XS.ifYes X26.here hx rfl (pc0 := 28) (pc' := 37) rfl (hb hby own_d_prog_9_method_6_28) rfl ((if0 _ _).trans (teq (rfl : (0 : Int32) = (0 : Int32))).1) (by decide) (by decide) ?_
    show Steps p.tables e below (T26.setTop (mkF m 37 #[.val (.ref a1), .val (.ref b2_1), .val (.int (3 : Int32)), .val (.int (2 : Int32)), .val (.ref k_CHINESE)] [])) _
    refine XS.iinc X26.here hx rfl (hb hby own_d_prog_9_method_6_37) rfl (l' := #[.val (.ref a1), .val (.ref b2_1), .val (.int (3 : Int32)), .val (.int (3 : Int32)), .val (.ref k_CHINESE)]) rfl ?_
    show Steps p.tables e below (T26.setTop (mkF m 40 #[.val (.ref a1), .val (.ref b2_1), .val (.int (3 : Int32)), .val (.int (3 : Int32)), .val (.ref k_CHINESE)] [])) _
    refine XS.goto X26.here hx rfl (pc0 := 40) (pc' := 9) rfl (hb hby own_d_prog_9_method_6_40) (by decide) (by decide) ?_
    show Steps p.tables e below (T26.setTop (mkF m 9 #[.val (.ref a1), .val (.ref b2_1), .val (.int (3 : Int32)), .val (.int (3 : Int32)), .val (.ref k_CHINESE)] [])) _
    refine XS.iloadN X26.here hx rfl (hb hby own_d_prog_9_method_6_9) rfl ?_
    show Steps p.tables e below (T26.setTop (mkF m 10 #[.val (.ref a1), .val (.ref b2_1), .val (.int (3 : Int32)), .val (.int (3 : Int32)), .val (.ref k_CHINESE)] [(.int (3 : Int32))])) _
    refine XS.iloadN X26.here hx rfl (hb hby own_d_prog_9_method_6_10) rfl ?_
    show Steps p.tables e below (T26.setTop (mkF m 11 #[.val (.ref a1), .val (.ref b2_1), .val (.int (3 : Int32)), .val (.int (3 : Int32)), .val (.ref k_CHINESE)] [(.int (3 : Int32)), (.int (3 : Int32))])) _
    refine XS.icmpYes X26.here hx rfl (pc0 := 11) (pc' := 43) rfl (hb hby own_d_prog_9_method_6_11) rfl (flt (by decide : ¬ ((3 : Int32) < (3 : Int32)))).2.1 (by decide) (by decide) ?_
    show Steps p.tables e below (T26.setTop (mkF m 43 #[.val (.ref a1), .val (.ref b2_1), .val (.int (3 : Int32)), .val (.int (3 : Int32)), .val (.ref k_CHINESE)] [])) _
    refine st27 _ ?_
    show Steps p.tables e below (T27.setTop (mkF m 46 #[.val (.ref a1), .val (.ref b2_1), .val (.int (3 : Int32)), .val (.int (3 : Int32)), .val (.ref k_CHINESE)] [(.ref k_EMPTY)])) _
    jvm_step X27.here [X27.here.top, hx, (hb hby own_d_prog_9_method_6_46), X27.method', Bd.returns, Value.isRef, FieldType.isReference]
    first | (intro acts; rw [hr _ acts rfl rfl rfl]) | rw [hr _ _ rfl rfl rfl]
    exact Steps.refl _
  · show own_Qrm_fcO Z G1 G3 k_EMPTY k_ENGLISH s_ENGLISH t_ENGLISH kb_ENGLISH k_JAPANESE s_JAPANESE t_JAPANESE kb_JAPANESE k_CHINESE s_CHINESE t_CHINESE kb_CHINESE k_VALUES kv_VALUES a1 cs t2 kb3 h0 n0 _ T27.heap _
    rw [e27]
    exact ⟨rfl, N27, Kp2⟩
def own_Qrm_fcN (Z : State) (G1 : Int32) (G3 : Value) (k_EMPTY : Addr) (k_ENGLISH : Addr) (s_ENGLISH : Addr) (t_ENGLISH : Addr) (kb_ENGLISH : ClassId) (k_JAPANESE : Addr) (s_JAPANESE : Addr) (t_JAPANESE : Addr) (kb_JAPANESE : ClassId) (k_CHINESE : Addr) (s_CHINESE : Addr) (t_CHINESE : Addr) (kb_CHINESE : ClassId) (k_VALUES : Addr) (kv_VALUES : ClassId)  (h0 : Heap) (n0 : Nat) (v : Option Value) (h : Heap) (L : List Loc) : Prop := (v = some (.ref k_EMPTY)) ∧ (Fr n0 L) ∧ (Keep h0 h [])
theorem own_efrm_fcN (m : MethodId) : entryFrame m #[.null] 5 = mkF m 0 #[.val .null, .unset, .unset, .unset, .unset] [] := by first | (simp [entryFrame, mkF, argsToLocals, Value.category]; done) | rfl
set_option maxRecDepth 65536 in
set_option maxHeartbeats 40000000 in
theorem own_rm_fcN (l : Launch) (Z : State) (a0 : Array Value) (hw : ∀ d ∈ tables_1, d.before a0 Z = true) (ws : List Jvm.Cond) (G1 : Int32) (G3 : Value) (k_EMPTY : Addr) (k_ENGLISH : Addr) (s_ENGLISH : Addr) (t_ENGLISH : Addr) (kb_ENGLISH : ClassId) (k_JAPANESE : Addr) (s_JAPANESE : Addr) (t_JAPANESE : Addr) (kb_JAPANESE : ClassId) (k_CHINESE : Addr) (s_CHINESE : Addr) (t_CHINESE : Addr) (kb_CHINESE : ClassId) (k_VALUES : Addr) (kv_VALUES : ClassId) (gl : own_Glob Z G1 G3 k_EMPTY k_ENGLISH s_ENGLISH t_ENGLISH kb_ENGLISH k_JAPANESE s_JAPANESE t_JAPANESE kb_JAPANESE k_CHINESE s_CHINESE t_CHINESE kb_CHINESE k_VALUES kv_VALUES)  (h0 : Heap) (n0 : Nat) (Z0 : n0 ≤ h0.size) (X00 : Old Z n0 h0) :
    MetFree l (⟨"com/example/dragoman/dragoman/core/Language", "forCode", "(Ljava/lang/String;)Ljava/util/Optional;"⟩ : MethodName) (head1 (Jvm.Cond.code (⟨"com/example/dragoman/dragoman/core/Language", "forCode", "(Ljava/lang/String;)Ljava/util/Optional;"⟩ : MethodName) prog_9_method_6_code 5 (some (.object "java/util/Optional")) :: ws) ({ frames := 2, cells := 1, slots := 3, locals := 25 } : Room)) (fun a U => a = #[.null] ∧ Z.Warmed39 U.vm ∧ U.heap = h0) (fun _ _ _ _ _ => True) (fun _ U o U' => ∃ v L, o = .returned v ∧ own_Qrm_fcN Z G1 G3 k_EMPTY k_ENGLISH s_ENGLISH t_ENGLISH kb_ENGLISH k_JAPANESE s_JAPANESE t_JAPANESE kb_JAPANESE k_CHINESE s_CHINESE t_CHINESE kb_CHINESE k_VALUES kv_VALUES  h0 n0 v U'.heap L ∧ FrameEnd U o U' L ({ frames := 2, cells := 1, slots := 3, locals := 25 } : Room).cells ({ frames := 2, cells := 1, slots := 3, locals := 25 } : Room).slots) := by
  refine MetFree.of_bodySF (plainFor_of_name own_pn6) hisR ?_
  intro p e s m args below meth c s₁ Bd hml0 hP hK
  obtain ⟨rfl, hZ, hh⟩ := hP
  obtain ⟨O_CS, P_CS, O_SI, P_SI, O_EMPTY, E_EMPTY, F_EMPTY, O_ENGLISH, E_ENGLISH, Fs_ENGLISH, Es_ENGLISH, Fc_ENGLISH, Fv_ENGLISH, V_ENGLISH, O_JAPANESE, E_JAPANESE, Fs_JAPANESE, Es_JAPANESE, Fc_JAPANESE, Fv_JAPANESE, V_JAPANESE, O_CHINESE, E_CHINESE, Fs_CHINESE, Es_CHINESE, Fc_CHINESE, Fv_CHINESE, V_CHINESE, O_VALUES, E_VALUES, V_VALUES⟩ := id gl
  have hx := Bd.exec
  have hby := Bd.bytes
  have hml : c.maxLocals = 5 := hml0
  have hown : s.vm.findClass "com/example/dragoman/dragoman/core/Language" = some m.cls := findClass_of_methodNamed Bd.named
  have hnm := (name_of_methodNamed Bd.named Bd.method).1
  have X0 : Stand p l e ({ frames := 2, cells := 1, slots := 3, locals := 25 } : Room) s m #[.null] below meth c s₁ [] 0 0 := Stand.of_body Bd
  have e0 : s₁.heap = h0 := by rw [← hh, Bd.state]; rfl
  have N0 := Fr.nil n0
  have pre0 : ∀ t, Steps p.tables e below (s₁.setTop (mkF m 0 #[.val .null, .unset, .unset, .unset, .unset] [])) t → Steps p.tables e below (s₁.setTop (entryFrame m #[.null] 5)) t := fun t k => castTop (own_efrm_fcN m) k
  obtain ⟨_, _, ⟨T1, L1, k1, n1⟩, -, X1, ⟨Lc1, hQ1, l1, y1, z1⟩, st1⟩ := Jvm.LawKit.callS X0 hx (y := (⟨"com/example/dragoman/dragoman/core/Language", "values", "()[Lcom/example/dragoman/dragoman/core/Language;"⟩ : MethodName)) hown (mvT hZ (hw _ (List.mem_of_getElem? (i := 30) rfl))) (mvT hZ (hw _ (List.mem_of_getElem? (i := 31) rfl))) (mvT hZ (hw _ (List.mem_of_getElem? (i := 28) rfl))) (mvT hZ (hw _ (List.mem_of_getElem? (i := 32) rfl))) (by decide) (backOf (W := 0) (own_rm_values l Z a0 hw [] G1 G3 k_EMPTY k_ENGLISH s_ENGLISH t_ENGLISH kb_ENGLISH k_JAPANESE s_JAPANESE t_JAPANESE kb_JAPANESE k_CHINESE s_CHINESE t_CHINESE kb_CHINESE k_VALUES kv_VALUES gl  h0 n0 Z0 X00 ) hZ (hw _ (List.mem_of_getElem? (i := 32) rfl)) (hw _ (List.mem_of_getElem? (i := 28) rfl)) (by decide) (by decide)) (g := (mkF m 0 #[.val .null, .unset, .unset, .unset, .unset] [])) rfl (by rw [hml]; rfl) (argsL := []) (rest := []) (lenOf own_pd9 rfl) rfl (by show 2 * 0 + _ ≤ _; exact Nat.le_of_eq rfl) (hb hby own_d_prog_9_method_6_0) (fun _ _ => ⟨rfl, e0, (by decide : 0 + 1 ≤ _), (by decide : 0 + 3 ≤ _)⟩)
  dsimp only [Pt.U, Pt.locs, Pt.cells, Pt.slots] at X1 l1 y1 z1 st1 hQ1
  subst y1 z1
  obtain ⟨b2_1, rfl, Nq1, Kq1, f1_0, f1_1, f1_2⟩ := hQ1
  have N1 : Fr n0 L1 := by rw [l1]; exact Fr.app N0 Nq1
  have Kp2 : Keep h0 T1.heap [] := (Keep.refl h0 []).trans Kq1 all0
  obtain ⟨cl3, Ar3, -, Sz3, Ng3, -, -⟩ := id f1_1
  obtain ⟨cl4, Ar4, qc4, Sz4, Ng4, Hs4, Gs4⟩ := id f1_1
  have hin4 : ¬ ((0 : Int32) < 0 ∨ cl4.slots.size ≤ ((0 : Int32)).toNatClampNeg) := inb_of Sz4 ⟨(by decide), (by decide)⟩
  have hat4 : cl4.slots[((0 : Int32)).toNatClampNeg]? = some (.ref k_ENGLISH) := Has.at Hs4 hin4 rfl
  have Old5 : Old Z n0 T1.heap := X00.keep Kq1 all0
  obtain ⟨T6, X6, e6, st6⟩ := getF X1 hx hZ hown (host := "") (Or.inl (hw _ (List.mem_of_getElem? (i := 48) rfl))) Via.refl rfl (Fs_ENGLISH.ext Old5.2) (g := (mkF m 21 #[.val .null, .val (.ref b2_1), .val (.int (3 : Int32)), .val (.int (0 : Int32)), .val (.ref k_ENGLISH)] [(.ref k_ENGLISH)])) rfl rfl (hb hby own_d_prog_9_method_6_21)
  obtain ⟨cq7, kq7, q7a, q7b, q7c⟩ := isOf hZ e6 (Es_ENGLISH.ext Old5.2)
  obtain ⟨_, _, ⟨T7, L7, k7, n7⟩, -, X7, ⟨Lc7, hQ7, l7, y7, z7⟩, st7⟩ := X6.virtualBack hx (y := (⟨"java/lang/String", "equals", "(Ljava/lang/Object;)Z"⟩ : MethodName)) (z := (⟨"java/lang/String", "equals", "(Ljava/lang/Object;)Z"⟩ : MethodName)) hown (mvT hZ (hw _ (List.mem_of_getElem? (i := 50) rfl))) (mvT hZ (hw _ (List.mem_of_getElem? (i := 51) rfl))) (notFace_of_selects (args := #[]) (mvT hZ (hw _ (List.mem_of_getElem? (i := 53) rfl)))) (mvT hZ (hw _ (List.mem_of_getElem? (i := 53) rfl))) (mvT hZ (hw _ (List.mem_of_getElem? (i := 52) rfl))) (by decide) (backOf (W := 0) (own_rm_eqn l Z a0 hw [] G1 G3 k_EMPTY k_ENGLISH s_ENGLISH t_ENGLISH kb_ENGLISH k_JAPANESE s_JAPANESE t_JAPANESE kb_JAPANESE k_CHINESE s_CHINESE t_CHINESE kb_CHINESE k_VALUES kv_VALUES gl s_ENGLISH T1.heap n0 (Nat.le_trans Z0 Kp2.1) ) hZ (hw _ (List.mem_of_getElem? (i := 54) rfl)) (hw _ (List.mem_of_getElem? (i := 6) rfl)) (by decide) (by decide)) q7a q7c (g := (mkF m 25 #[.val .null, .val (.ref b2_1), .val (.int (3 : Int32)), .val (.int (0 : Int32)), .val (.ref k_ENGLISH)] [.null, (.ref s_ENGLISH)])) rfl (by rw [hml]; rfl) (Steps.refl _) (argsL := [.null]) (rest := []) (lenOf own_pd10 rfl) rfl (by show 2 * 0 + _ ≤ _; exact Nat.le_of_eq rfl) (hb hby own_d_prog_9_method_6_25) (fun _ _ => ⟨rfl, e6, (by decide : 1 + 0 ≤ _), (by decide : 3 + 0 ≤ _)⟩)
  dsimp only [Pt.U, Pt.locs, Pt.cells, Pt.slots] at X7 l7 y7 z7 st7 hQ7
  subst y7 z7
  obtain ⟨rfl, Nq7, e7⟩ := hQ7
  have N7 : Fr n0 L7 := by rw [l7]; exact Fr.app N1 Nq7
  obtain ⟨cl8, Ar8, qc8, Sz8, Ng8, Hs8, Gs8⟩ := id f1_1
  have hin8 : ¬ ((1 : Int32) < 0 ∨ cl8.slots.size ≤ ((1 : Int32)).toNatClampNeg) := inb_of Sz8 ⟨(by decide), (by decide)⟩
  have hat8 : cl8.slots[((1 : Int32)).toNatClampNeg]? = some (.ref k_JAPANESE) := Has.at Hs8 hin8 rfl
  obtain ⟨T9, X9, e9, st9⟩ := getF X7 hx hZ hown (host := "") (Or.inl (hw _ (List.mem_of_getElem? (i := 48) rfl))) Via.refl e7 (Fs_JAPANESE.ext Old5.2) (g := (mkF m 21 #[.val .null, .val (.ref b2_1), .val (.int (3 : Int32)), .val (.int (1 : Int32)), .val (.ref k_JAPANESE)] [(.ref k_JAPANESE)])) rfl rfl (hb hby own_d_prog_9_method_6_21)
  obtain ⟨cq10, kq10, q10a, q10b, q10c⟩ := isOf hZ e9 (Es_JAPANESE.ext Old5.2)
  obtain ⟨_, _, ⟨T10, L10, k10, n10⟩, -, X10, ⟨Lc10, hQ10, l10, y10, z10⟩, st10⟩ := X9.virtualBack hx (y := (⟨"java/lang/String", "equals", "(Ljava/lang/Object;)Z"⟩ : MethodName)) (z := (⟨"java/lang/String", "equals", "(Ljava/lang/Object;)Z"⟩ : MethodName)) hown (mvT hZ (hw _ (List.mem_of_getElem? (i := 50) rfl))) (mvT hZ (hw _ (List.mem_of_getElem? (i := 51) rfl))) (notFace_of_selects (args := #[]) (mvT hZ (hw _ (List.mem_of_getElem? (i := 53) rfl)))) (mvT hZ (hw _ (List.mem_of_getElem? (i := 53) rfl))) (mvT hZ (hw _ (List.mem_of_getElem? (i := 52) rfl))) (by decide) (backOf (W := 0) (own_rm_eqn l Z a0 hw [] G1 G3 k_EMPTY k_ENGLISH s_ENGLISH t_ENGLISH kb_ENGLISH k_JAPANESE s_JAPANESE t_JAPANESE kb_JAPANESE k_CHINESE s_CHINESE t_CHINESE kb_CHINESE k_VALUES kv_VALUES gl s_JAPANESE T1.heap n0 (Nat.le_trans Z0 Kp2.1) ) hZ (hw _ (List.mem_of_getElem? (i := 54) rfl)) (hw _ (List.mem_of_getElem? (i := 6) rfl)) (by decide) (by decide)) q10a q10c (g := (mkF m 25 #[.val .null, .val (.ref b2_1), .val (.int (3 : Int32)), .val (.int (1 : Int32)), .val (.ref k_JAPANESE)] [.null, (.ref s_JAPANESE)])) rfl (by rw [hml]; rfl) (Steps.refl _) (argsL := [.null]) (rest := []) (lenOf own_pd10 rfl) rfl (by show 2 * 0 + _ ≤ _; exact Nat.le_of_eq rfl) (hb hby own_d_prog_9_method_6_25) (fun _ _ => ⟨rfl, e9, (by decide : 1 + 0 ≤ _), (by decide : 3 + 0 ≤ _)⟩)
  dsimp only [Pt.U, Pt.locs, Pt.cells, Pt.slots] at X10 l10 y10 z10 st10 hQ10
  subst y10 z10
  obtain ⟨rfl, Nq10, e10⟩ := hQ10
  have N10 : Fr n0 L10 := by rw [l10]; exact Fr.app N7 Nq10
  obtain ⟨cl11, Ar11, qc11, Sz11, Ng11, Hs11, Gs11⟩ := id f1_1
  have hin11 : ¬ ((2 : Int32) < 0 ∨ cl11.slots.size ≤ ((2 : Int32)).toNatClampNeg) := inb_of Sz11 ⟨(by decide), (by decide)⟩
  have hat11 : cl11.slots[((2 : Int32)).toNatClampNeg]? = some (.ref k_CHINESE) := Has.at Hs11 hin11 rfl
  obtain ⟨T12, X12, e12, st12⟩ := getF X10 hx hZ hown (host := "") (Or.inl (hw _ (List.mem_of_getElem? (i := 48) rfl))) Via.refl e10 (Fs_CHINESE.ext Old5.2) (g := (mkF m 21 #[.val .null, .val (.ref b2_1), .val (.int (3 : Int32)), .val (.int (2 : Int32)), .val (.ref k_CHINESE)] [(.ref k_CHINESE)])) rfl rfl (hb hby own_d_prog_9_method_6_21)
  obtain ⟨cq13, kq13, q13a, q13b, q13c⟩ := isOf hZ e12 (Es_CHINESE.ext Old5.2)
  obtain ⟨_, _, ⟨T13, L13, k13, n13⟩, -, X13, ⟨Lc13, hQ13, l13, y13, z13⟩, st13⟩ := X12.virtualBack hx (y := (⟨"java/lang/String", "equals", "(Ljava/lang/Object;)Z"⟩ : MethodName)) (z := (⟨"java/lang/String", "equals", "(Ljava/lang/Object;)Z"⟩ : MethodName)) hown (mvT hZ (hw _ (List.mem_of_getElem? (i := 50) rfl))) (mvT hZ (hw _ (List.mem_of_getElem? (i := 51) rfl))) (notFace_of_selects (args := #[]) (mvT hZ (hw _ (List.mem_of_getElem? (i := 53) rfl)))) (mvT hZ (hw _ (List.mem_of_getElem? (i := 53) rfl))) (mvT hZ (hw _ (List.mem_of_getElem? (i := 52) rfl))) (by decide) (backOf (W := 0) (own_rm_eqn l Z a0 hw [] G1 G3 k_EMPTY k_ENGLISH s_ENGLISH t_ENGLISH kb_ENGLISH k_JAPANESE s_JAPANESE t_JAPANESE kb_JAPANESE k_CHINESE s_CHINESE t_CHINESE kb_CHINESE k_VALUES kv_VALUES gl s_CHINESE T1.heap n0 (Nat.le_trans Z0 Kp2.1) ) hZ (hw _ (List.mem_of_getElem? (i := 54) rfl)) (hw _ (List.mem_of_getElem? (i := 6) rfl)) (by decide) (by decide)) q13a q13c (g := (mkF m 25 #[.val .null, .val (.ref b2_1), .val (.int (3 : Int32)), .val (.int (2 : Int32)), .val (.ref k_CHINESE)] [.null, (.ref s_CHINESE)])) rfl (by rw [hml]; rfl) (Steps.refl _) (argsL := [.null]) (rest := []) (lenOf own_pd10 rfl) rfl (by show 2 * 0 + _ ≤ _; exact Nat.le_of_eq rfl) (hb hby own_d_prog_9_method_6_25) (fun _ _ => ⟨rfl, e12, (by decide : 1 + 0 ≤ _), (by decide : 3 + 0 ≤ _)⟩)
  dsimp only [Pt.U, Pt.locs, Pt.cells, Pt.slots] at X13 l13 y13 z13 st13 hQ13
  subst y13 z13
  obtain ⟨rfl, Nq13, e13⟩ := hQ13
  have N13 : Fr n0 L13 := by rw [l13]; exact Fr.app N10 Nq13
  obtain ⟨_, _, ⟨T14, L14, k14, n14⟩, -, X14, ⟨Lc14, hQ14, l14, y14, z14⟩, st14⟩ := Jvm.LawKit.callS X13 hx (y := (⟨"java/util/Optional", "empty", "()Ljava/util/Optional;"⟩ : MethodName)) hown (mvT hZ (hw _ (List.mem_of_getElem? (i := 61) rfl))) (mvT hZ (hw _ (List.mem_of_getElem? (i := 62) rfl))) (mvT hZ (hw _ (List.mem_of_getElem? (i := 63) rfl))) (mvT hZ (hw _ (List.mem_of_getElem? (i := 64) rfl))) (by decide) (backOf (W := 0) (own_rm_empty l Z a0 hw [] G1 G3 k_EMPTY k_ENGLISH s_ENGLISH t_ENGLISH kb_ENGLISH k_JAPANESE s_JAPANESE t_JAPANESE kb_JAPANESE k_CHINESE s_CHINESE t_CHINESE kb_CHINESE k_VALUES kv_VALUES gl  T1.heap n0 (Nat.le_trans Z0 Kp2.1) Old5 ) hZ (hw _ (List.mem_of_getElem? (i := 64) rfl)) (hw _ (List.mem_of_getElem? (i := 63) rfl)) (by decide) (by decide)) (g := (mkF m 43 #[.val .null, .val (.ref b2_1), .val (.int (3 : Int32)), .val (.int (3 : Int32)), .val (.ref k_CHINESE)] [])) rfl (by rw [hml]; rfl) (argsL := []) (rest := []) (lenOf own_pd12 rfl) rfl (by show 2 * 0 + _ ≤ _; exact Nat.le_of_eq rfl) (hb hby own_d_prog_9_method_6_43) (fun _ _ => ⟨rfl, e13, (by decide : 1 + 0 ≤ _), (by decide : 3 + 0 ≤ _)⟩)
  dsimp only [Pt.U, Pt.locs, Pt.cells, Pt.slots] at X14 l14 y14 z14 st14 hQ14
  subst y14 z14
  obtain ⟨rfl, Nq14, e14⟩ := hQ14
  have N14 : Fr n0 L14 := by rw [l14]; exact Fr.app N13 Nq14
  obtain ⟨fs, hr, hrun, hended, hW, hsame⟩ := X14.leave (v := some (.ref k_EMPTY)) (fun h => by rw [Bd.returns] at h; cases h)
  refine ⟨_, _, pre0 _ ?_, hrun, hended, _, _, rfl, ?_, ⟨_, rfl⟩, hW, hsame.mono (by decide) (by decide)⟩
  · show Steps p.tables e below (s₁.setTop (mkF m 0 #[.val .null, .unset, .unset, .unset, .unset] [])) _
    refine st1 _ ?_
    show Steps p.tables e below (T1.setTop (mkF m 3 #[.val .null, .unset, .unset, .unset, .unset] [(.ref b2_1)])) _
    refine XS.astoreN X1.here hx rfl (hb hby own_d_prog_9_method_6_3) rfl rfl (l' := #[.val .null, .val (.ref b2_1), .unset, .unset, .unset]) rfl ?_
    show Steps p.tables e below (T1.setTop (mkF m 4 #[.val .null, .val (.ref b2_1), .unset, .unset, .unset] [])) _
    refine XS.aloadN X1.here hx rfl (hb hby own_d_prog_9_method_6_4) rfl rfl ?_
    show Steps p.tables e below (T1.setTop (mkF m 5 #[.val .null, .val (.ref b2_1), .unset, .unset, .unset] [(.ref b2_1)])) _
    refine X1.arraylength hx Ar3.1 (State.isArrayOf_alike hZ.alike Ar3.2.1) (g := (mkF m 5 #[.val .null, .val (.ref b2_1), .unset, .unset, .unset] [(.ref b2_1)])) rfl rfl (hb hby own_d_prog_9_method_6_5) _ ?_
    rw [len_of Sz3 Ng3]
    show Steps p.tables e below (T1.setTop (mkF m 6 #[.val .null, .val (.ref b2_1), .unset, .unset, .unset] [(.int (3 : Int32))])) _
    refine XS.istoreN X1.here hx rfl (hb hby own_d_prog_9_method_6_6) rfl (l' := #[.val .null, .val (.ref b2_1), .val (.int (3 : Int32)), .unset, .unset]) rfl ?_
    show Steps p.tables e below (T1.setTop (mkF m 7 #[.val .null, .val (.ref b2_1), .val (.int (3 : Int32)), .unset, .unset] [])) _
    refine XS.iconst X1.here hx rfl (hb hby own_d_prog_9_method_6_7) ?_
    show Steps p.tables e below (T1.setTop (mkF m 8 #[.val .null, .val (.ref b2_1), .val (.int (3 : Int32)), .unset, .unset] [(.int (0 : Int32))])) _
    refine XS.istoreN X1.here hx rfl (hb hby own_d_prog_9_method_6_8) rfl (l' := #[.val .null, .val (.ref b2_1), .val (.int (3 : Int32)), .val (.int (0 : Int32)), .unset]) rfl ?_
    show Steps p.tables e below (T1.setTop (mkF m 9 #[.val .null, .val (.ref b2_1), .val (.int (3 : Int32)), .val (.int (0 : Int32)), .unset] [])) _
    refine XS.iloadN X1.here hx rfl (hb hby own_d_prog_9_method_6_9) rfl ?_
    show Steps p.tables e below (T1.setTop (mkF m 10 #[.val .null, .val (.ref b2_1), .val (.int (3 : Int32)), .val (.int (0 : Int32)), .unset] [(.int (0 : Int32))])) _
    refine XS.iloadN X1.here hx rfl (hb hby own_d_prog_9_method_6_10) rfl ?_
    show Steps p.tables e below (T1.setTop (mkF m 11 #[.val .null, .val (.ref b2_1), .val (.int (3 : Int32)), .val (.int (0 : Int32)), .unset] [(.int (3 : Int32)), (.int (0 : Int32))])) _
    refine XS.icmpNo X1.here hx rfl (hb hby own_d_prog_9_method_6_11) rfl (tlt (by decide : (0 : Int32) < (3 : Int32))).2.1 ?_
    show Steps p.tables e below (T1.setTop (mkF m 14 #[.val .null, .val (.ref b2_1), .val (.int (3 : Int32)), .val (.int (0 : Int32)), .unset] [])) _
    refine XS.aloadN X1.here hx rfl (hb hby own_d_prog_9_method_6_14) rfl rfl ?_
    show Steps p.tables e below (T1.setTop (mkF m 15 #[.val .null, .val (.ref b2_1), .val (.int (3 : Int32)), .val (.int (0 : Int32)), .unset] [(.ref b2_1)])) _
    refine XS.iloadN X1.here hx rfl (hb hby own_d_prog_9_method_6_15) rfl ?_
    show Steps p.tables e below (T1.setTop (mkF m 16 #[.val .null, .val (.ref b2_1), .val (.int (3 : Int32)), .val (.int (0 : Int32)), .unset] [(.int (0 : Int32)), (.ref b2_1)])) _
    refine X1.aaload hx (j := (0 : Int32)) (v := (.ref k_ENGLISH)) Ar4.1 (State.isArrayOf_alike hZ.alike Ar4.2.1) rfl Ar4.2.2 hin4 hat4 (g := (mkF m 16 #[.val .null, .val (.ref b2_1), .val (.int (3 : Int32)), .val (.int (0 : Int32)), .unset] [(.int (0 : Int32)), (.ref b2_1)])) rfl rfl (hb hby own_d_prog_9_method_6_16) _ ?_
    show Steps p.tables e below (T1.setTop (mkF m 17 #[.val .null, .val (.ref b2_1), .val (.int (3 : Int32)), .val (.int (0 : Int32)), .unset] [(.ref k_ENGLISH)])) _
    refine XS.astore X1.here hx rfl (hb hby own_d_prog_9_method_6_17) rfl rfl (l' := #[.val .null, .val (.ref b2_1), .val (.int (3 : Int32)), .val (.int (0 : Int32)), .val (.ref k_ENGLISH)]) rfl ?_
    show Steps p.tables e below (T1.setTop (mkF m 19 #[.val .null, .val (.ref b2_1), .val (.int (3 : Int32)), .val (.int (0 : Int32)), .val (.ref k_ENGLISH)] [])) _
    refine XS.aload X1.here hx rfl (hb hby own_d_prog_9_method_6_19) rfl rfl ?_
    show Steps p.tables e below (T1.setTop (mkF m 21 #[.val .null, .val (.ref b2_1), .val (.int (3 : Int32)), .val (.int (0 : Int32)), .val (.ref k_ENGLISH)] [(.ref k_ENGLISH)])) _
    refine st6 _ ?_
    show Steps p.tables e below (T6.setTop (mkF m 24 #[.val .null, .val (.ref b2_1), .val (.int (3 : Int32)), .val (.int (0 : Int32)), .val (.ref k_ENGLISH)] [(.ref s_ENGLISH)])) _
    refine XS.aloadN X6.here hx rfl (hb hby own_d_prog_9_method_6_24) rfl rfl ?_
    show Steps p.tables e below (T6.setTop (mkF m 25 #[.val .null, .val (.ref b2_1), .val (.int (3 : Int32)), .val (.int (0 : Int32)), .val (.ref k_ENGLISH)] [.null, (.ref s_ENGLISH)])) _
    refine st7.trans ?_
    show Steps p.tables e below (T7.setTop (mkF m 28 #[.val .null, .val (.ref b2_1), .val (.int (3 : Int32)), .val (.int (0 : Int32)), .val (.ref k_ENGLISH)] [(.int (0 : Int32))])) _
    refine XS.ifYes X7.here hx rfl (pc0 := 28) (pc' := 37) rfl (hb hby own_d_prog_9_method_6_28) rfl ((if0 _ _).trans (teq (rfl : (0 : Int32) = (0 : Int32))).1) (by decide) (by decide) ?_
    show Steps p.tables e below (T7.setTop (mkF m 37 #[.val .null, .val (.ref b2_1), .val (.int (3 : Int32)), .val (.int (0 : Int32)), .val (.ref k_ENGLISH)] [])) _
    refine XS.iinc X7.here hx rfl (hb hby own_d_prog_9_method_6_37) rfl (l' := #[.val .null, .val (.ref b2_1), .val (.int (3 : Int32)), .val (.int (1 : Int32)), .val (.ref k_ENGLISH)]) rfl ?_
    show Steps p.tables e below (T7.setTop (mkF m 40 #[.val .null, .val (.ref b2_1), .val (.int (3 : Int32)), .val (.int (1 : Int32)), .val (.ref k_ENGLISH)] [])) _
    refine XS.goto X7.here hx rfl (pc0 := 40) (pc' := 9) rfl (hb hby own_d_prog_9_method_6_40) (by decide) (by decide) ?_
    show Steps p.tables e below (T7.setTop (mkF m 9 #[.val .null, .val (.ref b2_1), .val (.int (3 : Int32)), .val (.int (1 : Int32)), .val (.ref k_ENGLISH)] [])) _
    refine XS.iloadN X7.here hx rfl (hb hby own_d_prog_9_method_6_9) rfl ?_
    show Steps p.tables e below (T7.setTop (mkF m 10 #[.val .null, .val (.ref b2_1), .val (.int (3 : Int32)), .val (.int (1 : Int32)), .val (.ref k_ENGLISH)] [(.int (1 : Int32))])) _
    refine XS.iloadN X7.here hx rfl (hb hby own_d_prog_9_method_6_10) rfl ?_
    show Steps p.tables e below (T7.setTop (mkF m 11 #[.val .null, .val (.ref b2_1), .val (.int (3 : Int32)), .val (.int (1 : Int32)), .val (.ref k_ENGLISH)] [(.int (3 : Int32)), (.int (1 : Int32))])) _
    refine XS.icmpNo X7.here hx rfl (hb hby own_d_prog_9_method_6_11) rfl (tlt (by decide : (1 : Int32) < (3 : Int32))).2.1 ?_
    show Steps p.tables e below (T7.setTop (mkF m 14 #[.val .null, .val (.ref b2_1), .val (.int (3 : Int32)), .val (.int (1 : Int32)), .val (.ref k_ENGLISH)] [])) _
    refine XS.aloadN X7.here hx rfl (hb hby own_d_prog_9_method_6_14) rfl rfl ?_
    show Steps p.tables e below (T7.setTop (mkF m 15 #[.val .null, .val (.ref b2_1), .val (.int (3 : Int32)), .val (.int (1 : Int32)), .val (.ref k_ENGLISH)] [(.ref b2_1)])) _
    refine XS.iloadN X7.here hx rfl (hb hby own_d_prog_9_method_6_15) rfl ?_
    show Steps p.tables e below (T7.setTop (mkF m 16 #[.val .null, .val (.ref b2_1), .val (.int (3 : Int32)), .val (.int (1 : Int32)), .val (.ref k_ENGLISH)] [(.int (1 : Int32)), (.ref b2_1)])) _
    refine X7.aaload hx (j := (1 : Int32)) (v := (.ref k_JAPANESE)) (by rw [e7]; exact Ar8.1) (State.isArrayOf_alike hZ.alike Ar8.2.1) rfl Ar8.2.2 hin8 hat8 (g := (mkF m 16 #[.val .null, .val (.ref b2_1), .val (.int (3 : Int32)), .val (.int (1 : Int32)), .val (.ref k_ENGLISH)] [(.int (1 : Int32)), (.ref b2_1)])) rfl rfl (hb hby own_d_prog_9_method_6_16) _ ?_
    show Steps p.tables e below (T7.setTop (mkF m 17 #[.val .null, .val (.ref b2_1), .val (.int (3 : Int32)), .val (.int (1 : Int32)), .val (.ref k_ENGLISH)] [(.ref k_JAPANESE)])) _
    refine XS.astore X7.here hx rfl (hb hby own_d_prog_9_method_6_17) rfl rfl (l' := #[.val .null, .val (.ref b2_1), .val (.int (3 : Int32)), .val (.int (1 : Int32)), .val (.ref k_JAPANESE)]) rfl ?_
    show Steps p.tables e below (T7.setTop (mkF m 19 #[.val .null, .val (.ref b2_1), .val (.int (3 : Int32)), .val (.int (1 : Int32)), .val (.ref k_JAPANESE)] [])) _
    refine XS.aload X7.here hx rfl (hb hby own_d_prog_9_method_6_19) rfl rfl ?_
    show Steps p.tables e below (T7.setTop (mkF m 21 #[.val .null, .val (.ref b2_1), .val (.int (3 : Int32)), .val (.int (1 : Int32)), .val (.ref k_JAPANESE)] [(.ref k_JAPANESE)])) _
    refine st9 _ ?_
    show Steps p.tables e below (T9.setTop (mkF m 24 #[.val .null, .val (.ref b2_1), .val (.int (3 : Int32)), .val (.int (1 : Int32)), .val (.ref k_JAPANESE)] [(.ref s_JAPANESE)])) _
    refine XS.aloadN X9.here hx rfl (hb hby own_d_prog_9_method_6_24) rfl rfl ?_
    show Steps p.tables e below (T9.setTop (mkF m 25 #[.val .null, .val (.ref b2_1), .val (.int (3 : Int32)), .val (.int (1 : Int32)), .val (.ref k_JAPANESE)] [.null, (.ref s_JAPANESE)])) _
    refine st10.trans ?_
    show Steps p.tables e below (T10.setTop (mkF m 28 #[.val .null, .val (.ref b2_1), .val (.int (3 : Int32)), .val (.int (1 : Int32)), .val (.ref k_JAPANESE)] [(.int (0 : Int32))])) _
    refine XS.ifYes X10.here hx rfl (pc0 := 28) (pc' := 37) rfl (hb hby own_d_prog_9_method_6_28) rfl ((if0 _ _).trans (teq (rfl : (0 : Int32) = (0 : Int32))).1) (by decide) (by decide) ?_
    show Steps p.tables e below (T10.setTop (mkF m 37 #[.val .null, .val (.ref b2_1), .val (.int (3 : Int32)), .val (.int (1 : Int32)), .val (.ref k_JAPANESE)] [])) _
    refine XS.iinc X10.here hx rfl (hb hby own_d_prog_9_method_6_37) rfl (l' := #[.val .null, .val (.ref b2_1), .val (.int (3 : Int32)), .val (.int (2 : Int32)), .val (.ref k_JAPANESE)]) rfl ?_
    show Steps p.tables e below (T10.setTop (mkF m 40 #[.val .null, .val (.ref b2_1), .val (.int (3 : Int32)), .val (.int (2 : Int32)), .val (.ref k_JAPANESE)] [])) _
    refine XS.goto X10.here hx rfl (pc0 := 40) (pc' := 9) rfl (hb hby own_d_prog_9_method_6_40) (by decide) (by decide) ?_
    show Steps p.tables e below (T10.setTop (mkF m 9 #[.val .null, .val (.ref b2_1), .val (.int (3 : Int32)), .val (.int (2 : Int32)), .val (.ref k_JAPANESE)] [])) _
    refine XS.iloadN X10.here hx rfl (hb hby own_d_prog_9_method_6_9) rfl ?_
    show Steps p.tables e below (T10.setTop (mkF m 10 #[.val .null, .val (.ref b2_1), .val (.int (3 : Int32)), .val (.int (2 : Int32)), .val (.ref k_JAPANESE)] [(.int (2 : Int32))])) _
    refine XS.iloadN X10.here hx rfl (hb hby own_d_prog_9_method_6_10) rfl ?_
    show Steps p.tables e below (T10.setTop (mkF m 11 #[.val .null, .val (.ref b2_1), .val (.int (3 : Int32)), .val (.int (2 : Int32)), .val (.ref k_JAPANESE)] [(.int (3 : Int32)), (.int (2 : Int32))])) _
    refine XS.icmpNo X10.here hx rfl (hb hby own_d_prog_9_method_6_11) rfl (tlt (by decide : (2 : Int32) < (3 : Int32))).2.1 ?_
    show Steps p.tables e below (T10.setTop (mkF m 14 #[.val .null, .val (.ref b2_1), .val (.int (3 : Int32)), .val (.int (2 : Int32)), .val (.ref k_JAPANESE)] [])) _
    refine XS.aloadN X10.here hx rfl (hb hby own_d_prog_9_method_6_14) rfl rfl ?_
    show Steps p.tables e below (T10.setTop (mkF m 15 #[.val .null, .val (.ref b2_1), .val (.int (3 : Int32)), .val (.int (2 : Int32)), .val (.ref k_JAPANESE)] [(.ref b2_1)])) _
    refine XS.iloadN X10.here hx rfl (hb hby own_d_prog_9_method_6_15) rfl ?_
    show Steps p.tables e below (T10.setTop (mkF m 16 #[.val .null, .val (.ref b2_1), .val (.int (3 : Int32)), .val (.int (2 : Int32)), .val (.ref k_JAPANESE)] [(.int (2 : Int32)), (.ref b2_1)])) _
    refine X10.aaload hx (j := (2 : Int32)) (v := (.ref k_CHINESE)) (by rw [e10]; exact Ar11.1) (State.isArrayOf_alike hZ.alike Ar11.2.1) rfl Ar11.2.2 hin11 hat11 (g := (mkF m 16 #[.val .null, .val (.ref b2_1), .val (.int (3 : Int32)), .val (.int (2 : Int32)), .val (.ref k_JAPANESE)] [(.int (2 : Int32)), (.ref b2_1)])) rfl rfl (hb hby own_d_prog_9_method_6_16) _ ?_
    show Steps p.tables e below (T10.setTop (mkF m 17 #[.val .null, .val (.ref b2_1), .val (.int (3 : Int32)), .val (.int (2 : Int32)), .val (.ref k_JAPANESE)] [(.ref k_CHINESE)])) _
    refine XS.astore X10.here hx rfl (hb hby own_d_prog_9_method_6_17) rfl rfl (l' := #[.val .null, .val (.ref b2_1), .val (.int (3 : Int32)), .val (.int (2 : Int32)), .val (.ref k_CHINESE)]) rfl ?_
    show Steps p.tables e below (T10.setTop (mkF m 19 #[.val .null, .val (.ref b2_1), .val (.int (3 : Int32)), .val (.int (2 : Int32)), .val (.ref k_CHINESE)] [])) _
    refine XS.aload X10.here hx rfl (hb hby own_d_prog_9_method_6_19) rfl rfl ?_
    show Steps p.tables e below (T10.setTop (mkF m 21 #[.val .null, .val (.ref b2_1), .val (.int (3 : Int32)), .val (.int (2 : Int32)), .val (.ref k_CHINESE)] [(.ref k_CHINESE)])) _
    refine st12 _ ?_
    show Steps p.tables e below (T12.setTop (mkF m 24 #[.val .null, .val (.ref b2_1), .val (.int (3 : Int32)), .val (.int (2 : Int32)), .val (.ref k_CHINESE)] [(.ref s_CHINESE)])) _
    refine XS.aloadN X12.here hx rfl (hb hby own_d_prog_9_method_6_24) rfl rfl ?_
    show Steps p.tables e below (T12.setTop (mkF m 25 #[.val .null, .val (.ref b2_1), .val (.int (3 : Int32)), .val (.int (2 : Int32)), .val (.ref k_CHINESE)] [.null, (.ref s_CHINESE)])) _
    refine st13.trans ?_
    show Steps p.tables e below (T13.setTop (mkF m 28 #[.val .null, .val (.ref b2_1), .val (.int (3 : Int32)), .val (.int (2 : Int32)), .val (.ref k_CHINESE)] [(.int (0 : Int32))])) _
    refine XS.ifYes X13.here hx rfl (pc0 := 28) (pc' := 37) rfl (hb hby own_d_prog_9_method_6_28) rfl ((if0 _ _).trans (teq (rfl : (0 : Int32) = (0 : Int32))).1) (by decide) (by decide) ?_
    show Steps p.tables e below (T13.setTop (mkF m 37 #[.val .null, .val (.ref b2_1), .val (.int (3 : Int32)), .val (.int (2 : Int32)), .val (.ref k_CHINESE)] [])) _
    refine XS.iinc X13.here hx rfl (hb hby own_d_prog_9_method_6_37) rfl (l' := #[.val .null, .val (.ref b2_1), .val (.int (3 : Int32)), .val (.int (3 : Int32)), .val (.ref k_CHINESE)]) rfl ?_
    show Steps p.tables e below (T13.setTop (mkF m 40 #[.val .null, .val (.ref b2_1), .val (.int (3 : Int32)), .val (.int (3 : Int32)), .val (.ref k_CHINESE)] [])) _
    refine XS.goto X13.here hx rfl (pc0 := 40) (pc' := 9) rfl (hb hby own_d_prog_9_method_6_40) (by decide) (by decide) ?_
    show Steps p.tables e below (T13.setTop (mkF m 9 #[.val .null, .val (.ref b2_1), .val (.int (3 : Int32)), .val (.int (3 : Int32)), .val (.ref k_CHINESE)] [])) _
    refine XS.iloadN X13.here hx rfl (hb hby own_d_prog_9_method_6_9) rfl ?_
    show Steps p.tables e below (T13.setTop (mkF m 10 #[.val .null, .val (.ref b2_1), .val (.int (3 : Int32)), .val (.int (3 : Int32)), .val (.ref k_CHINESE)] [(.int (3 : Int32))])) _
    refine XS.iloadN X13.here hx rfl (hb hby own_d_prog_9_method_6_10) rfl ?_
    show Steps p.tables e below (T13.setTop (mkF m 11 #[.val .null, .val (.ref b2_1), .val (.int (3 : Int32)), .val (.int (3 : Int32)), .val (.ref k_CHINESE)] [(.int (3 : Int32)), (.int (3 : Int32))])) _
    refine XS.icmpYes X13.here hx rfl (pc0 := 11) (pc' := 43) rfl (hb hby own_d_prog_9_method_6_11) rfl (flt (by decide : ¬ ((3 : Int32) < (3 : Int32)))).2.1 (by decide) (by decide) ?_
    show Steps p.tables e below (T13.setTop (mkF m 43 #[.val .null, .val (.ref b2_1), .val (.int (3 : Int32)), .val (.int (3 : Int32)), .val (.ref k_CHINESE)] [])) _
    refine st14 _ ?_
    show Steps p.tables e below (T14.setTop (mkF m 46 #[.val .null, .val (.ref b2_1), .val (.int (3 : Int32)), .val (.int (3 : Int32)), .val (.ref k_CHINESE)] [(.ref k_EMPTY)])) _
    jvm_step X14.here [X14.here.top, hx, (hb hby own_d_prog_9_method_6_46), X14.method', Bd.returns, Value.isRef, FieldType.isReference]
    first | (intro acts; rw [hr _ acts rfl rfl rfl]) | rw [hr _ _ rfl rfl rfl]
    exact Steps.refl _
  · show own_Qrm_fcN Z G1 G3 k_EMPTY k_ENGLISH s_ENGLISH t_ENGLISH kb_ENGLISH k_JAPANESE s_JAPANESE t_JAPANESE kb_JAPANESE k_CHINESE s_CHINESE t_CHINESE kb_CHINESE k_VALUES kv_VALUES  h0 n0 _ T14.heap _
    rw [e14]
    exact ⟨rfl, N14, Kp2⟩
theorem own_pd13 : parseMethodDescriptor "(Ljava/lang/String;)Ljava/util/Optional;" = some ⟨[(.object "java/lang/String")], some (.object "java/util/Optional")⟩ := by decide +kernel
theorem own_eflaw4 (m : MethodId) (p1 : Int32) (p2 : Int32) (p3 : Int32) (p4 : Int32) : entryFrame m #[(.int p1), (.int p2), (.int p3), (.int p4)] maxLocals = mkF m 0 #[.val (.int p1), .val (.int p2), .val (.int p3), .val (.int p4), .unset, .unset, .unset, .unset, .unset, .unset, .unset, .unset] [] := by first | (simp [entryFrame, mkF, argsToLocals, Value.category, maxLocals]; done) | rfl
set_option maxRecDepth 65536 in
set_option maxHeartbeats 40000000 in
theorem own_law4 (l : Launch) (Z : State) (a0 : Array Value) (hw : ∀ d ∈ tables_1, d.before a0 Z = true) (ws : List Jvm.Cond) (G1 : Int32) (G3 : Value) (k_EMPTY : Addr) (k_ENGLISH : Addr) (s_ENGLISH : Addr) (t_ENGLISH : Addr) (kb_ENGLISH : ClassId) (k_JAPANESE : Addr) (s_JAPANESE : Addr) (t_JAPANESE : Addr) (kb_JAPANESE : ClassId) (k_CHINESE : Addr) (s_CHINESE : Addr) (t_CHINESE : Addr) (kb_CHINESE : ClassId) (k_VALUES : Addr) (kv_VALUES : ClassId) (gl : own_Glob Z G1 G3 k_EMPTY k_ENGLISH s_ENGLISH t_ENGLISH kb_ENGLISH k_JAPANESE s_JAPANESE t_JAPANESE kb_JAPANESE k_CHINESE s_CHINESE t_CHINESE kb_CHINESE k_VALUES kv_VALUES) (p1 : Int32) (p2 : Int32) (p3 : Int32) (p4 : Int32) (h0 : Heap) (n0 : Nat) (Z0 : n0 ≤ h0.size) (X00 : Old Z n0 h0) (hk : own_md p1 = 4) :
    MetFree l x (head1 (Jvm.Cond.code x code maxLocals ret :: ws) room_1) (fun a U => a = #[(.int p1), (.int p2), (.int p3), (.int p4)] ∧ Z.Warmed39 U.vm ∧ U.heap = h0 ∧ CHv Z consts_1 U.vm h0) (fun _ _ _ _ _ => True) (fun _ U o U' => ∃ v L, o = .returned v ∧ own_Qlaw h0 n0 v U'.heap L ∧ ReturnedEndW U o U' L room_1.cells room_1.slots) := by
  refine MetFree.of_bodySF (plainFor_of_name own_pn8) hisR ?_
  intro p e s m args below meth c s₁ Bd hml0 hP hK
  obtain ⟨rfl, hZ, hh, hCH⟩ := hP
  obtain ⟨O_CS, P_CS, O_SI, P_SI, O_EMPTY, E_EMPTY, F_EMPTY, O_ENGLISH, E_ENGLISH, Fs_ENGLISH, Es_ENGLISH, Fc_ENGLISH, Fv_ENGLISH, V_ENGLISH, O_JAPANESE, E_JAPANESE, Fs_JAPANESE, Es_JAPANESE, Fc_JAPANESE, Fv_JAPANESE, V_JAPANESE, O_CHINESE, E_CHINESE, Fs_CHINESE, Es_CHINESE, Fc_CHINESE, Fv_CHINESE, V_CHINESE, O_VALUES, E_VALUES, V_VALUES⟩ := id gl
  have hx := Bd.exec
  have hby := Bd.bytes
  have hml : c.maxLocals = 12 := hml0
  have hown : s.vm.findClass "com/example/dragoman/dragoman/core/LanguageForCodePinLaw" = some m.cls := findClass_of_methodNamed Bd.named
  have hnm := (name_of_methodNamed Bd.named Bd.method).1
  have X0 : Stand p l e room_1 s m #[(.int p1), (.int p2), (.int p3), (.int p4)] below meth c s₁ [] 0 0 := Stand.of_body Bd
  have e0 : s₁.heap = h0 := by rw [← hh, Bd.state]; rfl
  have N0 := Fr.nil n0
  have pre0 : ∀ t, Steps p.tables e below (s₁.setTop (mkF m 0 #[.val (.int p1), .val (.int p2), .val (.int p3), .val (.int p4), .unset, .unset, .unset, .unset, .unset, .unset, .unset, .unset] [])) t → Steps p.tables e below (s₁.setTop (entryFrame m #[(.int p1), (.int p2), (.int p3), (.int p4)] maxLocals)) t := fun t k => castTop (own_eflaw4 m p1 p2 p3 p4) k
  obtain ⟨_, _, ⟨T1, L1, k1, n1⟩, -, X1, hSq1, hgr1, ⟨Lc1, hQ1, l1, y1, z1, hCr1⟩, st1⟩ := callSS X0 hx (y := (⟨"com/example/dragoman/dragoman/core/LanguageForCodePinLaw", "pick", "(I)C"⟩ : MethodName)) hown (mvT hZ (hw _ (List.mem_of_getElem? (i := 0) rfl))) (mvT hZ (hw _ (List.mem_of_getElem? (i := 1) rfl))) (mvT hZ (hw _ (List.mem_of_getElem? (i := 2) rfl))) (mvT hZ (hw _ (List.mem_of_getElem? (i := 3) rfl))) (by decide) (backOfSH (s := s) (vm0 := s.vm) (W := 0) (own_rm_pk l Z a0 hw [] G1 G3 k_EMPTY k_ENGLISH s_ENGLISH t_ENGLISH kb_ENGLISH k_JAPANESE s_JAPANESE t_JAPANESE kb_JAPANESE k_CHINESE s_CHINESE t_CHINESE kb_CHINESE k_VALUES kv_VALUES gl p2 h0 n0 Z0 X00 ) hZ (hw _ (List.mem_of_getElem? (i := 3) rfl)) (hw _ (List.mem_of_getElem? (i := 2) rfl)) (by decide) (by decide) (own_EW hw) hCH) (g := (mkF m 7 #[.val (.int p1), .val (.int p2), .val (.int p3), .val (.int p4), .val (.int (own_md p1)), .unset, .unset, .unset, .unset, .unset, .unset, .unset] [(.int p2)])) rfl (by rw [hml]; rfl) (argsL := [(.int p2)]) (rest := []) (lenOf own_pd7 rfl) rfl (by show 2 * 0 + _ ≤ _; exact Nat.le_of_eq rfl) (hb hby at_7) (fun _ _ => ⟨rfl, e0, (by decide : 0 + 2 ≤ _), (by decide : 0 + 28 ≤ _)⟩)
  dsimp only [Pt.U, Pt.locs, Pt.cells, Pt.slots] at X1 l1 y1 z1 st1 hQ1 hSq1 hgr1 hCr1
  subst y1 z1
  obtain ⟨Xw1, hS1, hZ1, hown1⟩ := rebS (vm0 := s.vm) ((State.WarmedH.refl s).since 0) (by rw [e0]; exact (Nat.zero_le _)) X1 hSq1 hgr1 hZ hown
  obtain ⟨rfl, Nq1, Kq1⟩ := hQ1
  have N1 : Fr n0 L1 := by rw [l1]; exact Fr.app N0 Nq1
  have Kp2 : Keep h0 T1.heap [] := (Keep.refl h0 []).trans Kq1 all0
  have Old3 : Old Z n0 T1.heap := X00.keep Kq1 all0
  obtain ⟨_, _, ⟨T4, L4, k4, n4⟩, -, X4, hSq4, hgr4, ⟨Lc4, hQ4, l4, y4, z4, hCr4⟩, st4⟩ := callSS Xw1 hx (y := (⟨"com/example/dragoman/dragoman/core/LanguageForCodePinLaw", "pick", "(I)C"⟩ : MethodName)) hown1 (mvT hZ1 (hw _ (List.mem_of_getElem? (i := 0) rfl))) (mvT hZ1 (hw _ (List.mem_of_getElem? (i := 1) rfl))) (mvT hZ1 (hw _ (List.mem_of_getElem? (i := 2) rfl))) (mvT hZ1 (hw _ (List.mem_of_getElem? (i := 3) rfl))) (by decide) (backOfSH (s := s) (vm0 := T1.vm) (W := 0) (own_rm_pk l Z a0 hw [] G1 G3 k_EMPTY k_ENGLISH s_ENGLISH t_ENGLISH kb_ENGLISH k_JAPANESE s_JAPANESE t_JAPANESE kb_JAPANESE k_CHINESE s_CHINESE t_CHINESE kb_CHINESE k_VALUES kv_VALUES gl p3 T1.heap n0 (Nat.le_trans Z0 Kp2.1) Old3 ) hZ1 (hw _ (List.mem_of_getElem? (i := 3) rfl)) (hw _ (List.mem_of_getElem? (i := 2) rfl)) (by decide) (by decide) (own_EW hw) hCr1.1) (g := (mkF m 13 #[.val (.int p1), .val (.int p2), .val (.int p3), .val (.int p4), .val (.int (own_md p1)), .val (.int (own_pk p2)), .unset, .unset, .unset, .unset, .unset, .unset] [(.int p3)])) rfl (by rw [hml]; rfl) (argsL := [(.int p3)]) (rest := []) (lenOf own_pd7 rfl) rfl (by show 2 * 0 + _ ≤ _; exact Nat.le_of_eq rfl) (hb hby at_13) (fun _ _ => ⟨rfl, rfl, (by decide : 2 + 2 ≤ _), (by decide : 28 + 28 ≤ _)⟩)
  dsimp only [Pt.U, Pt.locs, Pt.cells, Pt.slots] at X4 l4 y4 z4 st4 hQ4 hSq4 hgr4 hCr4
  subst y4 z4
  obtain ⟨Xw4, hS4, hZ4, hown4⟩ := rebS (vm0 := T1.vm) hS1 (Nat.le_refl _) X4 hSq4 hgr4 hZ1 hown1
  obtain ⟨rfl, Nq4, Kq4⟩ := hQ4
  have N4 : Fr n0 L4 := by rw [l4]; exact Fr.app N1 Nq4
  have Kp5 : Keep h0 T4.heap [] := Kp2.trans Kq4 all0
  have Old6 : Old Z n0 T4.heap := Old3.keep Kq4 all0
  obtain ⟨_, _, ⟨T7, L7, k7, n7⟩, -, X7, hSq7, hgr7, ⟨Lc7, hQ7, l7, y7, z7, hCr7⟩, st7⟩ := callSS Xw4 hx (y := (⟨"com/example/dragoman/dragoman/core/LanguageForCodePinLaw", "pick", "(I)C"⟩ : MethodName)) hown4 (mvT hZ4 (hw _ (List.mem_of_getElem? (i := 0) rfl))) (mvT hZ4 (hw _ (List.mem_of_getElem? (i := 1) rfl))) (mvT hZ4 (hw _ (List.mem_of_getElem? (i := 2) rfl))) (mvT hZ4 (hw _ (List.mem_of_getElem? (i := 3) rfl))) (by decide) (backOfSH (s := s) (vm0 := T4.vm) (W := 0) (own_rm_pk l Z a0 hw [] G1 G3 k_EMPTY k_ENGLISH s_ENGLISH t_ENGLISH kb_ENGLISH k_JAPANESE s_JAPANESE t_JAPANESE kb_JAPANESE k_CHINESE s_CHINESE t_CHINESE kb_CHINESE k_VALUES kv_VALUES gl p4 T4.heap n0 (Nat.le_trans Z0 Kp5.1) Old6 ) hZ4 (hw _ (List.mem_of_getElem? (i := 3) rfl)) (hw _ (List.mem_of_getElem? (i := 2) rfl)) (by decide) (by decide) (own_EW hw) hCr4.1) (g := (mkF m 19 #[.val (.int p1), .val (.int p2), .val (.int p3), .val (.int p4), .val (.int (own_md p1)), .val (.int (own_pk p2)), .val (.int (own_pk p3)), .unset, .unset, .unset, .unset, .unset] [(.int p4)])) rfl (by rw [hml]; rfl) (argsL := [(.int p4)]) (rest := []) (lenOf own_pd7 rfl) rfl (by show 2 * 0 + _ ≤ _; exact Nat.le_of_eq rfl) (hb hby at_19) (fun _ _ => ⟨rfl, rfl, (by decide : 4 + 2 ≤ _), (by decide : 56 + 28 ≤ _)⟩)
  dsimp only [Pt.U, Pt.locs, Pt.cells, Pt.slots] at X7 l7 y7 z7 st7 hQ7 hSq7 hgr7 hCr7
  subst y7 z7
  obtain ⟨Xw7, hS7, hZ7, hown7⟩ := rebS (vm0 := T4.vm) hS4 (Nat.le_refl _) X7 hSq7 hgr7 hZ4 hown4
  obtain ⟨rfl, Nq7, Kq7⟩ := hQ7
  have N7 : Fr n0 L7 := by rw [l7]; exact Fr.app N4 Nq7
  have Kp8 : Keep h0 T7.heap [] := Kp5.trans Kq7 all0
  have Old9 : Old Z n0 T7.heap := Old6.keep Kq7 all0
  obtain ⟨_, _, ⟨T10, L10, k10, n10⟩, -, X10, ⟨Lc10, hQ10, l10, y10, z10⟩, st10⟩ := Jvm.LawKit.callS Xw7 hx (y := (⟨"com/example/dragoman/dragoman/core/Language", "forCode", "(Ljava/lang/String;)Ljava/util/Optional;"⟩ : MethodName)) hown7 (mvT hZ7 (hw _ (List.mem_of_getElem? (i := 26) rfl))) (mvT hZ7 (hw _ (List.mem_of_getElem? (i := 27) rfl))) (mvT hZ7 (hw _ (List.mem_of_getElem? (i := 28) rfl))) (mvT hZ7 (hw _ (List.mem_of_getElem? (i := 29) rfl))) (by decide) (backOf (W := 0) (own_rm_fcN l Z a0 hw [] G1 G3 k_EMPTY k_ENGLISH s_ENGLISH t_ENGLISH kb_ENGLISH k_JAPANESE s_JAPANESE t_JAPANESE kb_JAPANESE k_CHINESE s_CHINESE t_CHINESE kb_CHINESE k_VALUES kv_VALUES gl  T7.heap n0 (Nat.le_trans Z0 Kp8.1) Old9 ) hZ7 (hw _ (List.mem_of_getElem? (i := 29) rfl)) (hw _ (List.mem_of_getElem? (i := 28) rfl)) (by decide) (by decide)) (g := (mkF m 234 #[.val (.int p1), .val (.int p2), .val (.int p3), .val (.int p4), .val (.int (own_md p1)), .val (.int (own_pk p2)), .val (.int (own_pk p3)), .val (.int (own_pk p4)), .val .null, .val (.int (-1 : Int32)), .val .null, .unset] [.null])) rfl (by rw [hml]; rfl) (argsL := [.null]) (rest := []) (lenOf own_pd13 rfl) rfl (by show 2 * 0 + _ ≤ _; exact Nat.le_of_eq rfl) (hb hby at_234) (fun _ _ => ⟨rfl, rfl, (by decide : 6 + 1 ≤ _), (by decide : 84 + 3 ≤ _)⟩)
  dsimp only [Pt.U, Pt.locs, Pt.cells, Pt.slots] at X10 l10 y10 z10 st10 hQ10
  subst y10 z10
  obtain ⟨rfl, Nq10, Kq10⟩ := hQ10
  have N10 : Fr n0 L10 := by rw [l10]; exact Fr.app N7 Nq10
  have Kp11 : Keep h0 T10.heap [] := Kp8.trans Kq10 all0
  have Old12 : Old Z n0 T10.heap := Old9.keep Kq10 all0
  obtain ⟨cq13, kq13, q13a, q13b, q13c⟩ := isOf hZ7 rfl (E_EMPTY.ext Old12.2)
  obtain ⟨_, _, ⟨T13, L13, k13, n13⟩, -, X13, ⟨Lc13, hQ13, l13, y13, z13⟩, st13⟩ := X10.virtualBack hx (y := (⟨"java/util/Optional", "orElse", "(Ljava/lang/Object;)Ljava/lang/Object;"⟩ : MethodName)) (z := (⟨"java/util/Optional", "orElse", "(Ljava/lang/Object;)Ljava/lang/Object;"⟩ : MethodName)) hown7 (mvT hZ7 (hw _ (List.mem_of_getElem? (i := 66) rfl))) (mvT hZ7 (hw _ (List.mem_of_getElem? (i := 67) rfl))) (notFace_of_selects (args := #[]) (mvT hZ7 (hw _ (List.mem_of_getElem? (i := 69) rfl)))) (mvT hZ7 (hw _ (List.mem_of_getElem? (i := 69) rfl))) (mvT hZ7 (hw _ (List.mem_of_getElem? (i := 68) rfl))) (by decide) (backOf (W := 0) (own_rm_oeN l Z a0 hw [] G1 G3 k_EMPTY k_ENGLISH s_ENGLISH t_ENGLISH kb_ENGLISH k_JAPANESE s_JAPANESE t_JAPANESE kb_JAPANESE k_CHINESE s_CHINESE t_CHINESE kb_CHINESE k_VALUES kv_VALUES gl k_EMPTY T10.heap n0 (Nat.le_trans Z0 Kp11.1) (F_EMPTY.ext Old12.2)) hZ7 (hw _ (List.mem_of_getElem? (i := 70) rfl)) (hw _ (List.mem_of_getElem? (i := 63) rfl)) (by decide) (by decide)) q13a q13c (g := (mkF m 238 #[.val (.int p1), .val (.int p2), .val (.int p3), .val (.int p4), .val (.int (own_md p1)), .val (.int (own_pk p2)), .val (.int (own_pk p3)), .val (.int (own_pk p4)), .val .null, .val (.int (-1 : Int32)), .val .null, .unset] [.null, (.ref k_EMPTY)])) rfl (by rw [hml]; rfl) (Steps.refl _) (argsL := [.null]) (rest := []) (lenOf own_pd4 rfl) rfl (by show 2 * 0 + _ ≤ _; exact Nat.le_of_eq rfl) (hb hby at_238) (fun _ _ => ⟨rfl, rfl, (by decide : 7 + 0 ≤ _), (by decide : 87 + 0 ≤ _)⟩)
  dsimp only [Pt.U, Pt.locs, Pt.cells, Pt.slots] at X13 l13 y13 z13 st13 hQ13
  subst y13 z13
  obtain ⟨rfl, Nq13, e13⟩ := hQ13
  have N13 : Fr n0 L13 := by rw [l13]; exact Fr.app N10 Nq13
  obtain ⟨fs, hr, hrun, hended, hREW⟩ := X13.leaveW hS7 (by rw [e13]; exact (Nat.le_trans (Nat.le_refl _) Kq10.1)) (v := some (.int (1 : Int32))) (fun h => by rw [Bd.returns] at h; cases h)
  refine ⟨_, _, pre0 _ ?_, hrun, hended, _, _, rfl, ?_, hREW.1, hREW.2.1, hREW.2.2.1, hREW.2.2.2.mono (by decide) (by decide)⟩
  · show Steps p.tables e below (s₁.setTop (mkF m 0 #[.val (.int p1), .val (.int p2), .val (.int p3), .val (.int p4), .unset, .unset, .unset, .unset, .unset, .unset, .unset, .unset] [])) _
    refine XS.iloadN X0.here hx rfl (hb hby at_0) rfl ?_
    show Steps p.tables e below (s₁.setTop (mkF m 1 #[.val (.int p1), .val (.int p2), .val (.int p3), .val (.int p4), .unset, .unset, .unset, .unset, .unset, .unset, .unset, .unset] [(.int p1)])) _
    refine XS.bipush X0.here hx rfl (hb hby at_1) ?_
    show Steps p.tables e below (s₁.setTop (mkF m 3 #[.val (.int p1), .val (.int p2), .val (.int p3), .val (.int p4), .unset, .unset, .unset, .unset, .unset, .unset, .unset, .unset] [(.int (7 : Int32)), (.int p1)])) _
    refine XS.iand X0.here hx rfl (hb hby at_3) rfl ?_
    show Steps p.tables e below (s₁.setTop (mkF m 4 #[.val (.int p1), .val (.int p2), .val (.int p3), .val (.int p4), .unset, .unset, .unset, .unset, .unset, .unset, .unset, .unset] [(.int (own_md p1))])) _
    refine XS.istore X0.here hx rfl (hb hby at_4) rfl (l' := #[.val (.int p1), .val (.int p2), .val (.int p3), .val (.int p4), .val (.int (own_md p1)), .unset, .unset, .unset, .unset, .unset, .unset, .unset]) rfl ?_
    show Steps p.tables e below (s₁.setTop (mkF m 6 #[.val (.int p1), .val (.int p2), .val (.int p3), .val (.int p4), .val (.int (own_md p1)), .unset, .unset, .unset, .unset, .unset, .unset, .unset] [])) _
    refine XS.iloadN X0.here hx rfl (hb hby at_6) rfl ?_
    show Steps p.tables e below (s₁.setTop (mkF m 7 #[.val (.int p1), .val (.int p2), .val (.int p3), .val (.int p4), .val (.int (own_md p1)), .unset, .unset, .unset, .unset, .unset, .unset, .unset] [(.int p2)])) _
    refine st1.trans ?_
    show Steps p.tables e below (T1.setTop (mkF m 10 #[.val (.int p1), .val (.int p2), .val (.int p3), .val (.int p4), .val (.int (own_md p1)), .unset, .unset, .unset, .unset, .unset, .unset, .unset] [(.int (own_pk p2))])) _
    refine XS.istore Xw1.here hx rfl (hb hby at_10) rfl (l' := #[.val (.int p1), .val (.int p2), .val (.int p3), .val (.int p4), .val (.int (own_md p1)), .val (.int (own_pk p2)), .unset, .unset, .unset, .unset, .unset, .unset]) rfl ?_
    show Steps p.tables e below (T1.setTop (mkF m 12 #[.val (.int p1), .val (.int p2), .val (.int p3), .val (.int p4), .val (.int (own_md p1)), .val (.int (own_pk p2)), .unset, .unset, .unset, .unset, .unset, .unset] [])) _
    refine XS.iloadN Xw1.here hx rfl (hb hby at_12) rfl ?_
    show Steps p.tables e below (T1.setTop (mkF m 13 #[.val (.int p1), .val (.int p2), .val (.int p3), .val (.int p4), .val (.int (own_md p1)), .val (.int (own_pk p2)), .unset, .unset, .unset, .unset, .unset, .unset] [(.int p3)])) _
    refine st4.trans ?_
    show Steps p.tables e below (T4.setTop (mkF m 16 #[.val (.int p1), .val (.int p2), .val (.int p3), .val (.int p4), .val (.int (own_md p1)), .val (.int (own_pk p2)), .unset, .unset, .unset, .unset, .unset, .unset] [(.int (own_pk p3))])) _
    refine XS.istore Xw4.here hx rfl (hb hby at_16) rfl (l' := #[.val (.int p1), .val (.int p2), .val (.int p3), .val (.int p4), .val (.int (own_md p1)), .val (.int (own_pk p2)), .val (.int (own_pk p3)), .unset, .unset, .unset, .unset, .unset]) rfl ?_
    show Steps p.tables e below (T4.setTop (mkF m 18 #[.val (.int p1), .val (.int p2), .val (.int p3), .val (.int p4), .val (.int (own_md p1)), .val (.int (own_pk p2)), .val (.int (own_pk p3)), .unset, .unset, .unset, .unset, .unset] [])) _
    refine XS.iloadN Xw4.here hx rfl (hb hby at_18) rfl ?_
    show Steps p.tables e below (T4.setTop (mkF m 19 #[.val (.int p1), .val (.int p2), .val (.int p3), .val (.int p4), .val (.int (own_md p1)), .val (.int (own_pk p2)), .val (.int (own_pk p3)), .unset, .unset, .unset, .unset, .unset] [(.int p4)])) _
    refine st7.trans ?_
    show Steps p.tables e below (T7.setTop (mkF m 22 #[.val (.int p1), .val (.int p2), .val (.int p3), .val (.int p4), .val (.int (own_md p1)), .val (.int (own_pk p2)), .val (.int (own_pk p3)), .unset, .unset, .unset, .unset, .unset] [(.int (own_pk p4))])) _
    refine XS.istore Xw7.here hx rfl (hb hby at_22) rfl (l' := #[.val (.int p1), .val (.int p2), .val (.int p3), .val (.int p4), .val (.int (own_md p1)), .val (.int (own_pk p2)), .val (.int (own_pk p3)), .val (.int (own_pk p4)), .unset, .unset, .unset, .unset]) rfl ?_
    show Steps p.tables e below (T7.setTop (mkF m 24 #[.val (.int p1), .val (.int p2), .val (.int p3), .val (.int p4), .val (.int (own_md p1)), .val (.int (own_pk p2)), .val (.int (own_pk p3)), .val (.int (own_pk p4)), .unset, .unset, .unset, .unset] [])) _
    refine XS.iload Xw7.here hx rfl (hb hby at_24) rfl ?_
    show Steps p.tables e below (T7.setTop (mkF m 26 #[.val (.int p1), .val (.int p2), .val (.int p3), .val (.int p4), .val (.int (own_md p1)), .val (.int (own_pk p2)), .val (.int (own_pk p3)), .val (.int (own_pk p4)), .unset, .unset, .unset, .unset] [(.int (own_md p1))])) _
    refine XS.iconst Xw7.here hx rfl (hb hby at_26) ?_
    show Steps p.tables e below (T7.setTop (mkF m 27 #[.val (.int p1), .val (.int p2), .val (.int p3), .val (.int p4), .val (.int (own_md p1)), .val (.int (own_pk p2)), .val (.int (own_pk p3)), .val (.int (own_pk p4)), .unset, .unset, .unset, .unset] [(.int (4 : Int32)), (.int (own_md p1))])) _
    refine XS.icmpNo Xw7.here hx rfl (hb hby at_27) rfl (teq (hk : (own_md p1) = (4 : Int32))).2 ?_
    show Steps p.tables e below (T7.setTop (mkF m 30 #[.val (.int p1), .val (.int p2), .val (.int p3), .val (.int p4), .val (.int (own_md p1)), .val (.int (own_pk p2)), .val (.int (own_pk p3)), .val (.int (own_pk p4)), .unset, .unset, .unset, .unset] [])) _
    refine XS.aconstNull Xw7.here hx rfl (hb hby at_30) ?_
    show Steps p.tables e below (T7.setTop (mkF m 31 #[.val (.int p1), .val (.int p2), .val (.int p3), .val (.int p4), .val (.int (own_md p1)), .val (.int (own_pk p2)), .val (.int (own_pk p3)), .val (.int (own_pk p4)), .unset, .unset, .unset, .unset] [.null])) _
    refine XS.astore Xw7.here hx rfl (hb hby at_31) rfl rfl (l' := #[.val (.int p1), .val (.int p2), .val (.int p3), .val (.int p4), .val (.int (own_md p1)), .val (.int (own_pk p2)), .val (.int (own_pk p3)), .val (.int (own_pk p4)), .val .null, .unset, .unset, .unset]) rfl ?_
    show Steps p.tables e below (T7.setTop (mkF m 33 #[.val (.int p1), .val (.int p2), .val (.int p3), .val (.int p4), .val (.int (own_md p1)), .val (.int (own_pk p2)), .val (.int (own_pk p3)), .val (.int (own_pk p4)), .val .null, .unset, .unset, .unset] [])) _
    refine XS.iconst Xw7.here hx rfl (hb hby at_33) ?_
    show Steps p.tables e below (T7.setTop (mkF m 34 #[.val (.int p1), .val (.int p2), .val (.int p3), .val (.int p4), .val (.int (own_md p1)), .val (.int (own_pk p2)), .val (.int (own_pk p3)), .val (.int (own_pk p4)), .val .null, .unset, .unset, .unset] [(.int (-1 : Int32))])) _
    refine XS.istore Xw7.here hx rfl (hb hby at_34) rfl (l' := #[.val (.int p1), .val (.int p2), .val (.int p3), .val (.int p4), .val (.int (own_md p1)), .val (.int (own_pk p2)), .val (.int (own_pk p3)), .val (.int (own_pk p4)), .val .null, .val (.int (-1 : Int32)), .unset, .unset]) rfl ?_
    show Steps p.tables e below (T7.setTop (mkF m 36 #[.val (.int p1), .val (.int p2), .val (.int p3), .val (.int p4), .val (.int (own_md p1)), .val (.int (own_pk p2)), .val (.int (own_pk p3)), .val (.int (own_pk p4)), .val .null, .val (.int (-1 : Int32)), .unset, .unset] [])) _
    refine XS.goto Xw7.here hx rfl (pc0 := 36) (pc' := 155) rfl (hb hby at_36) (by decide) (by decide) ?_
    show Steps p.tables e below (T7.setTop (mkF m 155 #[.val (.int p1), .val (.int p2), .val (.int p3), .val (.int p4), .val (.int (own_md p1)), .val (.int (own_pk p2)), .val (.int (own_pk p3)), .val (.int (own_pk p4)), .val .null, .val (.int (-1 : Int32)), .unset, .unset] [])) _
    refine XS.aconstNull Xw7.here hx rfl (hb hby at_155) ?_
    show Steps p.tables e below (T7.setTop (mkF m 156 #[.val (.int p1), .val (.int p2), .val (.int p3), .val (.int p4), .val (.int (own_md p1)), .val (.int (own_pk p2)), .val (.int (own_pk p3)), .val (.int (own_pk p4)), .val .null, .val (.int (-1 : Int32)), .unset, .unset] [.null])) _
    refine XS.astore Xw7.here hx rfl (hb hby at_156) rfl rfl (l' := #[.val (.int p1), .val (.int p2), .val (.int p3), .val (.int p4), .val (.int (own_md p1)), .val (.int (own_pk p2)), .val (.int (own_pk p3)), .val (.int (own_pk p4)), .val .null, .val (.int (-1 : Int32)), .val .null, .unset]) rfl ?_
    show Steps p.tables e below (T7.setTop (mkF m 158 #[.val (.int p1), .val (.int p2), .val (.int p3), .val (.int p4), .val (.int (own_md p1)), .val (.int (own_pk p2)), .val (.int (own_pk p3)), .val (.int (own_pk p4)), .val .null, .val (.int (-1 : Int32)), .val .null, .unset] [])) _
    refine XS.aload Xw7.here hx rfl (hb hby at_158) rfl rfl ?_
    show Steps p.tables e below (T7.setTop (mkF m 160 #[.val (.int p1), .val (.int p2), .val (.int p3), .val (.int p4), .val (.int (own_md p1)), .val (.int (own_pk p2)), .val (.int (own_pk p3)), .val (.int (own_pk p4)), .val .null, .val (.int (-1 : Int32)), .val .null, .unset] [.null])) _
    refine XS.ifnullYes Xw7.here hx rfl (pc0 := 160) (pc' := 232) rfl (hb hby at_160) rfl (by decide) (by decide) ?_
    show Steps p.tables e below (T7.setTop (mkF m 232 #[.val (.int p1), .val (.int p2), .val (.int p3), .val (.int p4), .val (.int (own_md p1)), .val (.int (own_pk p2)), .val (.int (own_pk p3)), .val (.int (own_pk p4)), .val .null, .val (.int (-1 : Int32)), .val .null, .unset] [])) _
    refine XS.aload Xw7.here hx rfl (hb hby at_232) rfl rfl ?_
    show Steps p.tables e below (T7.setTop (mkF m 234 #[.val (.int p1), .val (.int p2), .val (.int p3), .val (.int p4), .val (.int (own_md p1)), .val (.int (own_pk p2)), .val (.int (own_pk p3)), .val (.int (own_pk p4)), .val .null, .val (.int (-1 : Int32)), .val .null, .unset] [.null])) _
    refine st10 _ ?_
    show Steps p.tables e below (T10.setTop (mkF m 237 #[.val (.int p1), .val (.int p2), .val (.int p3), .val (.int p4), .val (.int (own_md p1)), .val (.int (own_pk p2)), .val (.int (own_pk p3)), .val (.int (own_pk p4)), .val .null, .val (.int (-1 : Int32)), .val .null, .unset] [(.ref k_EMPTY)])) _
    refine XS.aconstNull X10.here hx rfl (hb hby at_237) ?_
    show Steps p.tables e below (T10.setTop (mkF m 238 #[.val (.int p1), .val (.int p2), .val (.int p3), .val (.int p4), .val (.int (own_md p1)), .val (.int (own_pk p2)), .val (.int (own_pk p3)), .val (.int (own_pk p4)), .val .null, .val (.int (-1 : Int32)), .val .null, .unset] [.null, (.ref k_EMPTY)])) _
    refine st13.trans ?_
    show Steps p.tables e below (T13.setTop (mkF m 241 #[.val (.int p1), .val (.int p2), .val (.int p3), .val (.int p4), .val (.int (own_md p1)), .val (.int (own_pk p2)), .val (.int (own_pk p3)), .val (.int (own_pk p4)), .val .null, .val (.int (-1 : Int32)), .val .null, .unset] [.null])) _
    refine X13.checkcastNull hx (g := (mkF m 241 #[.val (.int p1), .val (.int p2), .val (.int p3), .val (.int p4), .val (.int (own_md p1)), .val (.int (own_pk p2)), .val (.int (own_pk p3)), .val (.int (own_pk p4)), .val .null, .val (.int (-1 : Int32)), .val .null, .unset] [.null])) rfl rfl (hb hby at_241) _ ?_
    show Steps p.tables e below (T13.setTop (mkF m 244 #[.val (.int p1), .val (.int p2), .val (.int p3), .val (.int p4), .val (.int (own_md p1)), .val (.int (own_pk p2)), .val (.int (own_pk p3)), .val (.int (own_pk p4)), .val .null, .val (.int (-1 : Int32)), .val .null, .unset] [.null])) _
    refine XS.astore X13.here hx rfl (hb hby at_244) rfl rfl (l' := #[.val (.int p1), .val (.int p2), .val (.int p3), .val (.int p4), .val (.int (own_md p1)), .val (.int (own_pk p2)), .val (.int (own_pk p3)), .val (.int (own_pk p4)), .val .null, .val (.int (-1 : Int32)), .val .null, .val .null]) rfl ?_
    show Steps p.tables e below (T13.setTop (mkF m 246 #[.val (.int p1), .val (.int p2), .val (.int p3), .val (.int p4), .val (.int (own_md p1)), .val (.int (own_pk p2)), .val (.int (own_pk p3)), .val (.int (own_pk p4)), .val .null, .val (.int (-1 : Int32)), .val .null, .val .null] [])) _
    refine XS.aload X13.here hx rfl (hb hby at_246) rfl rfl ?_
    show Steps p.tables e below (T13.setTop (mkF m 248 #[.val (.int p1), .val (.int p2), .val (.int p3), .val (.int p4), .val (.int (own_md p1)), .val (.int (own_pk p2)), .val (.int (own_pk p3)), .val (.int (own_pk p4)), .val .null, .val (.int (-1 : Int32)), .val .null, .val .null] [.null])) _
    refine XS.aload X13.here hx rfl (hb hby at_248) rfl rfl ?_
    show Steps p.tables e below (T13.setTop (mkF m 250 #[.val (.int p1), .val (.int p2), .val (.int p3), .val (.int p4), .val (.int (own_md p1)), .val (.int (own_pk p2)), .val (.int (own_pk p3)), .val (.int (own_pk p4)), .val .null, .val (.int (-1 : Int32)), .val .null, .val .null] [.null, .null])) _
    refine Jvm.RoadKit.acmp (g := (mkF m 250 #[.val (.int p1), .val (.int p2), .val (.int p3), .val (.int p4), .val (.int (own_md p1)), .val (.int (own_pk p2)), .val (.int (own_pk p3)), .val (.int (own_pk p4)), .val .null, .val (.int (-1 : Int32)), .val .null, .val .null] [.null, .null])) X13 hx rfl rfl rfl (pc0 := 250) (pc' := 253) (same := true) rfl (hb hby at_250) rfl (decide_eq_true rfl) (by decide) (by decide) ?_
    show Steps p.tables e below (T13.setTop (mkF m 253 #[.val (.int p1), .val (.int p2), .val (.int p3), .val (.int p4), .val (.int (own_md p1)), .val (.int (own_pk p2)), .val (.int (own_pk p3)), .val (.int (own_pk p4)), .val .null, .val (.int (-1 : Int32)), .val .null, .val .null] [])) _
    refine XS.iconst X13.here hx rfl (hb hby at_253) ?_
    show Steps p.tables e below (T13.setTop (mkF m 254 #[.val (.int p1), .val (.int p2), .val (.int p3), .val (.int p4), .val (.int (own_md p1)), .val (.int (own_pk p2)), .val (.int (own_pk p3)), .val (.int (own_pk p4)), .val .null, .val (.int (-1 : Int32)), .val .null, .val .null] [(.int (1 : Int32))])) _
    refine XS.goto X13.here hx rfl (pc0 := 254) (pc' := 258) rfl (hb hby at_254) (by decide) (by decide) ?_
    show Steps p.tables e below (T13.setTop (mkF m 258 #[.val (.int p1), .val (.int p2), .val (.int p3), .val (.int p4), .val (.int (own_md p1)), .val (.int (own_pk p2)), .val (.int (own_pk p3)), .val (.int (own_pk p4)), .val .null, .val (.int (-1 : Int32)), .val .null, .val .null] [(.int (1 : Int32))])) _
    exact retN X13 hx (t := .boolean) Bd.returns (by simp) (hb hby at_258) hr
  · show own_Qlaw h0 n0 _ T13.heap _
    exact ⟨rfl, N13⟩
theorem own_pd14 : parseMethodDescriptor "([C)V" = some ⟨[(.array .char)], none⟩ := by decide +kernel
theorem own_eflaw0 (m : MethodId) (p1 : Int32) (p2 : Int32) (p3 : Int32) (p4 : Int32) : entryFrame m #[(.int p1), (.int p2), (.int p3), (.int p4)] maxLocals = mkF m 0 #[.val (.int p1), .val (.int p2), .val (.int p3), .val (.int p4), .unset, .unset, .unset, .unset, .unset, .unset, .unset, .unset] [] := by first | (simp [entryFrame, mkF, argsToLocals, Value.category, maxLocals]; done) | rfl
set_option maxRecDepth 65536 in
set_option maxHeartbeats 40000000 in
theorem own_law0 (l : Launch) (Z : State) (a0 : Array Value) (hw : ∀ d ∈ tables_1, d.before a0 Z = true) (ws : List Jvm.Cond) (G1 : Int32) (G3 : Value) (k_EMPTY : Addr) (k_ENGLISH : Addr) (s_ENGLISH : Addr) (t_ENGLISH : Addr) (kb_ENGLISH : ClassId) (k_JAPANESE : Addr) (s_JAPANESE : Addr) (t_JAPANESE : Addr) (kb_JAPANESE : ClassId) (k_CHINESE : Addr) (s_CHINESE : Addr) (t_CHINESE : Addr) (kb_CHINESE : ClassId) (k_VALUES : Addr) (kv_VALUES : ClassId) (gl : own_Glob Z G1 G3 k_EMPTY k_ENGLISH s_ENGLISH t_ENGLISH kb_ENGLISH k_JAPANESE s_JAPANESE t_JAPANESE kb_JAPANESE k_CHINESE s_CHINESE t_CHINESE kb_CHINESE k_VALUES kv_VALUES) (p1 : Int32) (p2 : Int32) (p3 : Int32) (p4 : Int32) (h0 : Heap) (n0 : Nat) (Z0 : n0 ≤ h0.size) (X00 : Old Z n0 h0) (hk : own_md p1 = 0) :
    MetFree l x (head1 (Jvm.Cond.code x code maxLocals ret :: ws) room_1) (fun a U => a = #[(.int p1), (.int p2), (.int p3), (.int p4)] ∧ Z.Warmed39 U.vm ∧ U.heap = h0 ∧ CHv Z consts_1 U.vm h0) (fun _ _ _ _ _ => True) (fun _ U o U' => ∃ v L, o = .returned v ∧ own_Qlaw h0 n0 v U'.heap L ∧ ReturnedEndW U o U' L room_1.cells room_1.slots) := by
  refine MetFree.of_bodySF (plainFor_of_name own_pn8) hisR ?_
  intro p e s m args below meth c s₁ Bd hml0 hP hK
  obtain ⟨rfl, hZ, hh, hCH⟩ := hP
  obtain ⟨O_CS, P_CS, O_SI, P_SI, O_EMPTY, E_EMPTY, F_EMPTY, O_ENGLISH, E_ENGLISH, Fs_ENGLISH, Es_ENGLISH, Fc_ENGLISH, Fv_ENGLISH, V_ENGLISH, O_JAPANESE, E_JAPANESE, Fs_JAPANESE, Es_JAPANESE, Fc_JAPANESE, Fv_JAPANESE, V_JAPANESE, O_CHINESE, E_CHINESE, Fs_CHINESE, Es_CHINESE, Fc_CHINESE, Fv_CHINESE, V_CHINESE, O_VALUES, E_VALUES, V_VALUES⟩ := id gl
  have hx := Bd.exec
  have hby := Bd.bytes
  have hml : c.maxLocals = 12 := hml0
  have hown : s.vm.findClass "com/example/dragoman/dragoman/core/LanguageForCodePinLaw" = some m.cls := findClass_of_methodNamed Bd.named
  have hnm := (name_of_methodNamed Bd.named Bd.method).1
  have X0 : Stand p l e room_1 s m #[(.int p1), (.int p2), (.int p3), (.int p4)] below meth c s₁ [] 0 0 := Stand.of_body Bd
  have e0 : s₁.heap = h0 := by rw [← hh, Bd.state]; rfl
  have N0 := Fr.nil n0
  have pre0 : ∀ t, Steps p.tables e below (s₁.setTop (mkF m 0 #[.val (.int p1), .val (.int p2), .val (.int p3), .val (.int p4), .unset, .unset, .unset, .unset, .unset, .unset, .unset, .unset] [])) t → Steps p.tables e below (s₁.setTop (entryFrame m #[(.int p1), (.int p2), (.int p3), (.int p4)] maxLocals)) t := fun t k => castTop (own_eflaw0 m p1 p2 p3 p4) k
  obtain ⟨_, _, ⟨T1, L1, k1, n1⟩, -, X1, hSq1, hgr1, ⟨Lc1, hQ1, l1, y1, z1, hCr1⟩, st1⟩ := callSS X0 hx (y := (⟨"com/example/dragoman/dragoman/core/LanguageForCodePinLaw", "pick", "(I)C"⟩ : MethodName)) hown (mvT hZ (hw _ (List.mem_of_getElem? (i := 0) rfl))) (mvT hZ (hw _ (List.mem_of_getElem? (i := 1) rfl))) (mvT hZ (hw _ (List.mem_of_getElem? (i := 2) rfl))) (mvT hZ (hw _ (List.mem_of_getElem? (i := 3) rfl))) (by decide) (backOfSH (s := s) (vm0 := s.vm) (W := 0) (own_rm_pk l Z a0 hw [] G1 G3 k_EMPTY k_ENGLISH s_ENGLISH t_ENGLISH kb_ENGLISH k_JAPANESE s_JAPANESE t_JAPANESE kb_JAPANESE k_CHINESE s_CHINESE t_CHINESE kb_CHINESE k_VALUES kv_VALUES gl p2 h0 n0 Z0 X00 ) hZ (hw _ (List.mem_of_getElem? (i := 3) rfl)) (hw _ (List.mem_of_getElem? (i := 2) rfl)) (by decide) (by decide) (own_EW hw) hCH) (g := (mkF m 7 #[.val (.int p1), .val (.int p2), .val (.int p3), .val (.int p4), .val (.int (own_md p1)), .unset, .unset, .unset, .unset, .unset, .unset, .unset] [(.int p2)])) rfl (by rw [hml]; rfl) (argsL := [(.int p2)]) (rest := []) (lenOf own_pd7 rfl) rfl (by show 2 * 0 + _ ≤ _; exact Nat.le_of_eq rfl) (hb hby at_7) (fun _ _ => ⟨rfl, e0, (by decide : 0 + 2 ≤ _), (by decide : 0 + 28 ≤ _)⟩)
  dsimp only [Pt.U, Pt.locs, Pt.cells, Pt.slots] at X1 l1 y1 z1 st1 hQ1 hSq1 hgr1 hCr1
  subst y1 z1
  obtain ⟨Xw1, hS1, hZ1, hown1⟩ := rebS (vm0 := s.vm) ((State.WarmedH.refl s).since 0) (by rw [e0]; exact (Nat.zero_le _)) X1 hSq1 hgr1 hZ hown
  obtain ⟨rfl, Nq1, Kq1⟩ := hQ1
  have N1 : Fr n0 L1 := by rw [l1]; exact Fr.app N0 Nq1
  have Kp2 : Keep h0 T1.heap [] := (Keep.refl h0 []).trans Kq1 all0
  have Old3 : Old Z n0 T1.heap := X00.keep Kq1 all0
  obtain ⟨_, _, ⟨T4, L4, k4, n4⟩, -, X4, hSq4, hgr4, ⟨Lc4, hQ4, l4, y4, z4, hCr4⟩, st4⟩ := callSS Xw1 hx (y := (⟨"com/example/dragoman/dragoman/core/LanguageForCodePinLaw", "pick", "(I)C"⟩ : MethodName)) hown1 (mvT hZ1 (hw _ (List.mem_of_getElem? (i := 0) rfl))) (mvT hZ1 (hw _ (List.mem_of_getElem? (i := 1) rfl))) (mvT hZ1 (hw _ (List.mem_of_getElem? (i := 2) rfl))) (mvT hZ1 (hw _ (List.mem_of_getElem? (i := 3) rfl))) (by decide) (backOfSH (s := s) (vm0 := T1.vm) (W := 0) (own_rm_pk l Z a0 hw [] G1 G3 k_EMPTY k_ENGLISH s_ENGLISH t_ENGLISH kb_ENGLISH k_JAPANESE s_JAPANESE t_JAPANESE kb_JAPANESE k_CHINESE s_CHINESE t_CHINESE kb_CHINESE k_VALUES kv_VALUES gl p3 T1.heap n0 (Nat.le_trans Z0 Kp2.1) Old3 ) hZ1 (hw _ (List.mem_of_getElem? (i := 3) rfl)) (hw _ (List.mem_of_getElem? (i := 2) rfl)) (by decide) (by decide) (own_EW hw) hCr1.1) (g := (mkF m 13 #[.val (.int p1), .val (.int p2), .val (.int p3), .val (.int p4), .val (.int (own_md p1)), .val (.int (own_pk p2)), .unset, .unset, .unset, .unset, .unset, .unset] [(.int p3)])) rfl (by rw [hml]; rfl) (argsL := [(.int p3)]) (rest := []) (lenOf own_pd7 rfl) rfl (by show 2 * 0 + _ ≤ _; exact Nat.le_of_eq rfl) (hb hby at_13) (fun _ _ => ⟨rfl, rfl, (by decide : 2 + 2 ≤ _), (by decide : 28 + 28 ≤ _)⟩)
  dsimp only [Pt.U, Pt.locs, Pt.cells, Pt.slots] at X4 l4 y4 z4 st4 hQ4 hSq4 hgr4 hCr4
  subst y4 z4
  obtain ⟨Xw4, hS4, hZ4, hown4⟩ := rebS (vm0 := T1.vm) hS1 (Nat.le_refl _) X4 hSq4 hgr4 hZ1 hown1
  obtain ⟨rfl, Nq4, Kq4⟩ := hQ4
  have N4 : Fr n0 L4 := by rw [l4]; exact Fr.app N1 Nq4
  have Kp5 : Keep h0 T4.heap [] := Kp2.trans Kq4 all0
  have Old6 : Old Z n0 T4.heap := Old3.keep Kq4 all0
  obtain ⟨_, _, ⟨T7, L7, k7, n7⟩, -, X7, hSq7, hgr7, ⟨Lc7, hQ7, l7, y7, z7, hCr7⟩, st7⟩ := callSS Xw4 hx (y := (⟨"com/example/dragoman/dragoman/core/LanguageForCodePinLaw", "pick", "(I)C"⟩ : MethodName)) hown4 (mvT hZ4 (hw _ (List.mem_of_getElem? (i := 0) rfl))) (mvT hZ4 (hw _ (List.mem_of_getElem? (i := 1) rfl))) (mvT hZ4 (hw _ (List.mem_of_getElem? (i := 2) rfl))) (mvT hZ4 (hw _ (List.mem_of_getElem? (i := 3) rfl))) (by decide) (backOfSH (s := s) (vm0 := T4.vm) (W := 0) (own_rm_pk l Z a0 hw [] G1 G3 k_EMPTY k_ENGLISH s_ENGLISH t_ENGLISH kb_ENGLISH k_JAPANESE s_JAPANESE t_JAPANESE kb_JAPANESE k_CHINESE s_CHINESE t_CHINESE kb_CHINESE k_VALUES kv_VALUES gl p4 T4.heap n0 (Nat.le_trans Z0 Kp5.1) Old6 ) hZ4 (hw _ (List.mem_of_getElem? (i := 3) rfl)) (hw _ (List.mem_of_getElem? (i := 2) rfl)) (by decide) (by decide) (own_EW hw) hCr4.1) (g := (mkF m 19 #[.val (.int p1), .val (.int p2), .val (.int p3), .val (.int p4), .val (.int (own_md p1)), .val (.int (own_pk p2)), .val (.int (own_pk p3)), .unset, .unset, .unset, .unset, .unset] [(.int p4)])) rfl (by rw [hml]; rfl) (argsL := [(.int p4)]) (rest := []) (lenOf own_pd7 rfl) rfl (by show 2 * 0 + _ ≤ _; exact Nat.le_of_eq rfl) (hb hby at_19) (fun _ _ => ⟨rfl, rfl, (by decide : 4 + 2 ≤ _), (by decide : 56 + 28 ≤ _)⟩)
  dsimp only [Pt.U, Pt.locs, Pt.cells, Pt.slots] at X7 l7 y7 z7 st7 hQ7 hSq7 hgr7 hCr7
  subst y7 z7
  obtain ⟨Xw7, hS7, hZ7, hown7⟩ := rebS (vm0 := T4.vm) hS4 (Nat.le_refl _) X7 hSq7 hgr7 hZ4 hown4
  obtain ⟨rfl, Nq7, Kq7⟩ := hQ7
  have N7 : Fr n0 L7 := by rw [l7]; exact Fr.app N4 Nq7
  have Kp8 : Keep h0 T7.heap [] := Kp5.trans Kq7 all0
  obtain ⟨T9, h9, X9, e9, E9, A9, D9, U9, st9⟩ := newO Xw7 hx hZ7 hown7 (hw _ (List.mem_of_getElem? (i := 4) rfl)) (hw _ (List.mem_of_getElem? (i := 5) rfl)) (hw _ (List.mem_of_getElem? (i := 6) rfl)) rfl (g := (mkF m 44 #[.val (.int p1), .val (.int p2), .val (.int p3), .val (.int p4), .val (.int (own_md p1)), .val (.int (own_pk p2)), .val (.int (own_pk p3)), .val (.int (own_pk p4)), .unset, .unset, .unset, .unset] [])) rfl (hb hby at_44) (by decide) (by decide)
  obtain ⟨b9, g9⟩ : ∃ z, z = T7.heap.size := ⟨_, rfl⟩
  rw [← g9] at A9 D9 U9 st9
  have Kp10 : Keep h0 h9 [] := Kp8.ext E9
  obtain ⟨T11, h11, k11, X11, e11, E11, A11, st11⟩ := newP X9 hx hZ7 (hw _ (List.mem_of_getElem? (i := 7) rfl)) e9 (g := (mkF m 49 #[.val (.int p1), .val (.int p2), .val (.int p3), .val (.int p4), .val (.int (own_md p1)), .val (.int (own_pk p2)), .val (.int (own_pk p3)), .val (.int (own_pk p4)), .unset, .unset, .unset, .unset] [(.int (0 : Int32)), (.ref b9), (.ref b9)])) rfl (hb hby at_49) rfl (by decide) (cap := 0) (by decide) (by decide) (by decide) (by decide)
  obtain ⟨b11, g11⟩ : ∃ z, z = h9.size := ⟨_, rfl⟩
  rw [← g11] at A11 st11
  have Kp12 : Keep h0 h11 [] := Kp10.ext E11
  have Vh13 : Arv Z h11 b11 k11 .char (0 : Int32) [] (.int (0 : Int32)) := (Arv.new A11 (by decide)).pad (pad_rep [] (.int (0 : Int32)) 0)
  have Eh14 : Exa Z h11 b9 "java/lang/String" := (A9.ext E11)
  have Fh15 : Fld Z h9 b9 "java/lang/String" "value" "[B" .null := (D9 (Or.inr (hw _ (List.mem_of_getElem? (i := 20) rfl))) (ty := (.array .byte)) (by decide))
  have Fh16 : Fld Z h11 b9 "java/lang/String" "value" "[B" .null := (Fh15.ext E11)
  have Fh17 : Fld Z h9 b9 "java/lang/String" "coder" "B" (.int (0 : Int32)) := (D9 (Or.inr (hw _ (List.mem_of_getElem? (i := 21) rfl))) (ty := .byte) (by decide))
  have Fh18 : Fld Z h11 b9 "java/lang/String" "coder" "B" (.int (0 : Int32)) := (Fh17.ext E11)
  have gh19 : n0 ≤ b9 := Nat.le_trans (Nat.le_trans Z0 Kp8.1) (Nat.le_of_eq g9.symm)
  have CR20 := ((((CHr.refl hCH).trans hCr1).trans hCr4).trans hCr7).trans (CHr.ext E9 hCr7.1)
  have CH21 : CHv Z consts_1 T7.vm h9 := (CHv.ext E9 hCr7.1)
  have CR22 := CR20.trans (CHr.ext E11 CH21)
  have CH23 : CHv Z consts_1 T7.vm h11 := (CHv.ext E11 CH21)
  obtain ⟨_, _, ⟨T24, L24, k24, n24⟩, -, X24, hSq24, hgr24, ⟨Lc24, hQ24, l24, y24, z24, hCr24⟩, st24⟩ := X11.specialBackS hx (y := (⟨"java/lang/String", "<init>", "([C)V"⟩ : MethodName)) rfl hown7 (mvT hZ7 (hw _ (List.mem_of_getElem? (i := 8) rfl))) (mvT hZ7 (hw _ (List.mem_of_getElem? (i := 9) rfl))) (mvT hZ7 (hw _ (List.mem_of_getElem? (i := 10) rfl))) (by decide) (backOfSH (s := s) (vm0 := T7.vm) (W := 1) (own_rm_i1e l Z a0 hw [] G1 G3 k_EMPTY k_ENGLISH s_ENGLISH t_ENGLISH kb_ENGLISH k_JAPANESE s_JAPANESE t_JAPANESE kb_JAPANESE k_CHINESE s_CHINESE t_CHINESE kb_CHINESE k_VALUES kv_VALUES gl b9 b11 (k11) h11 n0 (Nat.le_trans Z0 Kp12.1) Eh14 Fh16 Fh18 Vh13 gh19) hZ7 (hw _ (List.mem_of_getElem? (i := 10) rfl)) (hw _ (List.mem_of_getElem? (i := 6) rfl)) (by decide) (by decide) (own_EW hw) CH23) (g := (mkF m 51 #[.val (.int p1), .val (.int p2), .val (.int p3), .val (.int p4), .val (.int (own_md p1)), .val (.int (own_pk p2)), .val (.int (own_pk p3)), .val (.int (own_pk p4)), .unset, .unset, .unset, .unset] [(.ref b11), (.ref b9), (.ref b9)])) rfl (by rw [hml]; rfl) (Steps.refl _) (a := b9) (argsL := [(.ref b11)]) (rest := [(.ref b9)]) (lenOf own_pd14 rfl) rfl (by show 2 * 0 + _ ≤ _; exact Nat.le_of_eq rfl) (hb hby at_51) (fun _ _ => ⟨rfl, e11, (by decide : 8 + 4 ≤ _), (by decide : 88 + 8 ≤ _)⟩)
  dsimp only [Pt.U, Pt.locs, Pt.cells, Pt.slots] at X24 l24 y24 z24 st24 hQ24 hSq24 hgr24 hCr24
  subst y24 z24
  obtain ⟨Xw24, hS24, hZ24, hown24⟩ := rebS (vm0 := T7.vm) hS7 (by rw [e11]; exact (Nat.le_trans (Nat.le_refl _) (Nat.le_trans E9.1 E11.1))) X24 hSq24 hgr24 hZ7 hown7
  obtain ⟨lb2_2_24, lk2_2_24, rfl, Nq24, Kq24, f24_0, f24_1, f24_2, f24_3, f24_4⟩ := hQ24
  have N24 : Fr n0 L24 := by rw [l24]; exact Fr.app N7 Nq24
  have Kp25 : Keep h0 T24.heap [] := Kp12.trans Kq24 (allS (Or.inr (Nat.le_trans Kp8.1 (Nat.le_of_eq g9.symm))) all0)
  have Old26 : Old Z n0 T7.heap := Old6.keep Kq7 all0
  have Old27 : Old Z n0 h9 := Old26.ext E9
  have Old28 : Old Z n0 h11 := Old27.ext E11
  have Old29 : Old Z n0 T24.heap := Old28.keep Kq24 (allS gh19 all0)
  obtain ⟨_, _, ⟨T30, L30, k30, n30⟩, -, X30, ⟨Lc30, hQ30, l30, y30, z30⟩, st30⟩ := Jvm.LawKit.callS Xw24 hx (y := (⟨"com/example/dragoman/dragoman/core/Language", "forCode", "(Ljava/lang/String;)Ljava/util/Optional;"⟩ : MethodName)) hown24 (mvT hZ24 (hw _ (List.mem_of_getElem? (i := 26) rfl))) (mvT hZ24 (hw _ (List.mem_of_getElem? (i := 27) rfl))) (mvT hZ24 (hw _ (List.mem_of_getElem? (i := 28) rfl))) (mvT hZ24 (hw _ (List.mem_of_getElem? (i := 29) rfl))) (by decide) (backOf (W := 0) (own_rm_fcO l Z a0 hw [] G1 G3 k_EMPTY k_ENGLISH s_ENGLISH t_ENGLISH kb_ENGLISH k_JAPANESE s_JAPANESE t_JAPANESE kb_JAPANESE k_CHINESE s_CHINESE t_CHINESE kb_CHINESE k_VALUES kv_VALUES gl b9 ([] : List Int32) lb2_2_24 (lk2_2_24) T24.heap n0 (Nat.le_trans Z0 Kp25.1) Old29 f24_0 f24_1 f24_2 f24_3 f24_4 (Nat.le_of_ble_eq_true rfl) (fun q => absurd (congrArg List.length q) (show ¬ (2 = 0) by decide)) (fun q => absurd (congrArg List.length q) (show ¬ (2 = 0) by decide)) (fun q => absurd (congrArg List.length q) (show ¬ (2 = 0) by decide))) hZ24 (hw _ (List.mem_of_getElem? (i := 29) rfl)) (hw _ (List.mem_of_getElem? (i := 28) rfl)) (by decide) (by decide)) (g := (mkF m 234 #[.val (.int p1), .val (.int p2), .val (.int p3), .val (.int p4), .val (.int (own_md p1)), .val (.int (own_pk p2)), .val (.int (own_pk p3)), .val (.int (own_pk p4)), .val (.ref b9), .val (.int (0 : Int32)), .val .null, .unset] [(.ref b9)])) rfl (by rw [hml]; rfl) (argsL := [(.ref b9)]) (rest := []) (lenOf own_pd13 rfl) rfl (by show 2 * 0 + _ ≤ _; exact Nat.le_of_eq rfl) (hb hby at_234) (fun _ _ => ⟨rfl, rfl, (by decide : 12 + 1 ≤ _), (by decide : 96 + 3 ≤ _)⟩)
  dsimp only [Pt.U, Pt.locs, Pt.cells, Pt.slots] at X30 l30 y30 z30 st30 hQ30
  subst y30 z30
  obtain ⟨rfl, Nq30, Kq30⟩ := hQ30
  have N30 : Fr n0 L30 := by rw [l30]; exact Fr.app N24 Nq30
  have Kp31 : Keep h0 T30.heap [] := Kp25.trans Kq30 all0
  have Old32 : Old Z n0 T30.heap := Old29.keep Kq30 all0
  obtain ⟨cq33, kq33, q33a, q33b, q33c⟩ := isOf hZ24 rfl (E_EMPTY.ext Old32.2)
  obtain ⟨_, _, ⟨T33, L33, k33, n33⟩, -, X33, ⟨Lc33, hQ33, l33, y33, z33⟩, st33⟩ := X30.virtualBack hx (y := (⟨"java/util/Optional", "orElse", "(Ljava/lang/Object;)Ljava/lang/Object;"⟩ : MethodName)) (z := (⟨"java/util/Optional", "orElse", "(Ljava/lang/Object;)Ljava/lang/Object;"⟩ : MethodName)) hown24 (mvT hZ24 (hw _ (List.mem_of_getElem? (i := 66) rfl))) (mvT hZ24 (hw _ (List.mem_of_getElem? (i := 67) rfl))) (notFace_of_selects (args := #[]) (mvT hZ24 (hw _ (List.mem_of_getElem? (i := 69) rfl)))) (mvT hZ24 (hw _ (List.mem_of_getElem? (i := 69) rfl))) (mvT hZ24 (hw _ (List.mem_of_getElem? (i := 68) rfl))) (by decide) (backOf (W := 0) (own_rm_oeN l Z a0 hw [] G1 G3 k_EMPTY k_ENGLISH s_ENGLISH t_ENGLISH kb_ENGLISH k_JAPANESE s_JAPANESE t_JAPANESE kb_JAPANESE k_CHINESE s_CHINESE t_CHINESE kb_CHINESE k_VALUES kv_VALUES gl k_EMPTY T30.heap n0 (Nat.le_trans Z0 Kp31.1) (F_EMPTY.ext Old32.2)) hZ24 (hw _ (List.mem_of_getElem? (i := 70) rfl)) (hw _ (List.mem_of_getElem? (i := 63) rfl)) (by decide) (by decide)) q33a q33c (g := (mkF m 238 #[.val (.int p1), .val (.int p2), .val (.int p3), .val (.int p4), .val (.int (own_md p1)), .val (.int (own_pk p2)), .val (.int (own_pk p3)), .val (.int (own_pk p4)), .val (.ref b9), .val (.int (0 : Int32)), .val .null, .unset] [.null, (.ref k_EMPTY)])) rfl (by rw [hml]; rfl) (Steps.refl _) (argsL := [.null]) (rest := []) (lenOf own_pd4 rfl) rfl (by show 2 * 0 + _ ≤ _; exact Nat.le_of_eq rfl) (hb hby at_238) (fun _ _ => ⟨rfl, rfl, (by decide : 13 + 0 ≤ _), (by decide : 99 + 0 ≤ _)⟩)
  dsimp only [Pt.U, Pt.locs, Pt.cells, Pt.slots] at X33 l33 y33 z33 st33 hQ33
  subst y33 z33
  obtain ⟨rfl, Nq33, e33⟩ := hQ33
  have N33 : Fr n0 L33 := by rw [l33]; exact Fr.app N30 Nq33
  obtain ⟨fs, hr, hrun, hended, hREW⟩ := X33.leaveW hS24 (by rw [e33]; exact (Nat.le_trans (Nat.le_refl _) Kq30.1)) (v := some (.int (1 : Int32))) (fun h => by rw [Bd.returns] at h; cases h)
  refine ⟨_, _, pre0 _ ?_, hrun, hended, _, _, rfl, ?_, hREW.1, hREW.2.1, hREW.2.2.1, hREW.2.2.2.mono (by decide) (by decide)⟩
  · show Steps p.tables e below (s₁.setTop (mkF m 0 #[.val (.int p1), .val (.int p2), .val (.int p3), .val (.int p4), .unset, .unset, .unset, .unset, .unset, .unset, .unset, .unset] [])) _
    refine XS.iloadN X0.here hx rfl (hb hby at_0) rfl ?_
    show Steps p.tables e below (s₁.setTop (mkF m 1 #[.val (.int p1), .val (.int p2), .val (.int p3), .val (.int p4), .unset, .unset, .unset, .unset, .unset, .unset, .unset, .unset] [(.int p1)])) _
    refine XS.bipush X0.here hx rfl (hb hby at_1) ?_
    show Steps p.tables e below (s₁.setTop (mkF m 3 #[.val (.int p1), .val (.int p2), .val (.int p3), .val (.int p4), .unset, .unset, .unset, .unset, .unset, .unset, .unset, .unset] [(.int (7 : Int32)), (.int p1)])) _
    refine XS.iand X0.here hx rfl (hb hby at_3) rfl ?_
    show Steps p.tables e below (s₁.setTop (mkF m 4 #[.val (.int p1), .val (.int p2), .val (.int p3), .val (.int p4), .unset, .unset, .unset, .unset, .unset, .unset, .unset, .unset] [(.int (own_md p1))])) _
    refine XS.istore X0.here hx rfl (hb hby at_4) rfl (l' := #[.val (.int p1), .val (.int p2), .val (.int p3), .val (.int p4), .val (.int (own_md p1)), .unset, .unset, .unset, .unset, .unset, .unset, .unset]) rfl ?_
    show Steps p.tables e below (s₁.setTop (mkF m 6 #[.val (.int p1), .val (.int p2), .val (.int p3), .val (.int p4), .val (.int (own_md p1)), .unset, .unset, .unset, .unset, .unset, .unset, .unset] [])) _
    refine XS.iloadN X0.here hx rfl (hb hby at_6) rfl ?_
    show Steps p.tables e below (s₁.setTop (mkF m 7 #[.val (.int p1), .val (.int p2), .val (.int p3), .val (.int p4), .val (.int (own_md p1)), .unset, .unset, .unset, .unset, .unset, .unset, .unset] [(.int p2)])) _
    refine st1.trans ?_
    show Steps p.tables e below (T1.setTop (mkF m 10 #[.val (.int p1), .val (.int p2), .val (.int p3), .val (.int p4), .val (.int (own_md p1)), .unset, .unset, .unset, .unset, .unset, .unset, .unset] [(.int (own_pk p2))])) _
    refine XS.istore Xw1.here hx rfl (hb hby at_10) rfl (l' := #[.val (.int p1), .val (.int p2), .val (.int p3), .val (.int p4), .val (.int (own_md p1)), .val (.int (own_pk p2)), .unset, .unset, .unset, .unset, .unset, .unset]) rfl ?_
    show Steps p.tables e below (T1.setTop (mkF m 12 #[.val (.int p1), .val (.int p2), .val (.int p3), .val (.int p4), .val (.int (own_md p1)), .val (.int (own_pk p2)), .unset, .unset, .unset, .unset, .unset, .unset] [])) _
    refine XS.iloadN Xw1.here hx rfl (hb hby at_12) rfl ?_
    show Steps p.tables e below (T1.setTop (mkF m 13 #[.val (.int p1), .val (.int p2), .val (.int p3), .val (.int p4), .val (.int (own_md p1)), .val (.int (own_pk p2)), .unset, .unset, .unset, .unset, .unset, .unset] [(.int p3)])) _
    refine st4.trans ?_
    show Steps p.tables e below (T4.setTop (mkF m 16 #[.val (.int p1), .val (.int p2), .val (.int p3), .val (.int p4), .val (.int (own_md p1)), .val (.int (own_pk p2)), .unset, .unset, .unset, .unset, .unset, .unset] [(.int (own_pk p3))])) _
    refine XS.istore Xw4.here hx rfl (hb hby at_16) rfl (l' := #[.val (.int p1), .val (.int p2), .val (.int p3), .val (.int p4), .val (.int (own_md p1)), .val (.int (own_pk p2)), .val (.int (own_pk p3)), .unset, .unset, .unset, .unset, .unset]) rfl ?_
    show Steps p.tables e below (T4.setTop (mkF m 18 #[.val (.int p1), .val (.int p2), .val (.int p3), .val (.int p4), .val (.int (own_md p1)), .val (.int (own_pk p2)), .val (.int (own_pk p3)), .unset, .unset, .unset, .unset, .unset] [])) _
    refine XS.iloadN Xw4.here hx rfl (hb hby at_18) rfl ?_
    show Steps p.tables e below (T4.setTop (mkF m 19 #[.val (.int p1), .val (.int p2), .val (.int p3), .val (.int p4), .val (.int (own_md p1)), .val (.int (own_pk p2)), .val (.int (own_pk p3)), .unset, .unset, .unset, .unset, .unset] [(.int p4)])) _
    refine st7.trans ?_
    show Steps p.tables e below (T7.setTop (mkF m 22 #[.val (.int p1), .val (.int p2), .val (.int p3), .val (.int p4), .val (.int (own_md p1)), .val (.int (own_pk p2)), .val (.int (own_pk p3)), .unset, .unset, .unset, .unset, .unset] [(.int (own_pk p4))])) _
    refine XS.istore Xw7.here hx rfl (hb hby at_22) rfl (l' := #[.val (.int p1), .val (.int p2), .val (.int p3), .val (.int p4), .val (.int (own_md p1)), .val (.int (own_pk p2)), .val (.int (own_pk p3)), .val (.int (own_pk p4)), .unset, .unset, .unset, .unset]) rfl ?_
    show Steps p.tables e below (T7.setTop (mkF m 24 #[.val (.int p1), .val (.int p2), .val (.int p3), .val (.int p4), .val (.int (own_md p1)), .val (.int (own_pk p2)), .val (.int (own_pk p3)), .val (.int (own_pk p4)), .unset, .unset, .unset, .unset] [])) _
    refine XS.iload Xw7.here hx rfl (hb hby at_24) rfl ?_
    show Steps p.tables e below (T7.setTop (mkF m 26 #[.val (.int p1), .val (.int p2), .val (.int p3), .val (.int p4), .val (.int (own_md p1)), .val (.int (own_pk p2)), .val (.int (own_pk p3)), .val (.int (own_pk p4)), .unset, .unset, .unset, .unset] [(.int (own_md p1))])) _
    refine XS.iconst Xw7.here hx rfl (hb hby at_26) ?_
    show Steps p.tables e below (T7.setTop (mkF m 27 #[.val (.int p1), .val (.int p2), .val (.int p3), .val (.int p4), .val (.int (own_md p1)), .val (.int (own_pk p2)), .val (.int (own_pk p3)), .val (.int (own_pk p4)), .unset, .unset, .unset, .unset] [(.int (4 : Int32)), (.int (own_md p1))])) _
    refine XS.icmpYes Xw7.here hx rfl (pc0 := 27) (pc' := 39) rfl (hb hby at_27) rfl (feq ((by rw [hk]; decide) : ¬ ((own_md p1) = (4 : Int32)))).2 (by decide) (by decide) ?_
    show Steps p.tables e below (T7.setTop (mkF m 39 #[.val (.int p1), .val (.int p2), .val (.int p3), .val (.int p4), .val (.int (own_md p1)), .val (.int (own_pk p2)), .val (.int (own_pk p3)), .val (.int (own_pk p4)), .unset, .unset, .unset, .unset] [])) _
    refine XS.iload Xw7.here hx rfl (hb hby at_39) rfl ?_
    show Steps p.tables e below (T7.setTop (mkF m 41 #[.val (.int p1), .val (.int p2), .val (.int p3), .val (.int p4), .val (.int (own_md p1)), .val (.int (own_pk p2)), .val (.int (own_pk p3)), .val (.int (own_pk p4)), .unset, .unset, .unset, .unset] [(.int (own_md p1))])) _
    refine XS.ifNo Xw7.here hx rfl (hb hby at_41) rfl ((if0 _ _).trans (teq (hk : (own_md p1) = (0 : Int32))).2) ?_
    show Steps p.tables e below (T7.setTop (mkF m 44 #[.val (.int p1), .val (.int p2), .val (.int p3), .val (.int p4), .val (.int (own_md p1)), .val (.int (own_pk p2)), .val (.int (own_pk p3)), .val (.int (own_pk p4)), .unset, .unset, .unset, .unset] [])) _
    refine st9 _ ?_
    show Steps p.tables e below (T9.setTop (mkF m 47 #[.val (.int p1), .val (.int p2), .val (.int p3), .val (.int p4), .val (.int (own_md p1)), .val (.int (own_pk p2)), .val (.int (own_pk p3)), .val (.int (own_pk p4)), .unset, .unset, .unset, .unset] [(.ref b9)])) _
    refine XS.dup X9.here hx rfl (hb hby at_47) rfl rfl ?_
    show Steps p.tables e below (T9.setTop (mkF m 48 #[.val (.int p1), .val (.int p2), .val (.int p3), .val (.int p4), .val (.int (own_md p1)), .val (.int (own_pk p2)), .val (.int (own_pk p3)), .val (.int (own_pk p4)), .unset, .unset, .unset, .unset] [(.ref b9), (.ref b9)])) _
    refine XS.iconst X9.here hx rfl (hb hby at_48) ?_
    show Steps p.tables e below (T9.setTop (mkF m 49 #[.val (.int p1), .val (.int p2), .val (.int p3), .val (.int p4), .val (.int (own_md p1)), .val (.int (own_pk p2)), .val (.int (own_pk p3)), .val (.int (own_pk p4)), .unset, .unset, .unset, .unset] [(.int (0 : Int32)), (.ref b9), (.ref b9)])) _
    refine st11 _ ?_
    show Steps p.tables e below (T11.setTop (mkF m 51 #[.val (.int p1), .val (.int p2), .val (.int p3), .val (.int p4), .val (.int (own_md p1)), .val (.int (own_pk p2)), .val (.int (own_pk p3)), .val (.int (own_pk p4)), .unset, .unset, .unset, .unset] [(.ref b11), (.ref b9), (.ref b9)])) _
    refine st24.trans ?_
    show Steps p.tables e below (T24.setTop (mkF m 54 #[.val (.int p1), .val (.int p2), .val (.int p3), .val (.int p4), .val (.int (own_md p1)), .val (.int (own_pk p2)), .val (.int (own_pk p3)), .val (.int (own_pk p4)), .unset, .unset, .unset, .unset] [(.ref b9)])) _
    refine XS.astore Xw24.here hx rfl (hb hby at_54) rfl rfl (l' := #[.val (.int p1), .val (.int p2), .val (.int p3), .val (.int p4), .val (.int (own_md p1)), .val (.int (own_pk p2)), .val (.int (own_pk p3)), .val (.int (own_pk p4)), .val (.ref b9), .unset, .unset, .unset]) rfl ?_
    show Steps p.tables e below (T24.setTop (mkF m 56 #[.val (.int p1), .val (.int p2), .val (.int p3), .val (.int p4), .val (.int (own_md p1)), .val (.int (own_pk p2)), .val (.int (own_pk p3)), .val (.int (own_pk p4)), .val (.ref b9), .unset, .unset, .unset] [])) _
    refine XS.iconst Xw24.here hx rfl (hb hby at_56) ?_
    show Steps p.tables e below (T24.setTop (mkF m 57 #[.val (.int p1), .val (.int p2), .val (.int p3), .val (.int p4), .val (.int (own_md p1)), .val (.int (own_pk p2)), .val (.int (own_pk p3)), .val (.int (own_pk p4)), .val (.ref b9), .unset, .unset, .unset] [(.int (0 : Int32))])) _
    refine XS.istore Xw24.here hx rfl (hb hby at_57) rfl (l' := #[.val (.int p1), .val (.int p2), .val (.int p3), .val (.int p4), .val (.int (own_md p1)), .val (.int (own_pk p2)), .val (.int (own_pk p3)), .val (.int (own_pk p4)), .val (.ref b9), .val (.int (0 : Int32)), .unset, .unset]) rfl ?_
    show Steps p.tables e below (T24.setTop (mkF m 59 #[.val (.int p1), .val (.int p2), .val (.int p3), .val (.int p4), .val (.int (own_md p1)), .val (.int (own_pk p2)), .val (.int (own_pk p3)), .val (.int (own_pk p4)), .val (.ref b9), .val (.int (0 : Int32)), .unset, .unset] [])) _
    refine XS.goto Xw24.here hx rfl (pc0 := 59) (pc' := 155) rfl (hb hby at_59) (by decide) (by decide) ?_
    show Steps p.tables e below (T24.setTop (mkF m 155 #[.val (.int p1), .val (.int p2), .val (.int p3), .val (.int p4), .val (.int (own_md p1)), .val (.int (own_pk p2)), .val (.int (own_pk p3)), .val (.int (own_pk p4)), .val (.ref b9), .val (.int (0 : Int32)), .unset, .unset] [])) _
    refine XS.aconstNull Xw24.here hx rfl (hb hby at_155) ?_
    show Steps p.tables e below (T24.setTop (mkF m 156 #[.val (.int p1), .val (.int p2), .val (.int p3), .val (.int p4), .val (.int (own_md p1)), .val (.int (own_pk p2)), .val (.int (own_pk p3)), .val (.int (own_pk p4)), .val (.ref b9), .val (.int (0 : Int32)), .unset, .unset] [.null])) _
    refine XS.astore Xw24.here hx rfl (hb hby at_156) rfl rfl (l' := #[.val (.int p1), .val (.int p2), .val (.int p3), .val (.int p4), .val (.int (own_md p1)), .val (.int (own_pk p2)), .val (.int (own_pk p3)), .val (.int (own_pk p4)), .val (.ref b9), .val (.int (0 : Int32)), .val .null, .unset]) rfl ?_
    show Steps p.tables e below (T24.setTop (mkF m 158 #[.val (.int p1), .val (.int p2), .val (.int p3), .val (.int p4), .val (.int (own_md p1)), .val (.int (own_pk p2)), .val (.int (own_pk p3)), .val (.int (own_pk p4)), .val (.ref b9), .val (.int (0 : Int32)), .val .null, .unset] [])) _
    refine XS.aload Xw24.here hx rfl (hb hby at_158) rfl rfl ?_
    show Steps p.tables e below (T24.setTop (mkF m 160 #[.val (.int p1), .val (.int p2), .val (.int p3), .val (.int p4), .val (.int (own_md p1)), .val (.int (own_pk p2)), .val (.int (own_pk p3)), .val (.int (own_pk p4)), .val (.ref b9), .val (.int (0 : Int32)), .val .null, .unset] [(.ref b9)])) _
    refine XS.ifnullNo Xw24.here hx rfl (hb hby at_160) rfl ?_
    show Steps p.tables e below (T24.setTop (mkF m 163 #[.val (.int p1), .val (.int p2), .val (.int p3), .val (.int p4), .val (.int (own_md p1)), .val (.int (own_pk p2)), .val (.int (own_pk p3)), .val (.int (own_pk p4)), .val (.ref b9), .val (.int (0 : Int32)), .val .null, .unset] [])) _
    refine XS.iload Xw24.here hx rfl (hb hby at_163) rfl ?_
    show Steps p.tables e below (T24.setTop (mkF m 165 #[.val (.int p1), .val (.int p2), .val (.int p3), .val (.int p4), .val (.int (own_md p1)), .val (.int (own_pk p2)), .val (.int (own_pk p3)), .val (.int (own_pk p4)), .val (.ref b9), .val (.int (0 : Int32)), .val .null, .unset] [(.int (0 : Int32))])) _
    refine XS.iconst Xw24.here hx rfl (hb hby at_165) ?_
    show Steps p.tables e below (T24.setTop (mkF m 166 #[.val (.int p1), .val (.int p2), .val (.int p3), .val (.int p4), .val (.int (own_md p1)), .val (.int (own_pk p2)), .val (.int (own_pk p3)), .val (.int (own_pk p4)), .val (.ref b9), .val (.int (0 : Int32)), .val .null, .unset] [(.int (2 : Int32)), (.int (0 : Int32))])) _
    refine XS.icmpYes Xw24.here hx rfl (pc0 := 166) (pc' := 232) rfl (hb hby at_166) rfl (feq (by decide : ¬ ((0 : Int32) = (2 : Int32)))).2 (by decide) (by decide) ?_
    show Steps p.tables e below (T24.setTop (mkF m 232 #[.val (.int p1), .val (.int p2), .val (.int p3), .val (.int p4), .val (.int (own_md p1)), .val (.int (own_pk p2)), .val (.int (own_pk p3)), .val (.int (own_pk p4)), .val (.ref b9), .val (.int (0 : Int32)), .val .null, .unset] [])) _
    refine XS.aload Xw24.here hx rfl (hb hby at_232) rfl rfl ?_
    show Steps p.tables e below (T24.setTop (mkF m 234 #[.val (.int p1), .val (.int p2), .val (.int p3), .val (.int p4), .val (.int (own_md p1)), .val (.int (own_pk p2)), .val (.int (own_pk p3)), .val (.int (own_pk p4)), .val (.ref b9), .val (.int (0 : Int32)), .val .null, .unset] [(.ref b9)])) _
    refine st30 _ ?_
    show Steps p.tables e below (T30.setTop (mkF m 237 #[.val (.int p1), .val (.int p2), .val (.int p3), .val (.int p4), .val (.int (own_md p1)), .val (.int (own_pk p2)), .val (.int (own_pk p3)), .val (.int (own_pk p4)), .val (.ref b9), .val (.int (0 : Int32)), .val .null, .unset] [(.ref k_EMPTY)])) _
    refine XS.aconstNull X30.here hx rfl (hb hby at_237) ?_
    show Steps p.tables e below (T30.setTop (mkF m 238 #[.val (.int p1), .val (.int p2), .val (.int p3), .val (.int p4), .val (.int (own_md p1)), .val (.int (own_pk p2)), .val (.int (own_pk p3)), .val (.int (own_pk p4)), .val (.ref b9), .val (.int (0 : Int32)), .val .null, .unset] [.null, (.ref k_EMPTY)])) _
    refine st33.trans ?_
    show Steps p.tables e below (T33.setTop (mkF m 241 #[.val (.int p1), .val (.int p2), .val (.int p3), .val (.int p4), .val (.int (own_md p1)), .val (.int (own_pk p2)), .val (.int (own_pk p3)), .val (.int (own_pk p4)), .val (.ref b9), .val (.int (0 : Int32)), .val .null, .unset] [.null])) _
    refine X33.checkcastNull hx (g := (mkF m 241 #[.val (.int p1), .val (.int p2), .val (.int p3), .val (.int p4), .val (.int (own_md p1)), .val (.int (own_pk p2)), .val (.int (own_pk p3)), .val (.int (own_pk p4)), .val (.ref b9), .val (.int (0 : Int32)), .val .null, .unset] [.null])) rfl rfl (hb hby at_241) _ ?_
    show Steps p.tables e below (T33.setTop (mkF m 244 #[.val (.int p1), .val (.int p2), .val (.int p3), .val (.int p4), .val (.int (own_md p1)), .val (.int (own_pk p2)), .val (.int (own_pk p3)), .val (.int (own_pk p4)), .val (.ref b9), .val (.int (0 : Int32)), .val .null, .unset] [.null])) _
    refine XS.astore X33.here hx rfl (hb hby at_244) rfl rfl (l' := #[.val (.int p1), .val (.int p2), .val (.int p3), .val (.int p4), .val (.int (own_md p1)), .val (.int (own_pk p2)), .val (.int (own_pk p3)), .val (.int (own_pk p4)), .val (.ref b9), .val (.int (0 : Int32)), .val .null, .val .null]) rfl ?_
    show Steps p.tables e below (T33.setTop (mkF m 246 #[.val (.int p1), .val (.int p2), .val (.int p3), .val (.int p4), .val (.int (own_md p1)), .val (.int (own_pk p2)), .val (.int (own_pk p3)), .val (.int (own_pk p4)), .val (.ref b9), .val (.int (0 : Int32)), .val .null, .val .null] [])) _
    refine XS.aload X33.here hx rfl (hb hby at_246) rfl rfl ?_
    show Steps p.tables e below (T33.setTop (mkF m 248 #[.val (.int p1), .val (.int p2), .val (.int p3), .val (.int p4), .val (.int (own_md p1)), .val (.int (own_pk p2)), .val (.int (own_pk p3)), .val (.int (own_pk p4)), .val (.ref b9), .val (.int (0 : Int32)), .val .null, .val .null] [.null])) _
    refine XS.aload X33.here hx rfl (hb hby at_248) rfl rfl ?_
    show Steps p.tables e below (T33.setTop (mkF m 250 #[.val (.int p1), .val (.int p2), .val (.int p3), .val (.int p4), .val (.int (own_md p1)), .val (.int (own_pk p2)), .val (.int (own_pk p3)), .val (.int (own_pk p4)), .val (.ref b9), .val (.int (0 : Int32)), .val .null, .val .null] [.null, .null])) _
    refine Jvm.RoadKit.acmp (g := (mkF m 250 #[.val (.int p1), .val (.int p2), .val (.int p3), .val (.int p4), .val (.int (own_md p1)), .val (.int (own_pk p2)), .val (.int (own_pk p3)), .val (.int (own_pk p4)), .val (.ref b9), .val (.int (0 : Int32)), .val .null, .val .null] [.null, .null])) X33 hx rfl rfl rfl (pc0 := 250) (pc' := 253) (same := true) rfl (hb hby at_250) rfl (decide_eq_true rfl) (by decide) (by decide) ?_
    show Steps p.tables e below (T33.setTop (mkF m 253 #[.val (.int p1), .val (.int p2), .val (.int p3), .val (.int p4), .val (.int (own_md p1)), .val (.int (own_pk p2)), .val (.int (own_pk p3)), .val (.int (own_pk p4)), .val (.ref b9), .val (.int (0 : Int32)), .val .null, .val .null] [])) _
    refine XS.iconst X33.here hx rfl (hb hby at_253) ?_
    show Steps p.tables e below (T33.setTop (mkF m 254 #[.val (.int p1), .val (.int p2), .val (.int p3), .val (.int p4), .val (.int (own_md p1)), .val (.int (own_pk p2)), .val (.int (own_pk p3)), .val (.int (own_pk p4)), .val (.ref b9), .val (.int (0 : Int32)), .val .null, .val .null] [(.int (1 : Int32))])) _
    refine XS.goto X33.here hx rfl (pc0 := 254) (pc' := 258) rfl (hb hby at_254) (by decide) (by decide) ?_
    show Steps p.tables e below (T33.setTop (mkF m 258 #[.val (.int p1), .val (.int p2), .val (.int p3), .val (.int p4), .val (.int (own_md p1)), .val (.int (own_pk p2)), .val (.int (own_pk p3)), .val (.int (own_pk p4)), .val (.ref b9), .val (.int (0 : Int32)), .val .null, .val .null] [(.int (1 : Int32))])) _
    exact retN X33 hx (t := .boolean) Bd.returns (by simp) (hb hby at_258) hr
  · show own_Qlaw h0 n0 _ T33.heap _
    exact ⟨rfl, N33⟩
theorem own_eflaw1 (m : MethodId) (p1 : Int32) (p2 : Int32) (p3 : Int32) (p4 : Int32) : entryFrame m #[(.int p1), (.int p2), (.int p3), (.int p4)] maxLocals = mkF m 0 #[.val (.int p1), .val (.int p2), .val (.int p3), .val (.int p4), .unset, .unset, .unset, .unset, .unset, .unset, .unset, .unset] [] := by first | (simp [entryFrame, mkF, argsToLocals, Value.category, maxLocals]; done) | rfl
set_option maxRecDepth 65536 in
set_option maxHeartbeats 40000000 in
theorem own_law1 (l : Launch) (Z : State) (a0 : Array Value) (hw : ∀ d ∈ tables_1, d.before a0 Z = true) (ws : List Jvm.Cond) (G1 : Int32) (G3 : Value) (k_EMPTY : Addr) (k_ENGLISH : Addr) (s_ENGLISH : Addr) (t_ENGLISH : Addr) (kb_ENGLISH : ClassId) (k_JAPANESE : Addr) (s_JAPANESE : Addr) (t_JAPANESE : Addr) (kb_JAPANESE : ClassId) (k_CHINESE : Addr) (s_CHINESE : Addr) (t_CHINESE : Addr) (kb_CHINESE : ClassId) (k_VALUES : Addr) (kv_VALUES : ClassId) (gl : own_Glob Z G1 G3 k_EMPTY k_ENGLISH s_ENGLISH t_ENGLISH kb_ENGLISH k_JAPANESE s_JAPANESE t_JAPANESE kb_JAPANESE k_CHINESE s_CHINESE t_CHINESE kb_CHINESE k_VALUES kv_VALUES) (p1 : Int32) (p2 : Int32) (p3 : Int32) (p4 : Int32) (h0 : Heap) (n0 : Nat) (Z0 : n0 ≤ h0.size) (X00 : Old Z n0 h0) (hk : own_md p1 = 1) :
    MetFree l x (head1 (Jvm.Cond.code x code maxLocals ret :: ws) room_1) (fun a U => a = #[(.int p1), (.int p2), (.int p3), (.int p4)] ∧ Z.Warmed39 U.vm ∧ U.heap = h0 ∧ CHv Z consts_1 U.vm h0) (fun _ _ _ _ _ => True) (fun _ U o U' => ∃ v L, o = .returned v ∧ own_Qlaw h0 n0 v U'.heap L ∧ ReturnedEndW U o U' L room_1.cells room_1.slots) := by
  refine MetFree.of_bodySF (plainFor_of_name own_pn8) hisR ?_
  intro p e s m args below meth c s₁ Bd hml0 hP hK
  obtain ⟨rfl, hZ, hh, hCH⟩ := hP
  obtain ⟨O_CS, P_CS, O_SI, P_SI, O_EMPTY, E_EMPTY, F_EMPTY, O_ENGLISH, E_ENGLISH, Fs_ENGLISH, Es_ENGLISH, Fc_ENGLISH, Fv_ENGLISH, V_ENGLISH, O_JAPANESE, E_JAPANESE, Fs_JAPANESE, Es_JAPANESE, Fc_JAPANESE, Fv_JAPANESE, V_JAPANESE, O_CHINESE, E_CHINESE, Fs_CHINESE, Es_CHINESE, Fc_CHINESE, Fv_CHINESE, V_CHINESE, O_VALUES, E_VALUES, V_VALUES⟩ := id gl
  have hx := Bd.exec
  have hby := Bd.bytes
  have hml : c.maxLocals = 12 := hml0
  have hown : s.vm.findClass "com/example/dragoman/dragoman/core/LanguageForCodePinLaw" = some m.cls := findClass_of_methodNamed Bd.named
  have hnm := (name_of_methodNamed Bd.named Bd.method).1
  have X0 : Stand p l e room_1 s m #[(.int p1), (.int p2), (.int p3), (.int p4)] below meth c s₁ [] 0 0 := Stand.of_body Bd
  have e0 : s₁.heap = h0 := by rw [← hh, Bd.state]; rfl
  have N0 := Fr.nil n0
  have pre0 : ∀ t, Steps p.tables e below (s₁.setTop (mkF m 0 #[.val (.int p1), .val (.int p2), .val (.int p3), .val (.int p4), .unset, .unset, .unset, .unset, .unset, .unset, .unset, .unset] [])) t → Steps p.tables e below (s₁.setTop (entryFrame m #[(.int p1), (.int p2), (.int p3), (.int p4)] maxLocals)) t := fun t k => castTop (own_eflaw1 m p1 p2 p3 p4) k
  obtain ⟨_, _, ⟨T1, L1, k1, n1⟩, -, X1, hSq1, hgr1, ⟨Lc1, hQ1, l1, y1, z1, hCr1⟩, st1⟩ := callSS X0 hx (y := (⟨"com/example/dragoman/dragoman/core/LanguageForCodePinLaw", "pick", "(I)C"⟩ : MethodName)) hown (mvT hZ (hw _ (List.mem_of_getElem? (i := 0) rfl))) (mvT hZ (hw _ (List.mem_of_getElem? (i := 1) rfl))) (mvT hZ (hw _ (List.mem_of_getElem? (i := 2) rfl))) (mvT hZ (hw _ (List.mem_of_getElem? (i := 3) rfl))) (by decide) (backOfSH (s := s) (vm0 := s.vm) (W := 0) (own_rm_pk l Z a0 hw [] G1 G3 k_EMPTY k_ENGLISH s_ENGLISH t_ENGLISH kb_ENGLISH k_JAPANESE s_JAPANESE t_JAPANESE kb_JAPANESE k_CHINESE s_CHINESE t_CHINESE kb_CHINESE k_VALUES kv_VALUES gl p2 h0 n0 Z0 X00 ) hZ (hw _ (List.mem_of_getElem? (i := 3) rfl)) (hw _ (List.mem_of_getElem? (i := 2) rfl)) (by decide) (by decide) (own_EW hw) hCH) (g := (mkF m 7 #[.val (.int p1), .val (.int p2), .val (.int p3), .val (.int p4), .val (.int (own_md p1)), .unset, .unset, .unset, .unset, .unset, .unset, .unset] [(.int p2)])) rfl (by rw [hml]; rfl) (argsL := [(.int p2)]) (rest := []) (lenOf own_pd7 rfl) rfl (by show 2 * 0 + _ ≤ _; exact Nat.le_of_eq rfl) (hb hby at_7) (fun _ _ => ⟨rfl, e0, (by decide : 0 + 2 ≤ _), (by decide : 0 + 28 ≤ _)⟩)
  dsimp only [Pt.U, Pt.locs, Pt.cells, Pt.slots] at X1 l1 y1 z1 st1 hQ1 hSq1 hgr1 hCr1
  subst y1 z1
  obtain ⟨Xw1, hS1, hZ1, hown1⟩ := rebS (vm0 := s.vm) ((State.WarmedH.refl s).since 0) (by rw [e0]; exact (Nat.zero_le _)) X1 hSq1 hgr1 hZ hown
  obtain ⟨rfl, Nq1, Kq1⟩ := hQ1
  have N1 : Fr n0 L1 := by rw [l1]; exact Fr.app N0 Nq1
  have Kp2 : Keep h0 T1.heap [] := (Keep.refl h0 []).trans Kq1 all0
  have Old3 : Old Z n0 T1.heap := X00.keep Kq1 all0
  obtain ⟨_, _, ⟨T4, L4, k4, n4⟩, -, X4, hSq4, hgr4, ⟨Lc4, hQ4, l4, y4, z4, hCr4⟩, st4⟩ := callSS Xw1 hx (y := (⟨"com/example/dragoman/dragoman/core/LanguageForCodePinLaw", "pick", "(I)C"⟩ : MethodName)) hown1 (mvT hZ1 (hw _ (List.mem_of_getElem? (i := 0) rfl))) (mvT hZ1 (hw _ (List.mem_of_getElem? (i := 1) rfl))) (mvT hZ1 (hw _ (List.mem_of_getElem? (i := 2) rfl))) (mvT hZ1 (hw _ (List.mem_of_getElem? (i := 3) rfl))) (by decide) (backOfSH (s := s) (vm0 := T1.vm) (W := 0) (own_rm_pk l Z a0 hw [] G1 G3 k_EMPTY k_ENGLISH s_ENGLISH t_ENGLISH kb_ENGLISH k_JAPANESE s_JAPANESE t_JAPANESE kb_JAPANESE k_CHINESE s_CHINESE t_CHINESE kb_CHINESE k_VALUES kv_VALUES gl p3 T1.heap n0 (Nat.le_trans Z0 Kp2.1) Old3 ) hZ1 (hw _ (List.mem_of_getElem? (i := 3) rfl)) (hw _ (List.mem_of_getElem? (i := 2) rfl)) (by decide) (by decide) (own_EW hw) hCr1.1) (g := (mkF m 13 #[.val (.int p1), .val (.int p2), .val (.int p3), .val (.int p4), .val (.int (own_md p1)), .val (.int (own_pk p2)), .unset, .unset, .unset, .unset, .unset, .unset] [(.int p3)])) rfl (by rw [hml]; rfl) (argsL := [(.int p3)]) (rest := []) (lenOf own_pd7 rfl) rfl (by show 2 * 0 + _ ≤ _; exact Nat.le_of_eq rfl) (hb hby at_13) (fun _ _ => ⟨rfl, rfl, (by decide : 2 + 2 ≤ _), (by decide : 28 + 28 ≤ _)⟩)
  dsimp only [Pt.U, Pt.locs, Pt.cells, Pt.slots] at X4 l4 y4 z4 st4 hQ4 hSq4 hgr4 hCr4
  subst y4 z4
  obtain ⟨Xw4, hS4, hZ4, hown4⟩ := rebS (vm0 := T1.vm) hS1 (Nat.le_refl _) X4 hSq4 hgr4 hZ1 hown1
  obtain ⟨rfl, Nq4, Kq4⟩ := hQ4
  have N4 : Fr n0 L4 := by rw [l4]; exact Fr.app N1 Nq4
  have Kp5 : Keep h0 T4.heap [] := Kp2.trans Kq4 all0
  have Old6 : Old Z n0 T4.heap := Old3.keep Kq4 all0
  obtain ⟨_, _, ⟨T7, L7, k7, n7⟩, -, X7, hSq7, hgr7, ⟨Lc7, hQ7, l7, y7, z7, hCr7⟩, st7⟩ := callSS Xw4 hx (y := (⟨"com/example/dragoman/dragoman/core/LanguageForCodePinLaw", "pick", "(I)C"⟩ : MethodName)) hown4 (mvT hZ4 (hw _ (List.mem_of_getElem? (i := 0) rfl))) (mvT hZ4 (hw _ (List.mem_of_getElem? (i := 1) rfl))) (mvT hZ4 (hw _ (List.mem_of_getElem? (i := 2) rfl))) (mvT hZ4 (hw _ (List.mem_of_getElem? (i := 3) rfl))) (by decide) (backOfSH (s := s) (vm0 := T4.vm) (W := 0) (own_rm_pk l Z a0 hw [] G1 G3 k_EMPTY k_ENGLISH s_ENGLISH t_ENGLISH kb_ENGLISH k_JAPANESE s_JAPANESE t_JAPANESE kb_JAPANESE k_CHINESE s_CHINESE t_CHINESE kb_CHINESE k_VALUES kv_VALUES gl p4 T4.heap n0 (Nat.le_trans Z0 Kp5.1) Old6 ) hZ4 (hw _ (List.mem_of_getElem? (i := 3) rfl)) (hw _ (List.mem_of_getElem? (i := 2) rfl)) (by decide) (by decide) (own_EW hw) hCr4.1) (g := (mkF m 19 #[.val (.int p1), .val (.int p2), .val (.int p3), .val (.int p4), .val (.int (own_md p1)), .val (.int (own_pk p2)), .val (.int (own_pk p3)), .unset, .unset, .unset, .unset, .unset] [(.int p4)])) rfl (by rw [hml]; rfl) (argsL := [(.int p4)]) (rest := []) (lenOf own_pd7 rfl) rfl (by show 2 * 0 + _ ≤ _; exact Nat.le_of_eq rfl) (hb hby at_19) (fun _ _ => ⟨rfl, rfl, (by decide : 4 + 2 ≤ _), (by decide : 56 + 28 ≤ _)⟩)
  dsimp only [Pt.U, Pt.locs, Pt.cells, Pt.slots] at X7 l7 y7 z7 st7 hQ7 hSq7 hgr7 hCr7
  subst y7 z7
  obtain ⟨Xw7, hS7, hZ7, hown7⟩ := rebS (vm0 := T4.vm) hS4 (Nat.le_refl _) X7 hSq7 hgr7 hZ4 hown4
  obtain ⟨rfl, Nq7, Kq7⟩ := hQ7
  have N7 : Fr n0 L7 := by rw [l7]; exact Fr.app N4 Nq7
  have Kp8 : Keep h0 T7.heap [] := Kp5.trans Kq7 all0
  obtain ⟨T9, h9, X9, e9, E9, A9, D9, U9, st9⟩ := newO Xw7 hx hZ7 hown7 (hw _ (List.mem_of_getElem? (i := 4) rfl)) (hw _ (List.mem_of_getElem? (i := 5) rfl)) (hw _ (List.mem_of_getElem? (i := 6) rfl)) rfl (g := (mkF m 68 #[.val (.int p1), .val (.int p2), .val (.int p3), .val (.int p4), .val (.int (own_md p1)), .val (.int (own_pk p2)), .val (.int (own_pk p3)), .val (.int (own_pk p4)), .unset, .unset, .unset, .unset] [])) rfl (hb hby at_68) (by decide) (by decide)
  obtain ⟨b9, g9⟩ : ∃ z, z = T7.heap.size := ⟨_, rfl⟩
  rw [← g9] at A9 D9 U9 st9
  have Kp10 : Keep h0 h9 [] := Kp8.ext E9
  obtain ⟨T11, h11, k11, X11, e11, E11, A11, st11⟩ := newP X9 hx hZ7 (hw _ (List.mem_of_getElem? (i := 7) rfl)) e9 (g := (mkF m 73 #[.val (.int p1), .val (.int p2), .val (.int p3), .val (.int p4), .val (.int (own_md p1)), .val (.int (own_pk p2)), .val (.int (own_pk p3)), .val (.int (own_pk p4)), .unset, .unset, .unset, .unset] [(.int (1 : Int32)), (.ref b9), (.ref b9)])) rfl (hb hby at_73) rfl (by decide) (cap := 1) (by decide) (by decide) (by decide) (by decide)
  obtain ⟨b11, g11⟩ : ∃ z, z = h9.size := ⟨_, rfl⟩
  rw [← g11] at A11 st11
  have Kp12 : Keep h0 h11 [] := Kp10.ext E11
  have Vh13 : Arv Z h11 b11 k11 .char (1 : Int32) [(.int (0 : Int32))] (.int (0 : Int32)) := (Arv.new A11 (by decide)).pad (pad_rep [] (.int (0 : Int32)) 1)
  obtain ⟨cl14, Ar14, qc14, Sz14, Ng14, Hs14, Gs14⟩ := id Vh13
  have hin14 : ¬ ((0 : Int32) < 0 ∨ cl14.slots.size ≤ ((0 : Int32)).toNatClampNeg) := inb_of Sz14 ⟨(by decide), (by decide)⟩
  obtain ⟨T15, h15, X15, e15, W15, st15⟩ := stC X11 hx hZ7 e11 Ar14 (j := (0 : Int32)) hin14 (g := (mkF m 79 #[.val (.int p1), .val (.int p2), .val (.int p3), .val (.int p4), .val (.int (own_md p1)), .val (.int (own_pk p2)), .val (.int (own_pk p3)), .val (.int (own_pk p4)), .unset, .unset, .unset, .unset] [(.int (own_pk p2)), (.int (0 : Int32)), (.ref b11), (.ref b11), (.ref b9), (.ref b9)])) rfl rfl (hb hby at_79)
  have Kp16 : Keep h0 h15 [] := Kp12.wr W15 (Or.inr (Nat.le_trans Kp10.1 (Nat.le_of_eq g11.symm)))
  have gh17 : n0 ≤ b11 := Nat.le_trans (Nat.le_trans Z0 Kp10.1) (Nat.le_of_eq g11.symm)
  obtain ⟨Lp15, X15, N15⟩ := own_pack X15 (Fr.snoc X15 N7 gh17)
  have Vh18 : Arv Z h15 b11 k11 .char (1 : Int32) [(.int (own_q p2))] (.int (0 : Int32)) := (Arv.set Ar14 qc14 Sz14 Ng14 Hs14 Gs14 (fits_nar_char _) W15 0 rfl (Nat.le_of_ble_eq_true rfl))
  have Eh19 : Exa Z h15 b9 "java/lang/String" := ((A9.ext E11).wr W15)
  have Fh20 : Fld Z h9 b9 "java/lang/String" "value" "[B" .null := (D9 (Or.inr (hw _ (List.mem_of_getElem? (i := 20) rfl))) (ty := (.array .byte)) (by decide))
  have Fh21 : Fld Z h15 b9 "java/lang/String" "value" "[B" .null := ((Fh20.ext E11).other W15 (Or.inl (Nat.ne_of_lt (Nat.lt_of_lt_of_le A9.lt (Nat.le_of_eq g11.symm)))))
  have Fh22 : Fld Z h9 b9 "java/lang/String" "coder" "B" (.int (0 : Int32)) := (D9 (Or.inr (hw _ (List.mem_of_getElem? (i := 21) rfl))) (ty := .byte) (by decide))
  have Fh23 : Fld Z h15 b9 "java/lang/String" "coder" "B" (.int (0 : Int32)) := ((Fh22.ext E11).other W15 (Or.inl (Nat.ne_of_lt (Nat.lt_of_lt_of_le A9.lt (Nat.le_of_eq g11.symm)))))
  have hph24 : ∀ c ∈ ([(own_q p2)] : List Int32), ¬ c < 0 ∧ ¬ (255 : Int32) < c := (own_cS (own_rng_q p2) own_c0)
  have hws_words : ∀ d ∈ StrChars.Road.words, d.before a0 Z = true := fun d hd => hw d (own_hws_words d hd)
  have Zh25 : n0 ≤ h15.size := (Nat.le_trans Z0 Kp16.1)
  have gh26 : n0 ≤ b9 := Nat.le_trans (Nat.le_trans Z0 Kp8.1) (Nat.le_of_eq g9.symm)
  have Old27 : Old Z n0 T7.heap := Old6.keep Kq7 all0
  have Old28 : Old Z n0 h9 := Old27.ext E9
  have Old29 : Old Z n0 h11 := Old28.ext E11
  have Old30 : Old Z n0 h15 := Old29.wr W15 gh17
  obtain ⟨_, _, ⟨T31, L31, k31, n31⟩, -, X31, ⟨Lc31, hQ31, l31, y31, z31⟩, st31⟩ := X15.specialBack hx (y := (⟨"java/lang/String", "<init>", "([C)V"⟩ : MethodName)) rfl hown7 (mvT hZ7 (hw _ (List.mem_of_getElem? (i := 8) rfl))) (mvT hZ7 (hw _ (List.mem_of_getElem? (i := 9) rfl))) (mvT hZ7 (hw _ (List.mem_of_getElem? (i := 10) rfl))) (by decide) (StrChars.Road.backV (W := 1) hZ7 hws_words (kI := 4) (hw _ (List.mem_of_getElem? (i := 5) rfl)) (cs := ([(own_q p2)] : List Int32)) (bs := ([(own_q p2)] : List Int32).map (fun c => c.toInt8.toInt32)) (n := 1) gh26 Zh25 Eh19 Fh21 Fh23 Vh18 (O_CS.ext Old30.2) P_CS rfl rfl (by decide) (by decide) hph24 rfl (by decide) (by decide)) (g := (mkF m 80 #[.val (.int p1), .val (.int p2), .val (.int p3), .val (.int p4), .val (.int (own_md p1)), .val (.int (own_pk p2)), .val (.int (own_pk p3)), .val (.int (own_pk p4)), .unset, .unset, .unset, .unset] [(.ref b11), (.ref b9), (.ref b9)])) rfl (by rw [hml]; rfl) (Steps.refl _) (a := b9) (argsL := [(.ref b11)]) (rest := [(.ref b9)]) (lenOf own_pd14 rfl) rfl (by show 2 * 0 + _ ≤ _; exact Nat.le_of_eq rfl) (hb hby at_80) (fun _ _ => ⟨rfl, e15, (by decide : 8 + 1 ≤ _), (by decide : 89 + 1 ≤ _)⟩)
  dsimp only [Pt.U, Pt.locs, Pt.cells, Pt.slots] at X31 l31 y31 z31 st31 hQ31
  subst y31 z31
  obtain ⟨rfl, Nq31, Kq31, Eq31, Cq31, t31, kb31, gt31, szt31, nt31, Vq31, Bq31⟩ := hQ31
  have N31 : Fr n0 L31 := by rw [l31]; exact Fr.app N15 Nq31
  have Kp32 : Keep h0 T31.heap [] := Kp16.trans Kq31 (allS (Or.inr (Nat.le_trans Kp8.1 (Nat.le_of_eq g9.symm))) all0)
  have Old33 : Old Z n0 T31.heap := Old30.keep Kq31 (allS gh26 all0)
  obtain ⟨_, _, ⟨T34, L34, k34, n34⟩, -, X34, ⟨Lc34, hQ34, l34, y34, z34⟩, st34⟩ := Jvm.LawKit.callS X31 hx (y := (⟨"com/example/dragoman/dragoman/core/Language", "forCode", "(Ljava/lang/String;)Ljava/util/Optional;"⟩ : MethodName)) hown7 (mvT hZ7 (hw _ (List.mem_of_getElem? (i := 26) rfl))) (mvT hZ7 (hw _ (List.mem_of_getElem? (i := 27) rfl))) (mvT hZ7 (hw _ (List.mem_of_getElem? (i := 28) rfl))) (mvT hZ7 (hw _ (List.mem_of_getElem? (i := 29) rfl))) (by decide) (backOf (W := 0) (own_rm_fcO l Z a0 hw [] G1 G3 k_EMPTY k_ENGLISH s_ENGLISH t_ENGLISH kb_ENGLISH k_JAPANESE s_JAPANESE t_JAPANESE kb_JAPANESE k_CHINESE s_CHINESE t_CHINESE kb_CHINESE k_VALUES kv_VALUES gl b9 ([(own_q p2)] : List Int32) t31 (kb31) T31.heap n0 (Nat.le_trans Z0 Kp32.1) Old33 Eq31 Vq31 Cq31 Bq31 hph24 (Nat.le_of_ble_eq_true rfl) (fun q => absurd (congrArg List.length q) (show ¬ (2 = 1) by decide)) (fun q => absurd (congrArg List.length q) (show ¬ (2 = 1) by decide)) (fun q => absurd (congrArg List.length q) (show ¬ (2 = 1) by decide))) hZ7 (hw _ (List.mem_of_getElem? (i := 29) rfl)) (hw _ (List.mem_of_getElem? (i := 28) rfl)) (by decide) (by decide)) (g := (mkF m 234 #[.val (.int p1), .val (.int p2), .val (.int p3), .val (.int p4), .val (.int (own_md p1)), .val (.int (own_pk p2)), .val (.int (own_pk p3)), .val (.int (own_pk p4)), .val (.ref b9), .val (.int (1 : Int32)), .val .null, .unset] [(.ref b9)])) rfl (by rw [hml]; rfl) (argsL := [(.ref b9)]) (rest := []) (lenOf own_pd13 rfl) rfl (by show 2 * 0 + _ ≤ _; exact Nat.le_of_eq rfl) (hb hby at_234) (fun _ _ => ⟨rfl, rfl, (by decide : 9 + 1 ≤ _), (by decide : 90 + 3 ≤ _)⟩)
  dsimp only [Pt.U, Pt.locs, Pt.cells, Pt.slots] at X34 l34 y34 z34 st34 hQ34
  subst y34 z34
  obtain ⟨rfl, Nq34, Kq34⟩ := hQ34
  have N34 : Fr n0 L34 := by rw [l34]; exact Fr.app N31 Nq34
  have Kp35 : Keep h0 T34.heap [] := Kp32.trans Kq34 all0
  have Old36 : Old Z n0 T34.heap := Old33.keep Kq34 all0
  obtain ⟨cq37, kq37, q37a, q37b, q37c⟩ := isOf hZ7 rfl (E_EMPTY.ext Old36.2)
  obtain ⟨_, _, ⟨T37, L37, k37, n37⟩, -, X37, ⟨Lc37, hQ37, l37, y37, z37⟩, st37⟩ := X34.virtualBack hx (y := (⟨"java/util/Optional", "orElse", "(Ljava/lang/Object;)Ljava/lang/Object;"⟩ : MethodName)) (z := (⟨"java/util/Optional", "orElse", "(Ljava/lang/Object;)Ljava/lang/Object;"⟩ : MethodName)) hown7 (mvT hZ7 (hw _ (List.mem_of_getElem? (i := 66) rfl))) (mvT hZ7 (hw _ (List.mem_of_getElem? (i := 67) rfl))) (notFace_of_selects (args := #[]) (mvT hZ7 (hw _ (List.mem_of_getElem? (i := 69) rfl)))) (mvT hZ7 (hw _ (List.mem_of_getElem? (i := 69) rfl))) (mvT hZ7 (hw _ (List.mem_of_getElem? (i := 68) rfl))) (by decide) (backOf (W := 0) (own_rm_oeN l Z a0 hw [] G1 G3 k_EMPTY k_ENGLISH s_ENGLISH t_ENGLISH kb_ENGLISH k_JAPANESE s_JAPANESE t_JAPANESE kb_JAPANESE k_CHINESE s_CHINESE t_CHINESE kb_CHINESE k_VALUES kv_VALUES gl k_EMPTY T34.heap n0 (Nat.le_trans Z0 Kp35.1) (F_EMPTY.ext Old36.2)) hZ7 (hw _ (List.mem_of_getElem? (i := 70) rfl)) (hw _ (List.mem_of_getElem? (i := 63) rfl)) (by decide) (by decide)) q37a q37c (g := (mkF m 238 #[.val (.int p1), .val (.int p2), .val (.int p3), .val (.int p4), .val (.int (own_md p1)), .val (.int (own_pk p2)), .val (.int (own_pk p3)), .val (.int (own_pk p4)), .val (.ref b9), .val (.int (1 : Int32)), .val .null, .unset] [.null, (.ref k_EMPTY)])) rfl (by rw [hml]; rfl) (Steps.refl _) (argsL := [.null]) (rest := []) (lenOf own_pd4 rfl) rfl (by show 2 * 0 + _ ≤ _; exact Nat.le_of_eq rfl) (hb hby at_238) (fun _ _ => ⟨rfl, rfl, (by decide : 10 + 0 ≤ _), (by decide : 93 + 0 ≤ _)⟩)
  dsimp only [Pt.U, Pt.locs, Pt.cells, Pt.slots] at X37 l37 y37 z37 st37 hQ37
  subst y37 z37
  obtain ⟨rfl, Nq37, e37⟩ := hQ37
  have N37 : Fr n0 L37 := by rw [l37]; exact Fr.app N34 Nq37
  obtain ⟨fs, hr, hrun, hended, hREW⟩ := X37.leaveW hS7 (by rw [e37]; exact (Nat.le_trans (Nat.le_refl _) (Nat.le_trans (Nat.le_trans (Nat.le_trans (Nat.le_trans E9.1 E11.1) (Keep.of_wr W15).1) Kq31.1) Kq34.1))) (v := some (.int (1 : Int32))) (fun h => by rw [Bd.returns] at h; cases h)
  refine ⟨_, _, pre0 _ ?_, hrun, hended, _, _, rfl, ?_, hREW.1, hREW.2.1, hREW.2.2.1, hREW.2.2.2.mono (by decide) (by decide)⟩
  · show Steps p.tables e below (s₁.setTop (mkF m 0 #[.val (.int p1), .val (.int p2), .val (.int p3), .val (.int p4), .unset, .unset, .unset, .unset, .unset, .unset, .unset, .unset] [])) _
    refine XS.iloadN X0.here hx rfl (hb hby at_0) rfl ?_
    show Steps p.tables e below (s₁.setTop (mkF m 1 #[.val (.int p1), .val (.int p2), .val (.int p3), .val (.int p4), .unset, .unset, .unset, .unset, .unset, .unset, .unset, .unset] [(.int p1)])) _
    refine XS.bipush X0.here hx rfl (hb hby at_1) ?_
    show Steps p.tables e below (s₁.setTop (mkF m 3 #[.val (.int p1), .val (.int p2), .val (.int p3), .val (.int p4), .unset, .unset, .unset, .unset, .unset, .unset, .unset, .unset] [(.int (7 : Int32)), (.int p1)])) _
    refine XS.iand X0.here hx rfl (hb hby at_3) rfl ?_
    show Steps p.tables e below (s₁.setTop (mkF m 4 #[.val (.int p1), .val (.int p2), .val (.int p3), .val (.int p4), .unset, .unset, .unset, .unset, .unset, .unset, .unset, .unset] [(.int (own_md p1))])) _
    refine XS.istore X0.here hx rfl (hb hby at_4) rfl (l' := #[.val (.int p1), .val (.int p2), .val (.int p3), .val (.int p4), .val (.int (own_md p1)), .unset, .unset, .unset, .unset, .unset, .unset, .unset]) rfl ?_
    show Steps p.tables e below (s₁.setTop (mkF m 6 #[.val (.int p1), .val (.int p2), .val (.int p3), .val (.int p4), .val (.int (own_md p1)), .unset, .unset, .unset, .unset, .unset, .unset, .unset] [])) _
    refine XS.iloadN X0.here hx rfl (hb hby at_6) rfl ?_
    show Steps p.tables e below (s₁.setTop (mkF m 7 #[.val (.int p1), .val (.int p2), .val (.int p3), .val (.int p4), .val (.int (own_md p1)), .unset, .unset, .unset, .unset, .unset, .unset, .unset] [(.int p2)])) _
    refine st1.trans ?_
    show Steps p.tables e below (T1.setTop (mkF m 10 #[.val (.int p1), .val (.int p2), .val (.int p3), .val (.int p4), .val (.int (own_md p1)), .unset, .unset, .unset, .unset, .unset, .unset, .unset] [(.int (own_pk p2))])) _
    refine XS.istore Xw1.here hx rfl (hb hby at_10) rfl (l' := #[.val (.int p1), .val (.int p2), .val (.int p3), .val (.int p4), .val (.int (own_md p1)), .val (.int (own_pk p2)), .unset, .unset, .unset, .unset, .unset, .unset]) rfl ?_
    show Steps p.tables e below (T1.setTop (mkF m 12 #[.val (.int p1), .val (.int p2), .val (.int p3), .val (.int p4), .val (.int (own_md p1)), .val (.int (own_pk p2)), .unset, .unset, .unset, .unset, .unset, .unset] [])) _
    refine XS.iloadN Xw1.here hx rfl (hb hby at_12) rfl ?_
    show Steps p.tables e below (T1.setTop (mkF m 13 #[.val (.int p1), .val (.int p2), .val (.int p3), .val (.int p4), .val (.int (own_md p1)), .val (.int (own_pk p2)), .unset, .unset, .unset, .unset, .unset, .unset] [(.int p3)])) _
    refine st4.trans ?_
    show Steps p.tables e below (T4.setTop (mkF m 16 #[.val (.int p1), .val (.int p2), .val (.int p3), .val (.int p4), .val (.int (own_md p1)), .val (.int (own_pk p2)), .unset, .unset, .unset, .unset, .unset, .unset] [(.int (own_pk p3))])) _
    refine XS.istore Xw4.here hx rfl (hb hby at_16) rfl (l' := #[.val (.int p1), .val (.int p2), .val (.int p3), .val (.int p4), .val (.int (own_md p1)), .val (.int (own_pk p2)), .val (.int (own_pk p3)), .unset, .unset, .unset, .unset, .unset]) rfl ?_
    show Steps p.tables e below (T4.setTop (mkF m 18 #[.val (.int p1), .val (.int p2), .val (.int p3), .val (.int p4), .val (.int (own_md p1)), .val (.int (own_pk p2)), .val (.int (own_pk p3)), .unset, .unset, .unset, .unset, .unset] [])) _
    refine XS.iloadN Xw4.here hx rfl (hb hby at_18) rfl ?_
    show Steps p.tables e below (T4.setTop (mkF m 19 #[.val (.int p1), .val (.int p2), .val (.int p3), .val (.int p4), .val (.int (own_md p1)), .val (.int (own_pk p2)), .val (.int (own_pk p3)), .unset, .unset, .unset, .unset, .unset] [(.int p4)])) _
    refine st7.trans ?_
    show Steps p.tables e below (T7.setTop (mkF m 22 #[.val (.int p1), .val (.int p2), .val (.int p3), .val (.int p4), .val (.int (own_md p1)), .val (.int (own_pk p2)), .val (.int (own_pk p3)), .unset, .unset, .unset, .unset, .unset] [(.int (own_pk p4))])) _
    refine XS.istore Xw7.here hx rfl (hb hby at_22) rfl (l' := #[.val (.int p1), .val (.int p2), .val (.int p3), .val (.int p4), .val (.int (own_md p1)), .val (.int (own_pk p2)), .val (.int (own_pk p3)), .val (.int (own_pk p4)), .unset, .unset, .unset, .unset]) rfl ?_
    show Steps p.tables e below (T7.setTop (mkF m 24 #[.val (.int p1), .val (.int p2), .val (.int p3), .val (.int p4), .val (.int (own_md p1)), .val (.int (own_pk p2)), .val (.int (own_pk p3)), .val (.int (own_pk p4)), .unset, .unset, .unset, .unset] [])) _
    refine XS.iload Xw7.here hx rfl (hb hby at_24) rfl ?_
    show Steps p.tables e below (T7.setTop (mkF m 26 #[.val (.int p1), .val (.int p2), .val (.int p3), .val (.int p4), .val (.int (own_md p1)), .val (.int (own_pk p2)), .val (.int (own_pk p3)), .val (.int (own_pk p4)), .unset, .unset, .unset, .unset] [(.int (own_md p1))])) _
    refine XS.iconst Xw7.here hx rfl (hb hby at_26) ?_
    show Steps p.tables e below (T7.setTop (mkF m 27 #[.val (.int p1), .val (.int p2), .val (.int p3), .val (.int p4), .val (.int (own_md p1)), .val (.int (own_pk p2)), .val (.int (own_pk p3)), .val (.int (own_pk p4)), .unset, .unset, .unset, .unset] [(.int (4 : Int32)), (.int (own_md p1))])) _
    refine XS.icmpYes Xw7.here hx rfl (pc0 := 27) (pc' := 39) rfl (hb hby at_27) rfl (feq ((by rw [hk]; decide) : ¬ ((own_md p1) = (4 : Int32)))).2 (by decide) (by decide) ?_
    show Steps p.tables e below (T7.setTop (mkF m 39 #[.val (.int p1), .val (.int p2), .val (.int p3), .val (.int p4), .val (.int (own_md p1)), .val (.int (own_pk p2)), .val (.int (own_pk p3)), .val (.int (own_pk p4)), .unset, .unset, .unset, .unset] [])) _
    refine XS.iload Xw7.here hx rfl (hb hby at_39) rfl ?_
    show Steps p.tables e below (T7.setTop (mkF m 41 #[.val (.int p1), .val (.int p2), .val (.int p3), .val (.int p4), .val (.int (own_md p1)), .val (.int (own_pk p2)), .val (.int (own_pk p3)), .val (.int (own_pk p4)), .unset, .unset, .unset, .unset] [(.int (own_md p1))])) _
    refine XS.ifYes Xw7.here hx rfl (pc0 := 41) (pc' := 62) rfl (hb hby at_41) rfl ((if0 _ _).trans (feq ((by rw [hk]; decide) : ¬ ((own_md p1) = (0 : Int32)))).2) (by decide) (by decide) ?_
    show Steps p.tables e below (T7.setTop (mkF m 62 #[.val (.int p1), .val (.int p2), .val (.int p3), .val (.int p4), .val (.int (own_md p1)), .val (.int (own_pk p2)), .val (.int (own_pk p3)), .val (.int (own_pk p4)), .unset, .unset, .unset, .unset] [])) _
    refine XS.iload Xw7.here hx rfl (hb hby at_62) rfl ?_
    show Steps p.tables e below (T7.setTop (mkF m 64 #[.val (.int p1), .val (.int p2), .val (.int p3), .val (.int p4), .val (.int (own_md p1)), .val (.int (own_pk p2)), .val (.int (own_pk p3)), .val (.int (own_pk p4)), .unset, .unset, .unset, .unset] [(.int (own_md p1))])) _
    refine XS.iconst Xw7.here hx rfl (hb hby at_64) ?_
    show Steps p.tables e below (T7.setTop (mkF m 65 #[.val (.int p1), .val (.int p2), .val (.int p3), .val (.int p4), .val (.int (own_md p1)), .val (.int (own_pk p2)), .val (.int (own_pk p3)), .val (.int (own_pk p4)), .unset, .unset, .unset, .unset] [(.int (1 : Int32)), (.int (own_md p1))])) _
    refine XS.icmpNo Xw7.here hx rfl (hb hby at_65) rfl (teq (hk : (own_md p1) = (1 : Int32))).2 ?_
    show Steps p.tables e below (T7.setTop (mkF m 68 #[.val (.int p1), .val (.int p2), .val (.int p3), .val (.int p4), .val (.int (own_md p1)), .val (.int (own_pk p2)), .val (.int (own_pk p3)), .val (.int (own_pk p4)), .unset, .unset, .unset, .unset] [])) _
    refine st9 _ ?_
    show Steps p.tables e below (T9.setTop (mkF m 71 #[.val (.int p1), .val (.int p2), .val (.int p3), .val (.int p4), .val (.int (own_md p1)), .val (.int (own_pk p2)), .val (.int (own_pk p3)), .val (.int (own_pk p4)), .unset, .unset, .unset, .unset] [(.ref b9)])) _
    refine XS.dup X9.here hx rfl (hb hby at_71) rfl rfl ?_
    show Steps p.tables e below (T9.setTop (mkF m 72 #[.val (.int p1), .val (.int p2), .val (.int p3), .val (.int p4), .val (.int (own_md p1)), .val (.int (own_pk p2)), .val (.int (own_pk p3)), .val (.int (own_pk p4)), .unset, .unset, .unset, .unset] [(.ref b9), (.ref b9)])) _
    refine XS.iconst X9.here hx rfl (hb hby at_72) ?_
    show Steps p.tables e below (T9.setTop (mkF m 73 #[.val (.int p1), .val (.int p2), .val (.int p3), .val (.int p4), .val (.int (own_md p1)), .val (.int (own_pk p2)), .val (.int (own_pk p3)), .val (.int (own_pk p4)), .unset, .unset, .unset, .unset] [(.int (1 : Int32)), (.ref b9), (.ref b9)])) _
    refine st11 _ ?_
    show Steps p.tables e below (T11.setTop (mkF m 75 #[.val (.int p1), .val (.int p2), .val (.int p3), .val (.int p4), .val (.int (own_md p1)), .val (.int (own_pk p2)), .val (.int (own_pk p3)), .val (.int (own_pk p4)), .unset, .unset, .unset, .unset] [(.ref b11), (.ref b9), (.ref b9)])) _
    refine XS.dup X11.here hx rfl (hb hby at_75) rfl rfl ?_
    show Steps p.tables e below (T11.setTop (mkF m 76 #[.val (.int p1), .val (.int p2), .val (.int p3), .val (.int p4), .val (.int (own_md p1)), .val (.int (own_pk p2)), .val (.int (own_pk p3)), .val (.int (own_pk p4)), .unset, .unset, .unset, .unset] [(.ref b11), (.ref b11), (.ref b9), (.ref b9)])) _
    refine XS.iconst X11.here hx rfl (hb hby at_76) ?_
    show Steps p.tables e below (T11.setTop (mkF m 77 #[.val (.int p1), .val (.int p2), .val (.int p3), .val (.int p4), .val (.int (own_md p1)), .val (.int (own_pk p2)), .val (.int (own_pk p3)), .val (.int (own_pk p4)), .unset, .unset, .unset, .unset] [(.int (0 : Int32)), (.ref b11), (.ref b11), (.ref b9), (.ref b9)])) _
    refine XS.iload X11.here hx rfl (hb hby at_77) rfl ?_
    show Steps p.tables e below (T11.setTop (mkF m 79 #[.val (.int p1), .val (.int p2), .val (.int p3), .val (.int p4), .val (.int (own_md p1)), .val (.int (own_pk p2)), .val (.int (own_pk p3)), .val (.int (own_pk p4)), .unset, .unset, .unset, .unset] [(.int (own_pk p2)), (.int (0 : Int32)), (.ref b11), (.ref b11), (.ref b9), (.ref b9)])) _
    refine st15 _ ?_
    show Steps p.tables e below (T15.setTop (mkF m 80 #[.val (.int p1), .val (.int p2), .val (.int p3), .val (.int p4), .val (.int (own_md p1)), .val (.int (own_pk p2)), .val (.int (own_pk p3)), .val (.int (own_pk p4)), .unset, .unset, .unset, .unset] [(.ref b11), (.ref b9), (.ref b9)])) _
    refine st31.trans ?_
    show Steps p.tables e below (T31.setTop (mkF m 83 #[.val (.int p1), .val (.int p2), .val (.int p3), .val (.int p4), .val (.int (own_md p1)), .val (.int (own_pk p2)), .val (.int (own_pk p3)), .val (.int (own_pk p4)), .unset, .unset, .unset, .unset] [(.ref b9)])) _
    refine XS.astore X31.here hx rfl (hb hby at_83) rfl rfl (l' := #[.val (.int p1), .val (.int p2), .val (.int p3), .val (.int p4), .val (.int (own_md p1)), .val (.int (own_pk p2)), .val (.int (own_pk p3)), .val (.int (own_pk p4)), .val (.ref b9), .unset, .unset, .unset]) rfl ?_
    show Steps p.tables e below (T31.setTop (mkF m 85 #[.val (.int p1), .val (.int p2), .val (.int p3), .val (.int p4), .val (.int (own_md p1)), .val (.int (own_pk p2)), .val (.int (own_pk p3)), .val (.int (own_pk p4)), .val (.ref b9), .unset, .unset, .unset] [])) _
    refine XS.iconst X31.here hx rfl (hb hby at_85) ?_
    show Steps p.tables e below (T31.setTop (mkF m 86 #[.val (.int p1), .val (.int p2), .val (.int p3), .val (.int p4), .val (.int (own_md p1)), .val (.int (own_pk p2)), .val (.int (own_pk p3)), .val (.int (own_pk p4)), .val (.ref b9), .unset, .unset, .unset] [(.int (1 : Int32))])) _
    refine XS.istore X31.here hx rfl (hb hby at_86) rfl (l' := #[.val (.int p1), .val (.int p2), .val (.int p3), .val (.int p4), .val (.int (own_md p1)), .val (.int (own_pk p2)), .val (.int (own_pk p3)), .val (.int (own_pk p4)), .val (.ref b9), .val (.int (1 : Int32)), .unset, .unset]) rfl ?_
    show Steps p.tables e below (T31.setTop (mkF m 88 #[.val (.int p1), .val (.int p2), .val (.int p3), .val (.int p4), .val (.int (own_md p1)), .val (.int (own_pk p2)), .val (.int (own_pk p3)), .val (.int (own_pk p4)), .val (.ref b9), .val (.int (1 : Int32)), .unset, .unset] [])) _
    refine XS.goto X31.here hx rfl (pc0 := 88) (pc' := 155) rfl (hb hby at_88) (by decide) (by decide) ?_
    show Steps p.tables e below (T31.setTop (mkF m 155 #[.val (.int p1), .val (.int p2), .val (.int p3), .val (.int p4), .val (.int (own_md p1)), .val (.int (own_pk p2)), .val (.int (own_pk p3)), .val (.int (own_pk p4)), .val (.ref b9), .val (.int (1 : Int32)), .unset, .unset] [])) _
    refine XS.aconstNull X31.here hx rfl (hb hby at_155) ?_
    show Steps p.tables e below (T31.setTop (mkF m 156 #[.val (.int p1), .val (.int p2), .val (.int p3), .val (.int p4), .val (.int (own_md p1)), .val (.int (own_pk p2)), .val (.int (own_pk p3)), .val (.int (own_pk p4)), .val (.ref b9), .val (.int (1 : Int32)), .unset, .unset] [.null])) _
    refine XS.astore X31.here hx rfl (hb hby at_156) rfl rfl (l' := #[.val (.int p1), .val (.int p2), .val (.int p3), .val (.int p4), .val (.int (own_md p1)), .val (.int (own_pk p2)), .val (.int (own_pk p3)), .val (.int (own_pk p4)), .val (.ref b9), .val (.int (1 : Int32)), .val .null, .unset]) rfl ?_
    show Steps p.tables e below (T31.setTop (mkF m 158 #[.val (.int p1), .val (.int p2), .val (.int p3), .val (.int p4), .val (.int (own_md p1)), .val (.int (own_pk p2)), .val (.int (own_pk p3)), .val (.int (own_pk p4)), .val (.ref b9), .val (.int (1 : Int32)), .val .null, .unset] [])) _
    refine XS.aload X31.here hx rfl (hb hby at_158) rfl rfl ?_
    show Steps p.tables e below (T31.setTop (mkF m 160 #[.val (.int p1), .val (.int p2), .val (.int p3), .val (.int p4), .val (.int (own_md p1)), .val (.int (own_pk p2)), .val (.int (own_pk p3)), .val (.int (own_pk p4)), .val (.ref b9), .val (.int (1 : Int32)), .val .null, .unset] [(.ref b9)])) _
    refine XS.ifnullNo X31.here hx rfl (hb hby at_160) rfl ?_
    show Steps p.tables e below (T31.setTop (mkF m 163 #[.val (.int p1), .val (.int p2), .val (.int p3), .val (.int p4), .val (.int (own_md p1)), .val (.int (own_pk p2)), .val (.int (own_pk p3)), .val (.int (own_pk p4)), .val (.ref b9), .val (.int (1 : Int32)), .val .null, .unset] [])) _
    refine XS.iload X31.here hx rfl (hb hby at_163) rfl ?_
    show Steps p.tables e below (T31.setTop (mkF m 165 #[.val (.int p1), .val (.int p2), .val (.int p3), .val (.int p4), .val (.int (own_md p1)), .val (.int (own_pk p2)), .val (.int (own_pk p3)), .val (.int (own_pk p4)), .val (.ref b9), .val (.int (1 : Int32)), .val .null, .unset] [(.int (1 : Int32))])) _
    refine XS.iconst X31.here hx rfl (hb hby at_165) ?_
    show Steps p.tables e below (T31.setTop (mkF m 166 #[.val (.int p1), .val (.int p2), .val (.int p3), .val (.int p4), .val (.int (own_md p1)), .val (.int (own_pk p2)), .val (.int (own_pk p3)), .val (.int (own_pk p4)), .val (.ref b9), .val (.int (1 : Int32)), .val .null, .unset] [(.int (2 : Int32)), (.int (1 : Int32))])) _
    refine XS.icmpYes X31.here hx rfl (pc0 := 166) (pc' := 232) rfl (hb hby at_166) rfl (feq (by decide : ¬ ((1 : Int32) = (2 : Int32)))).2 (by decide) (by decide) ?_
    show Steps p.tables e below (T31.setTop (mkF m 232 #[.val (.int p1), .val (.int p2), .val (.int p3), .val (.int p4), .val (.int (own_md p1)), .val (.int (own_pk p2)), .val (.int (own_pk p3)), .val (.int (own_pk p4)), .val (.ref b9), .val (.int (1 : Int32)), .val .null, .unset] [])) _
    refine XS.aload X31.here hx rfl (hb hby at_232) rfl rfl ?_
    show Steps p.tables e below (T31.setTop (mkF m 234 #[.val (.int p1), .val (.int p2), .val (.int p3), .val (.int p4), .val (.int (own_md p1)), .val (.int (own_pk p2)), .val (.int (own_pk p3)), .val (.int (own_pk p4)), .val (.ref b9), .val (.int (1 : Int32)), .val .null, .unset] [(.ref b9)])) _
    refine st34 _ ?_
    show Steps p.tables e below (T34.setTop (mkF m 237 #[.val (.int p1), .val (.int p2), .val (.int p3), .val (.int p4), .val (.int (own_md p1)), .val (.int (own_pk p2)), .val (.int (own_pk p3)), .val (.int (own_pk p4)), .val (.ref b9), .val (.int (1 : Int32)), .val .null, .unset] [(.ref k_EMPTY)])) _
    refine XS.aconstNull X34.here hx rfl (hb hby at_237) ?_
    show Steps p.tables e below (T34.setTop (mkF m 238 #[.val (.int p1), .val (.int p2), .val (.int p3), .val (.int p4), .val (.int (own_md p1)), .val (.int (own_pk p2)), .val (.int (own_pk p3)), .val (.int (own_pk p4)), .val (.ref b9), .val (.int (1 : Int32)), .val .null, .unset] [.null, (.ref k_EMPTY)])) _
    refine st37.trans ?_
    show Steps p.tables e below (T37.setTop (mkF m 241 #[.val (.int p1), .val (.int p2), .val (.int p3), .val (.int p4), .val (.int (own_md p1)), .val (.int (own_pk p2)), .val (.int (own_pk p3)), .val (.int (own_pk p4)), .val (.ref b9), .val (.int (1 : Int32)), .val .null, .unset] [.null])) _
    refine X37.checkcastNull hx (g := (mkF m 241 #[.val (.int p1), .val (.int p2), .val (.int p3), .val (.int p4), .val (.int (own_md p1)), .val (.int (own_pk p2)), .val (.int (own_pk p3)), .val (.int (own_pk p4)), .val (.ref b9), .val (.int (1 : Int32)), .val .null, .unset] [.null])) rfl rfl (hb hby at_241) _ ?_
    show Steps p.tables e below (T37.setTop (mkF m 244 #[.val (.int p1), .val (.int p2), .val (.int p3), .val (.int p4), .val (.int (own_md p1)), .val (.int (own_pk p2)), .val (.int (own_pk p3)), .val (.int (own_pk p4)), .val (.ref b9), .val (.int (1 : Int32)), .val .null, .unset] [.null])) _
    refine XS.astore X37.here hx rfl (hb hby at_244) rfl rfl (l' := #[.val (.int p1), .val (.int p2), .val (.int p3), .val (.int p4), .val (.int (own_md p1)), .val (.int (own_pk p2)), .val (.int (own_pk p3)), .val (.int (own_pk p4)), .val (.ref b9), .val (.int (1 : Int32)), .val .null, .val .null]) rfl ?_
    show Steps p.tables e below (T37.setTop (mkF m 246 #[.val (.int p1), .val (.int p2), .val (.int p3), .val (.int p4), .val (.int (own_md p1)), .val (.int (own_pk p2)), .val (.int (own_pk p3)), .val (.int (own_pk p4)), .val (.ref b9), .val (.int (1 : Int32)), .val .null, .val .null] [])) _
    refine XS.aload X37.here hx rfl (hb hby at_246) rfl rfl ?_
    show Steps p.tables e below (T37.setTop (mkF m 248 #[.val (.int p1), .val (.int p2), .val (.int p3), .val (.int p4), .val (.int (own_md p1)), .val (.int (own_pk p2)), .val (.int (own_pk p3)), .val (.int (own_pk p4)), .val (.ref b9), .val (.int (1 : Int32)), .val .null, .val .null] [.null])) _
    refine XS.aload X37.here hx rfl (hb hby at_248) rfl rfl ?_
    show Steps p.tables e below (T37.setTop (mkF m 250 #[.val (.int p1), .val (.int p2), .val (.int p3), .val (.int p4), .val (.int (own_md p1)), .val (.int (own_pk p2)), .val (.int (own_pk p3)), .val (.int (own_pk p4)), .val (.ref b9), .val (.int (1 : Int32)), .val .null, .val .null] [.null, .null])) _
    refine Jvm.RoadKit.acmp (g := (mkF m 250 #[.val (.int p1), .val (.int p2), .val (.int p3), .val (.int p4), .val (.int (own_md p1)), .val (.int (own_pk p2)), .val (.int (own_pk p3)), .val (.int (own_pk p4)), .val (.ref b9), .val (.int (1 : Int32)), .val .null, .val .null] [.null, .null])) X37 hx rfl rfl rfl (pc0 := 250) (pc' := 253) (same := true) rfl (hb hby at_250) rfl (decide_eq_true rfl) (by decide) (by decide) ?_
    show Steps p.tables e below (T37.setTop (mkF m 253 #[.val (.int p1), .val (.int p2), .val (.int p3), .val (.int p4), .val (.int (own_md p1)), .val (.int (own_pk p2)), .val (.int (own_pk p3)), .val (.int (own_pk p4)), .val (.ref b9), .val (.int (1 : Int32)), .val .null, .val .null] [])) _
    refine XS.iconst X37.here hx rfl (hb hby at_253) ?_
    show Steps p.tables e below (T37.setTop (mkF m 254 #[.val (.int p1), .val (.int p2), .val (.int p3), .val (.int p4), .val (.int (own_md p1)), .val (.int (own_pk p2)), .val (.int (own_pk p3)), .val (.int (own_pk p4)), .val (.ref b9), .val (.int (1 : Int32)), .val .null, .val .null] [(.int (1 : Int32))])) _
    refine XS.goto X37.here hx rfl (pc0 := 254) (pc' := 258) rfl (hb hby at_254) (by decide) (by decide) ?_
    show Steps p.tables e below (T37.setTop (mkF m 258 #[.val (.int p1), .val (.int p2), .val (.int p3), .val (.int p4), .val (.int (own_md p1)), .val (.int (own_pk p2)), .val (.int (own_pk p3)), .val (.int (own_pk p4)), .val (.ref b9), .val (.int (1 : Int32)), .val .null, .val .null] [(.int (1 : Int32))])) _
    exact retN X37 hx (t := .boolean) Bd.returns (by simp) (hb hby at_258) hr
  · show own_Qlaw h0 n0 _ T37.heap _
    exact ⟨rfl, N37⟩
theorem own_eflaw3 (m : MethodId) (p1 : Int32) (p2 : Int32) (p3 : Int32) (p4 : Int32) : entryFrame m #[(.int p1), (.int p2), (.int p3), (.int p4)] maxLocals = mkF m 0 #[.val (.int p1), .val (.int p2), .val (.int p3), .val (.int p4), .unset, .unset, .unset, .unset, .unset, .unset, .unset, .unset] [] := by first | (simp [entryFrame, mkF, argsToLocals, Value.category, maxLocals]; done) | rfl
set_option maxRecDepth 65536 in
set_option maxHeartbeats 40000000 in
theorem own_law3 (l : Launch) (Z : State) (a0 : Array Value) (hw : ∀ d ∈ tables_1, d.before a0 Z = true) (ws : List Jvm.Cond) (G1 : Int32) (G3 : Value) (k_EMPTY : Addr) (k_ENGLISH : Addr) (s_ENGLISH : Addr) (t_ENGLISH : Addr) (kb_ENGLISH : ClassId) (k_JAPANESE : Addr) (s_JAPANESE : Addr) (t_JAPANESE : Addr) (kb_JAPANESE : ClassId) (k_CHINESE : Addr) (s_CHINESE : Addr) (t_CHINESE : Addr) (kb_CHINESE : ClassId) (k_VALUES : Addr) (kv_VALUES : ClassId) (gl : own_Glob Z G1 G3 k_EMPTY k_ENGLISH s_ENGLISH t_ENGLISH kb_ENGLISH k_JAPANESE s_JAPANESE t_JAPANESE kb_JAPANESE k_CHINESE s_CHINESE t_CHINESE kb_CHINESE k_VALUES kv_VALUES) (p1 : Int32) (p2 : Int32) (p3 : Int32) (p4 : Int32) (h0 : Heap) (n0 : Nat) (Z0 : n0 ≤ h0.size) (X00 : Old Z n0 h0) (hk : own_md p1 = 3) :
    MetFree l x (head1 (Jvm.Cond.code x code maxLocals ret :: ws) room_1) (fun a U => a = #[(.int p1), (.int p2), (.int p3), (.int p4)] ∧ Z.Warmed39 U.vm ∧ U.heap = h0 ∧ CHv Z consts_1 U.vm h0) (fun _ _ _ _ _ => True) (fun _ U o U' => ∃ v L, o = .returned v ∧ own_Qlaw h0 n0 v U'.heap L ∧ ReturnedEndW U o U' L room_1.cells room_1.slots) := by
  refine MetFree.of_bodySF (plainFor_of_name own_pn8) hisR ?_
  intro p e s m args below meth c s₁ Bd hml0 hP hK
  obtain ⟨rfl, hZ, hh, hCH⟩ := hP
  obtain ⟨O_CS, P_CS, O_SI, P_SI, O_EMPTY, E_EMPTY, F_EMPTY, O_ENGLISH, E_ENGLISH, Fs_ENGLISH, Es_ENGLISH, Fc_ENGLISH, Fv_ENGLISH, V_ENGLISH, O_JAPANESE, E_JAPANESE, Fs_JAPANESE, Es_JAPANESE, Fc_JAPANESE, Fv_JAPANESE, V_JAPANESE, O_CHINESE, E_CHINESE, Fs_CHINESE, Es_CHINESE, Fc_CHINESE, Fv_CHINESE, V_CHINESE, O_VALUES, E_VALUES, V_VALUES⟩ := id gl
  have hx := Bd.exec
  have hby := Bd.bytes
  have hml : c.maxLocals = 12 := hml0
  have hown : s.vm.findClass "com/example/dragoman/dragoman/core/LanguageForCodePinLaw" = some m.cls := findClass_of_methodNamed Bd.named
  have hnm := (name_of_methodNamed Bd.named Bd.method).1
  have X0 : Stand p l e room_1 s m #[(.int p1), (.int p2), (.int p3), (.int p4)] below meth c s₁ [] 0 0 := Stand.of_body Bd
  have e0 : s₁.heap = h0 := by rw [← hh, Bd.state]; rfl
  have N0 := Fr.nil n0
  have pre0 : ∀ t, Steps p.tables e below (s₁.setTop (mkF m 0 #[.val (.int p1), .val (.int p2), .val (.int p3), .val (.int p4), .unset, .unset, .unset, .unset, .unset, .unset, .unset, .unset] [])) t → Steps p.tables e below (s₁.setTop (entryFrame m #[(.int p1), (.int p2), (.int p3), (.int p4)] maxLocals)) t := fun t k => castTop (own_eflaw3 m p1 p2 p3 p4) k
  obtain ⟨_, _, ⟨T1, L1, k1, n1⟩, -, X1, hSq1, hgr1, ⟨Lc1, hQ1, l1, y1, z1, hCr1⟩, st1⟩ := callSS X0 hx (y := (⟨"com/example/dragoman/dragoman/core/LanguageForCodePinLaw", "pick", "(I)C"⟩ : MethodName)) hown (mvT hZ (hw _ (List.mem_of_getElem? (i := 0) rfl))) (mvT hZ (hw _ (List.mem_of_getElem? (i := 1) rfl))) (mvT hZ (hw _ (List.mem_of_getElem? (i := 2) rfl))) (mvT hZ (hw _ (List.mem_of_getElem? (i := 3) rfl))) (by decide) (backOfSH (s := s) (vm0 := s.vm) (W := 0) (own_rm_pk l Z a0 hw [] G1 G3 k_EMPTY k_ENGLISH s_ENGLISH t_ENGLISH kb_ENGLISH k_JAPANESE s_JAPANESE t_JAPANESE kb_JAPANESE k_CHINESE s_CHINESE t_CHINESE kb_CHINESE k_VALUES kv_VALUES gl p2 h0 n0 Z0 X00 ) hZ (hw _ (List.mem_of_getElem? (i := 3) rfl)) (hw _ (List.mem_of_getElem? (i := 2) rfl)) (by decide) (by decide) (own_EW hw) hCH) (g := (mkF m 7 #[.val (.int p1), .val (.int p2), .val (.int p3), .val (.int p4), .val (.int (own_md p1)), .unset, .unset, .unset, .unset, .unset, .unset, .unset] [(.int p2)])) rfl (by rw [hml]; rfl) (argsL := [(.int p2)]) (rest := []) (lenOf own_pd7 rfl) rfl (by show 2 * 0 + _ ≤ _; exact Nat.le_of_eq rfl) (hb hby at_7) (fun _ _ => ⟨rfl, e0, (by decide : 0 + 2 ≤ _), (by decide : 0 + 28 ≤ _)⟩)
  dsimp only [Pt.U, Pt.locs, Pt.cells, Pt.slots] at X1 l1 y1 z1 st1 hQ1 hSq1 hgr1 hCr1
  subst y1 z1
  obtain ⟨Xw1, hS1, hZ1, hown1⟩ := rebS (vm0 := s.vm) ((State.WarmedH.refl s).since 0) (by rw [e0]; exact (Nat.zero_le _)) X1 hSq1 hgr1 hZ hown
  obtain ⟨rfl, Nq1, Kq1⟩ := hQ1
  have N1 : Fr n0 L1 := by rw [l1]; exact Fr.app N0 Nq1
  have Kp2 : Keep h0 T1.heap [] := (Keep.refl h0 []).trans Kq1 all0
  have Old3 : Old Z n0 T1.heap := X00.keep Kq1 all0
  obtain ⟨_, _, ⟨T4, L4, k4, n4⟩, -, X4, hSq4, hgr4, ⟨Lc4, hQ4, l4, y4, z4, hCr4⟩, st4⟩ := callSS Xw1 hx (y := (⟨"com/example/dragoman/dragoman/core/LanguageForCodePinLaw", "pick", "(I)C"⟩ : MethodName)) hown1 (mvT hZ1 (hw _ (List.mem_of_getElem? (i := 0) rfl))) (mvT hZ1 (hw _ (List.mem_of_getElem? (i := 1) rfl))) (mvT hZ1 (hw _ (List.mem_of_getElem? (i := 2) rfl))) (mvT hZ1 (hw _ (List.mem_of_getElem? (i := 3) rfl))) (by decide) (backOfSH (s := s) (vm0 := T1.vm) (W := 0) (own_rm_pk l Z a0 hw [] G1 G3 k_EMPTY k_ENGLISH s_ENGLISH t_ENGLISH kb_ENGLISH k_JAPANESE s_JAPANESE t_JAPANESE kb_JAPANESE k_CHINESE s_CHINESE t_CHINESE kb_CHINESE k_VALUES kv_VALUES gl p3 T1.heap n0 (Nat.le_trans Z0 Kp2.1) Old3 ) hZ1 (hw _ (List.mem_of_getElem? (i := 3) rfl)) (hw _ (List.mem_of_getElem? (i := 2) rfl)) (by decide) (by decide) (own_EW hw) hCr1.1) (g := (mkF m 13 #[.val (.int p1), .val (.int p2), .val (.int p3), .val (.int p4), .val (.int (own_md p1)), .val (.int (own_pk p2)), .unset, .unset, .unset, .unset, .unset, .unset] [(.int p3)])) rfl (by rw [hml]; rfl) (argsL := [(.int p3)]) (rest := []) (lenOf own_pd7 rfl) rfl (by show 2 * 0 + _ ≤ _; exact Nat.le_of_eq rfl) (hb hby at_13) (fun _ _ => ⟨rfl, rfl, (by decide : 2 + 2 ≤ _), (by decide : 28 + 28 ≤ _)⟩)
  dsimp only [Pt.U, Pt.locs, Pt.cells, Pt.slots] at X4 l4 y4 z4 st4 hQ4 hSq4 hgr4 hCr4
  subst y4 z4
  obtain ⟨Xw4, hS4, hZ4, hown4⟩ := rebS (vm0 := T1.vm) hS1 (Nat.le_refl _) X4 hSq4 hgr4 hZ1 hown1
  obtain ⟨rfl, Nq4, Kq4⟩ := hQ4
  have N4 : Fr n0 L4 := by rw [l4]; exact Fr.app N1 Nq4
  have Kp5 : Keep h0 T4.heap [] := Kp2.trans Kq4 all0
  have Old6 : Old Z n0 T4.heap := Old3.keep Kq4 all0
  obtain ⟨_, _, ⟨T7, L7, k7, n7⟩, -, X7, hSq7, hgr7, ⟨Lc7, hQ7, l7, y7, z7, hCr7⟩, st7⟩ := callSS Xw4 hx (y := (⟨"com/example/dragoman/dragoman/core/LanguageForCodePinLaw", "pick", "(I)C"⟩ : MethodName)) hown4 (mvT hZ4 (hw _ (List.mem_of_getElem? (i := 0) rfl))) (mvT hZ4 (hw _ (List.mem_of_getElem? (i := 1) rfl))) (mvT hZ4 (hw _ (List.mem_of_getElem? (i := 2) rfl))) (mvT hZ4 (hw _ (List.mem_of_getElem? (i := 3) rfl))) (by decide) (backOfSH (s := s) (vm0 := T4.vm) (W := 0) (own_rm_pk l Z a0 hw [] G1 G3 k_EMPTY k_ENGLISH s_ENGLISH t_ENGLISH kb_ENGLISH k_JAPANESE s_JAPANESE t_JAPANESE kb_JAPANESE k_CHINESE s_CHINESE t_CHINESE kb_CHINESE k_VALUES kv_VALUES gl p4 T4.heap n0 (Nat.le_trans Z0 Kp5.1) Old6 ) hZ4 (hw _ (List.mem_of_getElem? (i := 3) rfl)) (hw _ (List.mem_of_getElem? (i := 2) rfl)) (by decide) (by decide) (own_EW hw) hCr4.1) (g := (mkF m 19 #[.val (.int p1), .val (.int p2), .val (.int p3), .val (.int p4), .val (.int (own_md p1)), .val (.int (own_pk p2)), .val (.int (own_pk p3)), .unset, .unset, .unset, .unset, .unset] [(.int p4)])) rfl (by rw [hml]; rfl) (argsL := [(.int p4)]) (rest := []) (lenOf own_pd7 rfl) rfl (by show 2 * 0 + _ ≤ _; exact Nat.le_of_eq rfl) (hb hby at_19) (fun _ _ => ⟨rfl, rfl, (by decide : 4 + 2 ≤ _), (by decide : 56 + 28 ≤ _)⟩)
  dsimp only [Pt.U, Pt.locs, Pt.cells, Pt.slots] at X7 l7 y7 z7 st7 hQ7 hSq7 hgr7 hCr7
  subst y7 z7
  obtain ⟨Xw7, hS7, hZ7, hown7⟩ := rebS (vm0 := T4.vm) hS4 (Nat.le_refl _) X7 hSq7 hgr7 hZ4 hown4
  obtain ⟨rfl, Nq7, Kq7⟩ := hQ7
  have N7 : Fr n0 L7 := by rw [l7]; exact Fr.app N4 Nq7
  have Kp8 : Keep h0 T7.heap [] := Kp5.trans Kq7 all0
  obtain ⟨T9, h9, X9, e9, E9, A9, D9, U9, st9⟩ := newO Xw7 hx hZ7 hown7 (hw _ (List.mem_of_getElem? (i := 4) rfl)) (hw _ (List.mem_of_getElem? (i := 5) rfl)) (hw _ (List.mem_of_getElem? (i := 6) rfl)) rfl (g := (mkF m 97 #[.val (.int p1), .val (.int p2), .val (.int p3), .val (.int p4), .val (.int (own_md p1)), .val (.int (own_pk p2)), .val (.int (own_pk p3)), .val (.int (own_pk p4)), .unset, .unset, .unset, .unset] [])) rfl (hb hby at_97) (by decide) (by decide)
  obtain ⟨b9, g9⟩ : ∃ z, z = T7.heap.size := ⟨_, rfl⟩
  rw [← g9] at A9 D9 U9 st9
  have Kp10 : Keep h0 h9 [] := Kp8.ext E9
  obtain ⟨T11, h11, k11, X11, e11, E11, A11, st11⟩ := newP X9 hx hZ7 (hw _ (List.mem_of_getElem? (i := 7) rfl)) e9 (g := (mkF m 102 #[.val (.int p1), .val (.int p2), .val (.int p3), .val (.int p4), .val (.int (own_md p1)), .val (.int (own_pk p2)), .val (.int (own_pk p3)), .val (.int (own_pk p4)), .unset, .unset, .unset, .unset] [(.int (3 : Int32)), (.ref b9), (.ref b9)])) rfl (hb hby at_102) rfl (by decide) (cap := 3) (by decide) (by decide) (by decide) (by decide)
  obtain ⟨b11, g11⟩ : ∃ z, z = h9.size := ⟨_, rfl⟩
  rw [← g11] at A11 st11
  have Kp12 : Keep h0 h11 [] := Kp10.ext E11
  have Vh13 : Arv Z h11 b11 k11 .char (3 : Int32) [(.int (0 : Int32)), (.int (0 : Int32)), (.int (0 : Int32))] (.int (0 : Int32)) := (Arv.new A11 (by decide)).pad (pad_rep [] (.int (0 : Int32)) 3)
  obtain ⟨cl14, Ar14, qc14, Sz14, Ng14, Hs14, Gs14⟩ := id Vh13
  have hin14 : ¬ ((0 : Int32) < 0 ∨ cl14.slots.size ≤ ((0 : Int32)).toNatClampNeg) := inb_of Sz14 ⟨(by decide), (by decide)⟩
  obtain ⟨T15, h15, X15, e15, W15, st15⟩ := stC X11 hx hZ7 e11 Ar14 (j := (0 : Int32)) hin14 (g := (mkF m 108 #[.val (.int p1), .val (.int p2), .val (.int p3), .val (.int p4), .val (.int (own_md p1)), .val (.int (own_pk p2)), .val (.int (own_pk p3)), .val (.int (own_pk p4)), .unset, .unset, .unset, .unset] [(.int (own_pk p2)), (.int (0 : Int32)), (.ref b11), (.ref b11), (.ref b9), (.ref b9)])) rfl rfl (hb hby at_108)
  have Kp16 : Keep h0 h15 [] := Kp12.wr W15 (Or.inr (Nat.le_trans Kp10.1 (Nat.le_of_eq g11.symm)))
  have gh17 : n0 ≤ b11 := Nat.le_trans (Nat.le_trans Z0 Kp10.1) (Nat.le_of_eq g11.symm)
  obtain ⟨Lp15, X15, N15⟩ := own_pack X15 (Fr.snoc X15 N7 gh17)
  have Vh18 : Arv Z h15 b11 k11 .char (3 : Int32) [(.int (own_q p2)), (.int (0 : Int32)), (.int (0 : Int32))] (.int (0 : Int32)) := (Arv.set Ar14 qc14 Sz14 Ng14 Hs14 Gs14 (fits_nar_char _) W15 0 rfl (Nat.le_of_ble_eq_true rfl))
  obtain ⟨cl19, Ar19, qc19, Sz19, Ng19, Hs19, Gs19⟩ := id Vh18
  have hin19 : ¬ ((1 : Int32) < 0 ∨ cl19.slots.size ≤ ((1 : Int32)).toNatClampNeg) := inb_of Sz19 ⟨(by decide), (by decide)⟩
  obtain ⟨T20, h20, X20, e20, W20, st20⟩ := stC X15 hx hZ7 e15 Ar19 (j := (1 : Int32)) hin19 (g := (mkF m 113 #[.val (.int p1), .val (.int p2), .val (.int p3), .val (.int p4), .val (.int (own_md p1)), .val (.int (own_pk p2)), .val (.int (own_pk p3)), .val (.int (own_pk p4)), .unset, .unset, .unset, .unset] [(.int (own_pk p3)), (.int (1 : Int32)), (.ref b11), (.ref b11), (.ref b9), (.ref b9)])) rfl rfl (hb hby at_113)
  have Kp21 : Keep h0 h20 [] := Kp16.wr W20 (Or.inr (Nat.le_trans Kp10.1 (Nat.le_of_eq g11.symm)))
  obtain ⟨Lp20, X20, N20⟩ := own_pack X20 (Fr.snoc X20 N15 gh17)
  have Vh22 : Arv Z h20 b11 k11 .char (3 : Int32) [(.int (own_q p2)), (.int (own_q p3)), (.int (0 : Int32))] (.int (0 : Int32)) := (Arv.set Ar19 qc19 Sz19 Ng19 Hs19 Gs19 (fits_nar_char _) W20 1 rfl (Nat.le_of_ble_eq_true rfl))
  obtain ⟨cl23, Ar23, qc23, Sz23, Ng23, Hs23, Gs23⟩ := id Vh22
  have hin23 : ¬ ((2 : Int32) < 0 ∨ cl23.slots.size ≤ ((2 : Int32)).toNatClampNeg) := inb_of Sz23 ⟨(by decide), (by decide)⟩
  obtain ⟨T24, h24, X24, e24, W24, st24⟩ := stC X20 hx hZ7 e20 Ar23 (j := (2 : Int32)) hin23 (g := (mkF m 118 #[.val (.int p1), .val (.int p2), .val (.int p3), .val (.int p4), .val (.int (own_md p1)), .val (.int (own_pk p2)), .val (.int (own_pk p3)), .val (.int (own_pk p4)), .unset, .unset, .unset, .unset] [(.int (own_pk p4)), (.int (2 : Int32)), (.ref b11), (.ref b11), (.ref b9), (.ref b9)])) rfl rfl (hb hby at_118)
  have Kp25 : Keep h0 h24 [] := Kp21.wr W24 (Or.inr (Nat.le_trans Kp10.1 (Nat.le_of_eq g11.symm)))
  obtain ⟨Lp24, X24, N24⟩ := own_pack X24 (Fr.snoc X24 N20 gh17)
  have Vh26 : Arv Z h24 b11 k11 .char (3 : Int32) [(.int (own_q p2)), (.int (own_q p3)), (.int (own_q p4))] (.int (0 : Int32)) := (Arv.set Ar23 qc23 Sz23 Ng23 Hs23 Gs23 (fits_nar_char _) W24 2 rfl (Nat.le_of_ble_eq_true rfl))
  have Eh27 : Exa Z h24 b9 "java/lang/String" := ((((A9.ext E11).wr W15).wr W20).wr W24)
  have Fh28 : Fld Z h9 b9 "java/lang/String" "value" "[B" .null := (D9 (Or.inr (hw _ (List.mem_of_getElem? (i := 20) rfl))) (ty := (.array .byte)) (by decide))
  have Fh29 : Fld Z h24 b9 "java/lang/String" "value" "[B" .null := ((((Fh28.ext E11).other W15 (Or.inl (Nat.ne_of_lt (Nat.lt_of_lt_of_le A9.lt (Nat.le_of_eq g11.symm))))).other W20 (Or.inl (Nat.ne_of_lt (Nat.lt_of_lt_of_le A9.lt (Nat.le_of_eq g11.symm))))).other W24 (Or.inl (Nat.ne_of_lt (Nat.lt_of_lt_of_le A9.lt (Nat.le_of_eq g11.symm)))))
  have Fh30 : Fld Z h9 b9 "java/lang/String" "coder" "B" (.int (0 : Int32)) := (D9 (Or.inr (hw _ (List.mem_of_getElem? (i := 21) rfl))) (ty := .byte) (by decide))
  have Fh31 : Fld Z h24 b9 "java/lang/String" "coder" "B" (.int (0 : Int32)) := ((((Fh30.ext E11).other W15 (Or.inl (Nat.ne_of_lt (Nat.lt_of_lt_of_le A9.lt (Nat.le_of_eq g11.symm))))).other W20 (Or.inl (Nat.ne_of_lt (Nat.lt_of_lt_of_le A9.lt (Nat.le_of_eq g11.symm))))).other W24 (Or.inl (Nat.ne_of_lt (Nat.lt_of_lt_of_le A9.lt (Nat.le_of_eq g11.symm)))))
  have hph32 : ∀ c ∈ ([(own_q p2), (own_q p3), (own_q p4)] : List Int32), ¬ c < 0 ∧ ¬ (255 : Int32) < c := (own_cS (own_rng_q p2) (own_cS (own_rng_q p3) (own_cS (own_rng_q p4) own_c0)))
  have hws_words : ∀ d ∈ StrChars.Road.words, d.before a0 Z = true := fun d hd => hw d (own_hws_words d hd)
  have Zh33 : n0 ≤ h24.size := (Nat.le_trans Z0 Kp25.1)
  have gh34 : n0 ≤ b9 := Nat.le_trans (Nat.le_trans Z0 Kp8.1) (Nat.le_of_eq g9.symm)
  have Old35 : Old Z n0 T7.heap := Old6.keep Kq7 all0
  have Old36 : Old Z n0 h9 := Old35.ext E9
  have Old37 : Old Z n0 h11 := Old36.ext E11
  have Old38 : Old Z n0 h15 := Old37.wr W15 gh17
  have Old39 : Old Z n0 h20 := Old38.wr W20 gh17
  have Old40 : Old Z n0 h24 := Old39.wr W24 gh17
  obtain ⟨_, _, ⟨T41, L41, k41, n41⟩, -, X41, ⟨Lc41, hQ41, l41, y41, z41⟩, st41⟩ := X24.specialBack hx (y := (⟨"java/lang/String", "<init>", "([C)V"⟩ : MethodName)) rfl hown7 (mvT hZ7 (hw _ (List.mem_of_getElem? (i := 8) rfl))) (mvT hZ7 (hw _ (List.mem_of_getElem? (i := 9) rfl))) (mvT hZ7 (hw _ (List.mem_of_getElem? (i := 10) rfl))) (by decide) (StrChars.Road.backV (W := 1) hZ7 hws_words (kI := 4) (hw _ (List.mem_of_getElem? (i := 5) rfl)) (cs := ([(own_q p2), (own_q p3), (own_q p4)] : List Int32)) (bs := ([(own_q p2), (own_q p3), (own_q p4)] : List Int32).map (fun c => c.toInt8.toInt32)) (n := 3) gh34 Zh33 Eh27 Fh29 Fh31 Vh26 (O_CS.ext Old40.2) P_CS rfl rfl (by decide) (by decide) hph32 rfl (by decide) (by decide)) (g := (mkF m 119 #[.val (.int p1), .val (.int p2), .val (.int p3), .val (.int p4), .val (.int (own_md p1)), .val (.int (own_pk p2)), .val (.int (own_pk p3)), .val (.int (own_pk p4)), .unset, .unset, .unset, .unset] [(.ref b11), (.ref b9), (.ref b9)])) rfl (by rw [hml]; rfl) (Steps.refl _) (a := b9) (argsL := [(.ref b11)]) (rest := [(.ref b9)]) (lenOf own_pd14 rfl) rfl (by show 2 * 0 + _ ≤ _; exact Nat.le_of_eq rfl) (hb hby at_119) (fun _ _ => ⟨rfl, e24, (by decide : 8 + 1 ≤ _), (by decide : 91 + 3 ≤ _)⟩)
  dsimp only [Pt.U, Pt.locs, Pt.cells, Pt.slots] at X41 l41 y41 z41 st41 hQ41
  subst y41 z41
  obtain ⟨rfl, Nq41, Kq41, Eq41, Cq41, t41, kb41, gt41, szt41, nt41, Vq41, Bq41⟩ := hQ41
  have N41 : Fr n0 L41 := by rw [l41]; exact Fr.app N24 Nq41
  have Kp42 : Keep h0 T41.heap [] := Kp25.trans Kq41 (allS (Or.inr (Nat.le_trans Kp8.1 (Nat.le_of_eq g9.symm))) all0)
  have Old43 : Old Z n0 T41.heap := Old40.keep Kq41 (allS gh34 all0)
  obtain ⟨_, _, ⟨T44, L44, k44, n44⟩, -, X44, ⟨Lc44, hQ44, l44, y44, z44⟩, st44⟩ := Jvm.LawKit.callS X41 hx (y := (⟨"com/example/dragoman/dragoman/core/Language", "forCode", "(Ljava/lang/String;)Ljava/util/Optional;"⟩ : MethodName)) hown7 (mvT hZ7 (hw _ (List.mem_of_getElem? (i := 26) rfl))) (mvT hZ7 (hw _ (List.mem_of_getElem? (i := 27) rfl))) (mvT hZ7 (hw _ (List.mem_of_getElem? (i := 28) rfl))) (mvT hZ7 (hw _ (List.mem_of_getElem? (i := 29) rfl))) (by decide) (backOf (W := 0) (own_rm_fcO l Z a0 hw [] G1 G3 k_EMPTY k_ENGLISH s_ENGLISH t_ENGLISH kb_ENGLISH k_JAPANESE s_JAPANESE t_JAPANESE kb_JAPANESE k_CHINESE s_CHINESE t_CHINESE kb_CHINESE k_VALUES kv_VALUES gl b9 ([(own_q p2), (own_q p3), (own_q p4)] : List Int32) t41 (kb41) T41.heap n0 (Nat.le_trans Z0 Kp42.1) Old43 Eq41 Vq41 Cq41 Bq41 hph32 (Nat.le_of_ble_eq_true rfl) (fun q => absurd (congrArg List.length q) (show ¬ (2 = 3) by decide)) (fun q => absurd (congrArg List.length q) (show ¬ (2 = 3) by decide)) (fun q => absurd (congrArg List.length q) (show ¬ (2 = 3) by decide))) hZ7 (hw _ (List.mem_of_getElem? (i := 29) rfl)) (hw _ (List.mem_of_getElem? (i := 28) rfl)) (by decide) (by decide)) (g := (mkF m 234 #[.val (.int p1), .val (.int p2), .val (.int p3), .val (.int p4), .val (.int (own_md p1)), .val (.int (own_pk p2)), .val (.int (own_pk p3)), .val (.int (own_pk p4)), .val (.ref b9), .val (.int (3 : Int32)), .val .null, .unset] [(.ref b9)])) rfl (by rw [hml]; rfl) (argsL := [(.ref b9)]) (rest := []) (lenOf own_pd13 rfl) rfl (by show 2 * 0 + _ ≤ _; exact Nat.le_of_eq rfl) (hb hby at_234) (fun _ _ => ⟨rfl, rfl, (by decide : 9 + 1 ≤ _), (by decide : 94 + 3 ≤ _)⟩)
  dsimp only [Pt.U, Pt.locs, Pt.cells, Pt.slots] at X44 l44 y44 z44 st44 hQ44
  subst y44 z44
  obtain ⟨rfl, Nq44, Kq44⟩ := hQ44
  have N44 : Fr n0 L44 := by rw [l44]; exact Fr.app N41 Nq44
  have Kp45 : Keep h0 T44.heap [] := Kp42.trans Kq44 all0
  have Old46 : Old Z n0 T44.heap := Old43.keep Kq44 all0
  obtain ⟨cq47, kq47, q47a, q47b, q47c⟩ := isOf hZ7 rfl (E_EMPTY.ext Old46.2)
  obtain ⟨_, _, ⟨T47, L47, k47, n47⟩, -, X47, ⟨Lc47, hQ47, l47, y47, z47⟩, st47⟩ := X44.virtualBack hx (y := (⟨"java/util/Optional", "orElse", "(Ljava/lang/Object;)Ljava/lang/Object;"⟩ : MethodName)) (z := (⟨"java/util/Optional", "orElse", "(Ljava/lang/Object;)Ljava/lang/Object;"⟩ : MethodName)) hown7 (mvT hZ7 (hw _ (List.mem_of_getElem? (i := 66) rfl))) (mvT hZ7 (hw _ (List.mem_of_getElem? (i := 67) rfl))) (notFace_of_selects (args := #[]) (mvT hZ7 (hw _ (List.mem_of_getElem? (i := 69) rfl)))) (mvT hZ7 (hw _ (List.mem_of_getElem? (i := 69) rfl))) (mvT hZ7 (hw _ (List.mem_of_getElem? (i := 68) rfl))) (by decide) (backOf (W := 0) (own_rm_oeN l Z a0 hw [] G1 G3 k_EMPTY k_ENGLISH s_ENGLISH t_ENGLISH kb_ENGLISH k_JAPANESE s_JAPANESE t_JAPANESE kb_JAPANESE k_CHINESE s_CHINESE t_CHINESE kb_CHINESE k_VALUES kv_VALUES gl k_EMPTY T44.heap n0 (Nat.le_trans Z0 Kp45.1) (F_EMPTY.ext Old46.2)) hZ7 (hw _ (List.mem_of_getElem? (i := 70) rfl)) (hw _ (List.mem_of_getElem? (i := 63) rfl)) (by decide) (by decide)) q47a q47c (g := (mkF m 238 #[.val (.int p1), .val (.int p2), .val (.int p3), .val (.int p4), .val (.int (own_md p1)), .val (.int (own_pk p2)), .val (.int (own_pk p3)), .val (.int (own_pk p4)), .val (.ref b9), .val (.int (3 : Int32)), .val .null, .unset] [.null, (.ref k_EMPTY)])) rfl (by rw [hml]; rfl) (Steps.refl _) (argsL := [.null]) (rest := []) (lenOf own_pd4 rfl) rfl (by show 2 * 0 + _ ≤ _; exact Nat.le_of_eq rfl) (hb hby at_238) (fun _ _ => ⟨rfl, rfl, (by decide : 10 + 0 ≤ _), (by decide : 97 + 0 ≤ _)⟩)
  dsimp only [Pt.U, Pt.locs, Pt.cells, Pt.slots] at X47 l47 y47 z47 st47 hQ47
  subst y47 z47
  obtain ⟨rfl, Nq47, e47⟩ := hQ47
  have N47 : Fr n0 L47 := by rw [l47]; exact Fr.app N44 Nq47
  obtain ⟨fs, hr, hrun, hended, hREW⟩ := X47.leaveW hS7 (by rw [e47]; exact (Nat.le_trans (Nat.le_refl _) (Nat.le_trans (Nat.le_trans (Nat.le_trans (Nat.le_trans (Nat.le_trans (Nat.le_trans E9.1 E11.1) (Keep.of_wr W15).1) (Keep.of_wr W20).1) (Keep.of_wr W24).1) Kq41.1) Kq44.1))) (v := some (.int (1 : Int32))) (fun h => by rw [Bd.returns] at h; cases h)
  refine ⟨_, _, pre0 _ ?_, hrun, hended, _, _, rfl, ?_, hREW.1, hREW.2.1, hREW.2.2.1, hREW.2.2.2.mono (by decide) (by decide)⟩
  · show Steps p.tables e below (s₁.setTop (mkF m 0 #[.val (.int p1), .val (.int p2), .val (.int p3), .val (.int p4), .unset, .unset, .unset, .unset, .unset, .unset, .unset, .unset] [])) _
    refine XS.iloadN X0.here hx rfl (hb hby at_0) rfl ?_
    show Steps p.tables e below (s₁.setTop (mkF m 1 #[.val (.int p1), .val (.int p2), .val (.int p3), .val (.int p4), .unset, .unset, .unset, .unset, .unset, .unset, .unset, .unset] [(.int p1)])) _
    refine XS.bipush X0.here hx rfl (hb hby at_1) ?_
    show Steps p.tables e below (s₁.setTop (mkF m 3 #[.val (.int p1), .val (.int p2), .val (.int p3), .val (.int p4), .unset, .unset, .unset, .unset, .unset, .unset, .unset, .unset] [(.int (7 : Int32)), (.int p1)])) _
    refine XS.iand X0.here hx rfl (hb hby at_3) rfl ?_
    show Steps p.tables e below (s₁.setTop (mkF m 4 #[.val (.int p1), .val (.int p2), .val (.int p3), .val (.int p4), .unset, .unset, .unset, .unset, .unset, .unset, .unset, .unset] [(.int (own_md p1))])) _
    refine XS.istore X0.here hx rfl (hb hby at_4) rfl (l' := #[.val (.int p1), .val (.int p2), .val (.int p3), .val (.int p4), .val (.int (own_md p1)), .unset, .unset, .unset, .unset, .unset, .unset, .unset]) rfl ?_
    show Steps p.tables e below (s₁.setTop (mkF m 6 #[.val (.int p1), .val (.int p2), .val (.int p3), .val (.int p4), .val (.int (own_md p1)), .unset, .unset, .unset, .unset, .unset, .unset, .unset] [])) _
    refine XS.iloadN X0.here hx rfl (hb hby at_6) rfl ?_
    show Steps p.tables e below (s₁.setTop (mkF m 7 #[.val (.int p1), .val (.int p2), .val (.int p3), .val (.int p4), .val (.int (own_md p1)), .unset, .unset, .unset, .unset, .unset, .unset, .unset] [(.int p2)])) _
    refine st1.trans ?_
    show Steps p.tables e below (T1.setTop (mkF m 10 #[.val (.int p1), .val (.int p2), .val (.int p3), .val (.int p4), .val (.int (own_md p1)), .unset, .unset, .unset, .unset, .unset, .unset, .unset] [(.int (own_pk p2))])) _
    refine XS.istore Xw1.here hx rfl (hb hby at_10) rfl (l' := #[.val (.int p1), .val (.int p2), .val (.int p3), .val (.int p4), .val (.int (own_md p1)), .val (.int (own_pk p2)), .unset, .unset, .unset, .unset, .unset, .unset]) rfl ?_
    show Steps p.tables e below (T1.setTop (mkF m 12 #[.val (.int p1), .val (.int p2), .val (.int p3), .val (.int p4), .val (.int (own_md p1)), .val (.int (own_pk p2)), .unset, .unset, .unset, .unset, .unset, .unset] [])) _
    refine XS.iloadN Xw1.here hx rfl (hb hby at_12) rfl ?_
    show Steps p.tables e below (T1.setTop (mkF m 13 #[.val (.int p1), .val (.int p2), .val (.int p3), .val (.int p4), .val (.int (own_md p1)), .val (.int (own_pk p2)), .unset, .unset, .unset, .unset, .unset, .unset] [(.int p3)])) _
    refine st4.trans ?_
    show Steps p.tables e below (T4.setTop (mkF m 16 #[.val (.int p1), .val (.int p2), .val (.int p3), .val (.int p4), .val (.int (own_md p1)), .val (.int (own_pk p2)), .unset, .unset, .unset, .unset, .unset, .unset] [(.int (own_pk p3))])) _
    refine XS.istore Xw4.here hx rfl (hb hby at_16) rfl (l' := #[.val (.int p1), .val (.int p2), .val (.int p3), .val (.int p4), .val (.int (own_md p1)), .val (.int (own_pk p2)), .val (.int (own_pk p3)), .unset, .unset, .unset, .unset, .unset]) rfl ?_
    show Steps p.tables e below (T4.setTop (mkF m 18 #[.val (.int p1), .val (.int p2), .val (.int p3), .val (.int p4), .val (.int (own_md p1)), .val (.int (own_pk p2)), .val (.int (own_pk p3)), .unset, .unset, .unset, .unset, .unset] [])) _
    refine XS.iloadN Xw4.here hx rfl (hb hby at_18) rfl ?_
    show Steps p.tables e below (T4.setTop (mkF m 19 #[.val (.int p1), .val (.int p2), .val (.int p3), .val (.int p4), .val (.int (own_md p1)), .val (.int (own_pk p2)), .val (.int (own_pk p3)), .unset, .unset, .unset, .unset, .unset] [(.int p4)])) _
    refine st7.trans ?_
    show Steps p.tables e below (T7.setTop (mkF m 22 #[.val (.int p1), .val (.int p2), .val (.int p3), .val (.int p4), .val (.int (own_md p1)), .val (.int (own_pk p2)), .val (.int (own_pk p3)), .unset, .unset, .unset, .unset, .unset] [(.int (own_pk p4))])) _
    refine XS.istore Xw7.here hx rfl (hb hby at_22) rfl (l' := #[.val (.int p1), .val (.int p2), .val (.int p3), .val (.int p4), .val (.int (own_md p1)), .val (.int (own_pk p2)), .val (.int (own_pk p3)), .val (.int (own_pk p4)), .unset, .unset, .unset, .unset]) rfl ?_
    show Steps p.tables e below (T7.setTop (mkF m 24 #[.val (.int p1), .val (.int p2), .val (.int p3), .val (.int p4), .val (.int (own_md p1)), .val (.int (own_pk p2)), .val (.int (own_pk p3)), .val (.int (own_pk p4)), .unset, .unset, .unset, .unset] [])) _
    refine XS.iload Xw7.here hx rfl (hb hby at_24) rfl ?_
    show Steps p.tables e below (T7.setTop (mkF m 26 #[.val (.int p1), .val (.int p2), .val (.int p3), .val (.int p4), .val (.int (own_md p1)), .val (.int (own_pk p2)), .val (.int (own_pk p3)), .val (.int (own_pk p4)), .unset, .unset, .unset, .unset] [(.int (own_md p1))])) _
    refine XS.iconst Xw7.here hx rfl (hb hby at_26) ?_
    show Steps p.tables e below (T7.setTop (mkF m 27 #[.val (.int p1), .val (.int p2), .val (.int p3), .val (.int p4), .val (.int (own_md p1)), .val (.int (own_pk p2)), .val (.int (own_pk p3)), .val (.int (own_pk p4)), .unset, .unset, .unset, .unset] [(.int (4 : Int32)), (.int (own_md p1))])) _
    refine XS.icmpYes Xw7.here hx rfl (pc0 := 27) (pc' := 39) rfl (hb hby at_27) rfl (feq ((by rw [hk]; decide) : ¬ ((own_md p1) = (4 : Int32)))).2 (by decide) (by decide) ?_
    show Steps p.tables e below (T7.setTop (mkF m 39 #[.val (.int p1), .val (.int p2), .val (.int p3), .val (.int p4), .val (.int (own_md p1)), .val (.int (own_pk p2)), .val (.int (own_pk p3)), .val (.int (own_pk p4)), .unset, .unset, .unset, .unset] [])) _
    refine XS.iload Xw7.here hx rfl (hb hby at_39) rfl ?_
    show Steps p.tables e below (T7.setTop (mkF m 41 #[.val (.int p1), .val (.int p2), .val (.int p3), .val (.int p4), .val (.int (own_md p1)), .val (.int (own_pk p2)), .val (.int (own_pk p3)), .val (.int (own_pk p4)), .unset, .unset, .unset, .unset] [(.int (own_md p1))])) _
    refine XS.ifYes Xw7.here hx rfl (pc0 := 41) (pc' := 62) rfl (hb hby at_41) rfl ((if0 _ _).trans (feq ((by rw [hk]; decide) : ¬ ((own_md p1) = (0 : Int32)))).2) (by decide) (by decide) ?_
    show Steps p.tables e below (T7.setTop (mkF m 62 #[.val (.int p1), .val (.int p2), .val (.int p3), .val (.int p4), .val (.int (own_md p1)), .val (.int (own_pk p2)), .val (.int (own_pk p3)), .val (.int (own_pk p4)), .unset, .unset, .unset, .unset] [])) _
    refine XS.iload Xw7.here hx rfl (hb hby at_62) rfl ?_
    show Steps p.tables e below (T7.setTop (mkF m 64 #[.val (.int p1), .val (.int p2), .val (.int p3), .val (.int p4), .val (.int (own_md p1)), .val (.int (own_pk p2)), .val (.int (own_pk p3)), .val (.int (own_pk p4)), .unset, .unset, .unset, .unset] [(.int (own_md p1))])) _
    refine XS.iconst Xw7.here hx rfl (hb hby at_64) ?_
    show Steps p.tables e below (T7.setTop (mkF m 65 #[.val (.int p1), .val (.int p2), .val (.int p3), .val (.int p4), .val (.int (own_md p1)), .val (.int (own_pk p2)), .val (.int (own_pk p3)), .val (.int (own_pk p4)), .unset, .unset, .unset, .unset] [(.int (1 : Int32)), (.int (own_md p1))])) _
    refine XS.icmpYes Xw7.here hx rfl (pc0 := 65) (pc' := 91) rfl (hb hby at_65) rfl (feq ((by rw [hk]; decide) : ¬ ((own_md p1) = (1 : Int32)))).2 (by decide) (by decide) ?_
    show Steps p.tables e below (T7.setTop (mkF m 91 #[.val (.int p1), .val (.int p2), .val (.int p3), .val (.int p4), .val (.int (own_md p1)), .val (.int (own_pk p2)), .val (.int (own_pk p3)), .val (.int (own_pk p4)), .unset, .unset, .unset, .unset] [])) _
    refine XS.iload Xw7.here hx rfl (hb hby at_91) rfl ?_
    show Steps p.tables e below (T7.setTop (mkF m 93 #[.val (.int p1), .val (.int p2), .val (.int p3), .val (.int p4), .val (.int (own_md p1)), .val (.int (own_pk p2)), .val (.int (own_pk p3)), .val (.int (own_pk p4)), .unset, .unset, .unset, .unset] [(.int (own_md p1))])) _
    refine XS.iconst Xw7.here hx rfl (hb hby at_93) ?_
    show Steps p.tables e below (T7.setTop (mkF m 94 #[.val (.int p1), .val (.int p2), .val (.int p3), .val (.int p4), .val (.int (own_md p1)), .val (.int (own_pk p2)), .val (.int (own_pk p3)), .val (.int (own_pk p4)), .unset, .unset, .unset, .unset] [(.int (3 : Int32)), (.int (own_md p1))])) _
    refine XS.icmpNo Xw7.here hx rfl (hb hby at_94) rfl (teq (hk : (own_md p1) = (3 : Int32))).2 ?_
    show Steps p.tables e below (T7.setTop (mkF m 97 #[.val (.int p1), .val (.int p2), .val (.int p3), .val (.int p4), .val (.int (own_md p1)), .val (.int (own_pk p2)), .val (.int (own_pk p3)), .val (.int (own_pk p4)), .unset, .unset, .unset, .unset] [])) _
    refine st9 _ ?_
    show Steps p.tables e below (T9.setTop (mkF m 100 #[.val (.int p1), .val (.int p2), .val (.int p3), .val (.int p4), .val (.int (own_md p1)), .val (.int (own_pk p2)), .val (.int (own_pk p3)), .val (.int (own_pk p4)), .unset, .unset, .unset, .unset] [(.ref b9)])) _
    refine XS.dup X9.here hx rfl (hb hby at_100) rfl rfl ?_
    show Steps p.tables e below (T9.setTop (mkF m 101 #[.val (.int p1), .val (.int p2), .val (.int p3), .val (.int p4), .val (.int (own_md p1)), .val (.int (own_pk p2)), .val (.int (own_pk p3)), .val (.int (own_pk p4)), .unset, .unset, .unset, .unset] [(.ref b9), (.ref b9)])) _
    refine XS.iconst X9.here hx rfl (hb hby at_101) ?_
    show Steps p.tables e below (T9.setTop (mkF m 102 #[.val (.int p1), .val (.int p2), .val (.int p3), .val (.int p4), .val (.int (own_md p1)), .val (.int (own_pk p2)), .val (.int (own_pk p3)), .val (.int (own_pk p4)), .unset, .unset, .unset, .unset] [(.int (3 : Int32)), (.ref b9), (.ref b9)])) _
    refine st11 _ ?_
    show Steps p.tables e below (T11.setTop (mkF m 104 #[.val (.int p1), .val (.int p2), .val (.int p3), .val (.int p4), .val (.int (own_md p1)), .val (.int (own_pk p2)), .val (.int (own_pk p3)), .val (.int (own_pk p4)), .unset, .unset, .unset, .unset] [(.ref b11), (.ref b9), (.ref b9)])) _
    refine XS.dup X11.here hx rfl (hb hby at_104) rfl rfl ?_
    show Steps p.tables e below (T11.setTop (mkF m 105 #[.val (.int p1), .val (.int p2), .val (.int p3), .val (.int p4), .val (.int (own_md p1)), .val (.int (own_pk p2)), .val (.int (own_pk p3)), .val (.int (own_pk p4)), .unset, .unset, .unset, .unset] [(.ref b11), (.ref b11), (.ref b9), (.ref b9)])) _
    refine XS.iconst X11.here hx rfl (hb hby at_105) ?_
    show Steps p.tables e below (T11.setTop (mkF m 106 #[.val (.int p1), .val (.int p2), .val (.int p3), .val (.int p4), .val (.int (own_md p1)), .val (.int (own_pk p2)), .val (.int (own_pk p3)), .val (.int (own_pk p4)), .unset, .unset, .unset, .unset] [(.int (0 : Int32)), (.ref b11), (.ref b11), (.ref b9), (.ref b9)])) _
    refine XS.iload X11.here hx rfl (hb hby at_106) rfl ?_
    show Steps p.tables e below (T11.setTop (mkF m 108 #[.val (.int p1), .val (.int p2), .val (.int p3), .val (.int p4), .val (.int (own_md p1)), .val (.int (own_pk p2)), .val (.int (own_pk p3)), .val (.int (own_pk p4)), .unset, .unset, .unset, .unset] [(.int (own_pk p2)), (.int (0 : Int32)), (.ref b11), (.ref b11), (.ref b9), (.ref b9)])) _
    refine st15 _ ?_
    show Steps p.tables e below (T15.setTop (mkF m 109 #[.val (.int p1), .val (.int p2), .val (.int p3), .val (.int p4), .val (.int (own_md p1)), .val (.int (own_pk p2)), .val (.int (own_pk p3)), .val (.int (own_pk p4)), .unset, .unset, .unset, .unset] [(.ref b11), (.ref b9), (.ref b9)])) _
    refine XS.dup X15.here hx rfl (hb hby at_109) rfl rfl ?_
    show Steps p.tables e below (T15.setTop (mkF m 110 #[.val (.int p1), .val (.int p2), .val (.int p3), .val (.int p4), .val (.int (own_md p1)), .val (.int (own_pk p2)), .val (.int (own_pk p3)), .val (.int (own_pk p4)), .unset, .unset, .unset, .unset] [(.ref b11), (.ref b11), (.ref b9), (.ref b9)])) _
    refine XS.iconst X15.here hx rfl (hb hby at_110) ?_
    show Steps p.tables e below (T15.setTop (mkF m 111 #[.val (.int p1), .val (.int p2), .val (.int p3), .val (.int p4), .val (.int (own_md p1)), .val (.int (own_pk p2)), .val (.int (own_pk p3)), .val (.int (own_pk p4)), .unset, .unset, .unset, .unset] [(.int (1 : Int32)), (.ref b11), (.ref b11), (.ref b9), (.ref b9)])) _
    refine XS.iload X15.here hx rfl (hb hby at_111) rfl ?_
    show Steps p.tables e below (T15.setTop (mkF m 113 #[.val (.int p1), .val (.int p2), .val (.int p3), .val (.int p4), .val (.int (own_md p1)), .val (.int (own_pk p2)), .val (.int (own_pk p3)), .val (.int (own_pk p4)), .unset, .unset, .unset, .unset] [(.int (own_pk p3)), (.int (1 : Int32)), (.ref b11), (.ref b11), (.ref b9), (.ref b9)])) _
    refine st20 _ ?_
    show Steps p.tables e below (T20.setTop (mkF m 114 #[.val (.int p1), .val (.int p2), .val (.int p3), .val (.int p4), .val (.int (own_md p1)), .val (.int (own_pk p2)), .val (.int (own_pk p3)), .val (.int (own_pk p4)), .unset, .unset, .unset, .unset] [(.ref b11), (.ref b9), (.ref b9)])) _
    refine XS.dup X20.here hx rfl (hb hby at_114) rfl rfl ?_
    show Steps p.tables e below (T20.setTop (mkF m 115 #[.val (.int p1), .val (.int p2), .val (.int p3), .val (.int p4), .val (.int (own_md p1)), .val (.int (own_pk p2)), .val (.int (own_pk p3)), .val (.int (own_pk p4)), .unset, .unset, .unset, .unset] [(.ref b11), (.ref b11), (.ref b9), (.ref b9)])) _
    refine XS.iconst X20.here hx rfl (hb hby at_115) ?_
    show Steps p.tables e below (T20.setTop (mkF m 116 #[.val (.int p1), .val (.int p2), .val (.int p3), .val (.int p4), .val (.int (own_md p1)), .val (.int (own_pk p2)), .val (.int (own_pk p3)), .val (.int (own_pk p4)), .unset, .unset, .unset, .unset] [(.int (2 : Int32)), (.ref b11), (.ref b11), (.ref b9), (.ref b9)])) _
    refine XS.iload X20.here hx rfl (hb hby at_116) rfl ?_
    show Steps p.tables e below (T20.setTop (mkF m 118 #[.val (.int p1), .val (.int p2), .val (.int p3), .val (.int p4), .val (.int (own_md p1)), .val (.int (own_pk p2)), .val (.int (own_pk p3)), .val (.int (own_pk p4)), .unset, .unset, .unset, .unset] [(.int (own_pk p4)), (.int (2 : Int32)), (.ref b11), (.ref b11), (.ref b9), (.ref b9)])) _
    refine st24 _ ?_
    show Steps p.tables e below (T24.setTop (mkF m 119 #[.val (.int p1), .val (.int p2), .val (.int p3), .val (.int p4), .val (.int (own_md p1)), .val (.int (own_pk p2)), .val (.int (own_pk p3)), .val (.int (own_pk p4)), .unset, .unset, .unset, .unset] [(.ref b11), (.ref b9), (.ref b9)])) _
    refine st41.trans ?_
    show Steps p.tables e below (T41.setTop (mkF m 122 #[.val (.int p1), .val (.int p2), .val (.int p3), .val (.int p4), .val (.int (own_md p1)), .val (.int (own_pk p2)), .val (.int (own_pk p3)), .val (.int (own_pk p4)), .unset, .unset, .unset, .unset] [(.ref b9)])) _
    refine XS.astore X41.here hx rfl (hb hby at_122) rfl rfl (l' := #[.val (.int p1), .val (.int p2), .val (.int p3), .val (.int p4), .val (.int (own_md p1)), .val (.int (own_pk p2)), .val (.int (own_pk p3)), .val (.int (own_pk p4)), .val (.ref b9), .unset, .unset, .unset]) rfl ?_
    show Steps p.tables e below (T41.setTop (mkF m 124 #[.val (.int p1), .val (.int p2), .val (.int p3), .val (.int p4), .val (.int (own_md p1)), .val (.int (own_pk p2)), .val (.int (own_pk p3)), .val (.int (own_pk p4)), .val (.ref b9), .unset, .unset, .unset] [])) _
    refine XS.iconst X41.here hx rfl (hb hby at_124) ?_
    show Steps p.tables e below (T41.setTop (mkF m 125 #[.val (.int p1), .val (.int p2), .val (.int p3), .val (.int p4), .val (.int (own_md p1)), .val (.int (own_pk p2)), .val (.int (own_pk p3)), .val (.int (own_pk p4)), .val (.ref b9), .unset, .unset, .unset] [(.int (3 : Int32))])) _
    refine XS.istore X41.here hx rfl (hb hby at_125) rfl (l' := #[.val (.int p1), .val (.int p2), .val (.int p3), .val (.int p4), .val (.int (own_md p1)), .val (.int (own_pk p2)), .val (.int (own_pk p3)), .val (.int (own_pk p4)), .val (.ref b9), .val (.int (3 : Int32)), .unset, .unset]) rfl ?_
    show Steps p.tables e below (T41.setTop (mkF m 127 #[.val (.int p1), .val (.int p2), .val (.int p3), .val (.int p4), .val (.int (own_md p1)), .val (.int (own_pk p2)), .val (.int (own_pk p3)), .val (.int (own_pk p4)), .val (.ref b9), .val (.int (3 : Int32)), .unset, .unset] [])) _
    refine XS.goto X41.here hx rfl (pc0 := 127) (pc' := 155) rfl (hb hby at_127) (by decide) (by decide) ?_
    show Steps p.tables e below (T41.setTop (mkF m 155 #[.val (.int p1), .val (.int p2), .val (.int p3), .val (.int p4), .val (.int (own_md p1)), .val (.int (own_pk p2)), .val (.int (own_pk p3)), .val (.int (own_pk p4)), .val (.ref b9), .val (.int (3 : Int32)), .unset, .unset] [])) _
    refine XS.aconstNull X41.here hx rfl (hb hby at_155) ?_
    show Steps p.tables e below (T41.setTop (mkF m 156 #[.val (.int p1), .val (.int p2), .val (.int p3), .val (.int p4), .val (.int (own_md p1)), .val (.int (own_pk p2)), .val (.int (own_pk p3)), .val (.int (own_pk p4)), .val (.ref b9), .val (.int (3 : Int32)), .unset, .unset] [.null])) _
    refine XS.astore X41.here hx rfl (hb hby at_156) rfl rfl (l' := #[.val (.int p1), .val (.int p2), .val (.int p3), .val (.int p4), .val (.int (own_md p1)), .val (.int (own_pk p2)), .val (.int (own_pk p3)), .val (.int (own_pk p4)), .val (.ref b9), .val (.int (3 : Int32)), .val .null, .unset]) rfl ?_
    show Steps p.tables e below (T41.setTop (mkF m 158 #[.val (.int p1), .val (.int p2), .val (.int p3), .val (.int p4), .val (.int (own_md p1)), .val (.int (own_pk p2)), .val (.int (own_pk p3)), .val (.int (own_pk p4)), .val (.ref b9), .val (.int (3 : Int32)), .val .null, .unset] [])) _
    refine XS.aload X41.here hx rfl (hb hby at_158) rfl rfl ?_
    show Steps p.tables e below (T41.setTop (mkF m 160 #[.val (.int p1), .val (.int p2), .val (.int p3), .val (.int p4), .val (.int (own_md p1)), .val (.int (own_pk p2)), .val (.int (own_pk p3)), .val (.int (own_pk p4)), .val (.ref b9), .val (.int (3 : Int32)), .val .null, .unset] [(.ref b9)])) _
    refine XS.ifnullNo X41.here hx rfl (hb hby at_160) rfl ?_
    show Steps p.tables e below (T41.setTop (mkF m 163 #[.val (.int p1), .val (.int p2), .val (.int p3), .val (.int p4), .val (.int (own_md p1)), .val (.int (own_pk p2)), .val (.int (own_pk p3)), .val (.int (own_pk p4)), .val (.ref b9), .val (.int (3 : Int32)), .val .null, .unset] [])) _
    refine XS.iload X41.here hx rfl (hb hby at_163) rfl ?_
    show Steps p.tables e below (T41.setTop (mkF m 165 #[.val (.int p1), .val (.int p2), .val (.int p3), .val (.int p4), .val (.int (own_md p1)), .val (.int (own_pk p2)), .val (.int (own_pk p3)), .val (.int (own_pk p4)), .val (.ref b9), .val (.int (3 : Int32)), .val .null, .unset] [(.int (3 : Int32))])) _
    refine XS.iconst X41.here hx rfl (hb hby at_165) ?_
    show Steps p.tables e below (T41.setTop (mkF m 166 #[.val (.int p1), .val (.int p2), .val (.int p3), .val (.int p4), .val (.int (own_md p1)), .val (.int (own_pk p2)), .val (.int (own_pk p3)), .val (.int (own_pk p4)), .val (.ref b9), .val (.int (3 : Int32)), .val .null, .unset] [(.int (2 : Int32)), (.int (3 : Int32))])) _
    refine XS.icmpYes X41.here hx rfl (pc0 := 166) (pc' := 232) rfl (hb hby at_166) rfl (feq (by decide : ¬ ((3 : Int32) = (2 : Int32)))).2 (by decide) (by decide) ?_
    show Steps p.tables e below (T41.setTop (mkF m 232 #[.val (.int p1), .val (.int p2), .val (.int p3), .val (.int p4), .val (.int (own_md p1)), .val (.int (own_pk p2)), .val (.int (own_pk p3)), .val (.int (own_pk p4)), .val (.ref b9), .val (.int (3 : Int32)), .val .null, .unset] [])) _
    refine XS.aload X41.here hx rfl (hb hby at_232) rfl rfl ?_
    show Steps p.tables e below (T41.setTop (mkF m 234 #[.val (.int p1), .val (.int p2), .val (.int p3), .val (.int p4), .val (.int (own_md p1)), .val (.int (own_pk p2)), .val (.int (own_pk p3)), .val (.int (own_pk p4)), .val (.ref b9), .val (.int (3 : Int32)), .val .null, .unset] [(.ref b9)])) _
    refine st44 _ ?_
    show Steps p.tables e below (T44.setTop (mkF m 237 #[.val (.int p1), .val (.int p2), .val (.int p3), .val (.int p4), .val (.int (own_md p1)), .val (.int (own_pk p2)), .val (.int (own_pk p3)), .val (.int (own_pk p4)), .val (.ref b9), .val (.int (3 : Int32)), .val .null, .unset] [(.ref k_EMPTY)])) _
    refine XS.aconstNull X44.here hx rfl (hb hby at_237) ?_
    show Steps p.tables e below (T44.setTop (mkF m 238 #[.val (.int p1), .val (.int p2), .val (.int p3), .val (.int p4), .val (.int (own_md p1)), .val (.int (own_pk p2)), .val (.int (own_pk p3)), .val (.int (own_pk p4)), .val (.ref b9), .val (.int (3 : Int32)), .val .null, .unset] [.null, (.ref k_EMPTY)])) _
    refine st47.trans ?_
    show Steps p.tables e below (T47.setTop (mkF m 241 #[.val (.int p1), .val (.int p2), .val (.int p3), .val (.int p4), .val (.int (own_md p1)), .val (.int (own_pk p2)), .val (.int (own_pk p3)), .val (.int (own_pk p4)), .val (.ref b9), .val (.int (3 : Int32)), .val .null, .unset] [.null])) _
    refine X47.checkcastNull hx (g := (mkF m 241 #[.val (.int p1), .val (.int p2), .val (.int p3), .val (.int p4), .val (.int (own_md p1)), .val (.int (own_pk p2)), .val (.int (own_pk p3)), .val (.int (own_pk p4)), .val (.ref b9), .val (.int (3 : Int32)), .val .null, .unset] [.null])) rfl rfl (hb hby at_241) _ ?_
    show Steps p.tables e below (T47.setTop (mkF m 244 #[.val (.int p1), .val (.int p2), .val (.int p3), .val (.int p4), .val (.int (own_md p1)), .val (.int (own_pk p2)), .val (.int (own_pk p3)), .val (.int (own_pk p4)), .val (.ref b9), .val (.int (3 : Int32)), .val .null, .unset] [.null])) _
    refine XS.astore X47.here hx rfl (hb hby at_244) rfl rfl (l' := #[.val (.int p1), .val (.int p2), .val (.int p3), .val (.int p4), .val (.int (own_md p1)), .val (.int (own_pk p2)), .val (.int (own_pk p3)), .val (.int (own_pk p4)), .val (.ref b9), .val (.int (3 : Int32)), .val .null, .val .null]) rfl ?_
    show Steps p.tables e below (T47.setTop (mkF m 246 #[.val (.int p1), .val (.int p2), .val (.int p3), .val (.int p4), .val (.int (own_md p1)), .val (.int (own_pk p2)), .val (.int (own_pk p3)), .val (.int (own_pk p4)), .val (.ref b9), .val (.int (3 : Int32)), .val .null, .val .null] [])) _
    refine XS.aload X47.here hx rfl (hb hby at_246) rfl rfl ?_
    show Steps p.tables e below (T47.setTop (mkF m 248 #[.val (.int p1), .val (.int p2), .val (.int p3), .val (.int p4), .val (.int (own_md p1)), .val (.int (own_pk p2)), .val (.int (own_pk p3)), .val (.int (own_pk p4)), .val (.ref b9), .val (.int (3 : Int32)), .val .null, .val .null] [.null])) _
    refine XS.aload X47.here hx rfl (hb hby at_248) rfl rfl ?_
    show Steps p.tables e below (T47.setTop (mkF m 250 #[.val (.int p1), .val (.int p2), .val (.int p3), .val (.int p4), .val (.int (own_md p1)), .val (.int (own_pk p2)), .val (.int (own_pk p3)), .val (.int (own_pk p4)), .val (.ref b9), .val (.int (3 : Int32)), .val .null, .val .null] [.null, .null])) _
    refine Jvm.RoadKit.acmp (g := (mkF m 250 #[.val (.int p1), .val (.int p2), .val (.int p3), .val (.int p4), .val (.int (own_md p1)), .val (.int (own_pk p2)), .val (.int (own_pk p3)), .val (.int (own_pk p4)), .val (.ref b9), .val (.int (3 : Int32)), .val .null, .val .null] [.null, .null])) X47 hx rfl rfl rfl (pc0 := 250) (pc' := 253) (same := true) rfl (hb hby at_250) rfl (decide_eq_true rfl) (by decide) (by decide) ?_
    show Steps p.tables e below (T47.setTop (mkF m 253 #[.val (.int p1), .val (.int p2), .val (.int p3), .val (.int p4), .val (.int (own_md p1)), .val (.int (own_pk p2)), .val (.int (own_pk p3)), .val (.int (own_pk p4)), .val (.ref b9), .val (.int (3 : Int32)), .val .null, .val .null] [])) _
    refine XS.iconst X47.here hx rfl (hb hby at_253) ?_
    show Steps p.tables e below (T47.setTop (mkF m 254 #[.val (.int p1), .val (.int p2), .val (.int p3), .val (.int p4), .val (.int (own_md p1)), .val (.int (own_pk p2)), .val (.int (own_pk p3)), .val (.int (own_pk p4)), .val (.ref b9), .val (.int (3 : Int32)), .val .null, .val .null] [(.int (1 : Int32))])) _
    refine XS.goto X47.here hx rfl (pc0 := 254) (pc' := 258) rfl (hb hby at_254) (by decide) (by decide) ?_
    show Steps p.tables e below (T47.setTop (mkF m 258 #[.val (.int p1), .val (.int p2), .val (.int p3), .val (.int p4), .val (.int (own_md p1)), .val (.int (own_pk p2)), .val (.int (own_pk p3)), .val (.int (own_pk p4)), .val (.ref b9), .val (.int (3 : Int32)), .val .null, .val .null] [(.int (1 : Int32))])) _
    exact retN X47 hx (t := .boolean) Bd.returns (by simp) (hb hby at_258) hr
  · show own_Qlaw h0 n0 _ T47.heap _
    exact ⟨rfl, N47⟩
theorem own_eflaw2ttt (m : MethodId) (p1 : Int32) (p2 : Int32) (p3 : Int32) (p4 : Int32) : entryFrame m #[(.int p1), (.int p2), (.int p3), (.int p4)] maxLocals = mkF m 0 #[.val (.int p1), .val (.int p2), .val (.int p3), .val (.int p4), .unset, .unset, .unset, .unset, .unset, .unset, .unset, .unset] [] := by first | (simp [entryFrame, mkF, argsToLocals, Value.category, maxLocals]; done) | rfl
set_option maxRecDepth 65536 in
set_option maxHeartbeats 40000000 in
theorem own_law2ttt (l : Launch) (Z : State) (a0 : Array Value) (hw : ∀ d ∈ tables_1, d.before a0 Z = true) (ws : List Jvm.Cond) (G1 : Int32) (G3 : Value) (k_EMPTY : Addr) (k_ENGLISH : Addr) (s_ENGLISH : Addr) (t_ENGLISH : Addr) (kb_ENGLISH : ClassId) (k_JAPANESE : Addr) (s_JAPANESE : Addr) (t_JAPANESE : Addr) (kb_JAPANESE : ClassId) (k_CHINESE : Addr) (s_CHINESE : Addr) (t_CHINESE : Addr) (kb_CHINESE : ClassId) (k_VALUES : Addr) (kv_VALUES : ClassId) (gl : own_Glob Z G1 G3 k_EMPTY k_ENGLISH s_ENGLISH t_ENGLISH kb_ENGLISH k_JAPANESE s_JAPANESE t_JAPANESE kb_JAPANESE k_CHINESE s_CHINESE t_CHINESE kb_CHINESE k_VALUES kv_VALUES) (p1 : Int32) (p2 : Int32) (p3 : Int32) (p4 : Int32) (h0 : Heap) (n0 : Nat) (Z0 : n0 ≤ h0.size) (X00 : Old Z n0 h0) (hc1 : ¬ ((own_pk p2) = (101 : Int32))) (hc2 : ¬ ((own_pk p2) = (106 : Int32))) (hc3 : ¬ ((own_pk p2) = (122 : Int32))) (hk : ¬ own_md p1 = 4 ∧ ¬ own_md p1 = 0 ∧ ¬ own_md p1 = 1 ∧ ¬ own_md p1 = 3) :
    MetFree l x (head1 (Jvm.Cond.code x code maxLocals ret :: ws) room_1) (fun a U => a = #[(.int p1), (.int p2), (.int p3), (.int p4)] ∧ Z.Warmed39 U.vm ∧ U.heap = h0 ∧ CHv Z consts_1 U.vm h0) (fun _ _ _ _ _ => True) (fun _ U o U' => ∃ v L, o = .returned v ∧ own_Qlaw h0 n0 v U'.heap L ∧ ReturnedEndW U o U' L room_1.cells room_1.slots) := by
  refine MetFree.of_bodySF (plainFor_of_name own_pn8) hisR ?_
  intro p e s m args below meth c s₁ Bd hml0 hP hK
  obtain ⟨rfl, hZ, hh, hCH⟩ := hP
  obtain ⟨O_CS, P_CS, O_SI, P_SI, O_EMPTY, E_EMPTY, F_EMPTY, O_ENGLISH, E_ENGLISH, Fs_ENGLISH, Es_ENGLISH, Fc_ENGLISH, Fv_ENGLISH, V_ENGLISH, O_JAPANESE, E_JAPANESE, Fs_JAPANESE, Es_JAPANESE, Fc_JAPANESE, Fv_JAPANESE, V_JAPANESE, O_CHINESE, E_CHINESE, Fs_CHINESE, Es_CHINESE, Fc_CHINESE, Fv_CHINESE, V_CHINESE, O_VALUES, E_VALUES, V_VALUES⟩ := id gl
  have hx := Bd.exec
  have hby := Bd.bytes
  have hml : c.maxLocals = 12 := hml0
  have hown : s.vm.findClass "com/example/dragoman/dragoman/core/LanguageForCodePinLaw" = some m.cls := findClass_of_methodNamed Bd.named
  have hnm := (name_of_methodNamed Bd.named Bd.method).1
  have X0 : Stand p l e room_1 s m #[(.int p1), (.int p2), (.int p3), (.int p4)] below meth c s₁ [] 0 0 := Stand.of_body Bd
  have e0 : s₁.heap = h0 := by rw [← hh, Bd.state]; rfl
  have N0 := Fr.nil n0
  have pre0 : ∀ t, Steps p.tables e below (s₁.setTop (mkF m 0 #[.val (.int p1), .val (.int p2), .val (.int p3), .val (.int p4), .unset, .unset, .unset, .unset, .unset, .unset, .unset, .unset] [])) t → Steps p.tables e below (s₁.setTop (entryFrame m #[(.int p1), (.int p2), (.int p3), (.int p4)] maxLocals)) t := fun t k => castTop (own_eflaw2ttt m p1 p2 p3 p4) k
  obtain ⟨_, _, ⟨T1, L1, k1, n1⟩, -, X1, hSq1, hgr1, ⟨Lc1, hQ1, l1, y1, z1, hCr1⟩, st1⟩ := callSS X0 hx (y := (⟨"com/example/dragoman/dragoman/core/LanguageForCodePinLaw", "pick", "(I)C"⟩ : MethodName)) hown (mvT hZ (hw _ (List.mem_of_getElem? (i := 0) rfl))) (mvT hZ (hw _ (List.mem_of_getElem? (i := 1) rfl))) (mvT hZ (hw _ (List.mem_of_getElem? (i := 2) rfl))) (mvT hZ (hw _ (List.mem_of_getElem? (i := 3) rfl))) (by decide) (backOfSH (s := s) (vm0 := s.vm) (W := 0) (own_rm_pk l Z a0 hw [] G1 G3 k_EMPTY k_ENGLISH s_ENGLISH t_ENGLISH kb_ENGLISH k_JAPANESE s_JAPANESE t_JAPANESE kb_JAPANESE k_CHINESE s_CHINESE t_CHINESE kb_CHINESE k_VALUES kv_VALUES gl p2 h0 n0 Z0 X00 ) hZ (hw _ (List.mem_of_getElem? (i := 3) rfl)) (hw _ (List.mem_of_getElem? (i := 2) rfl)) (by decide) (by decide) (own_EW hw) hCH) (g := (mkF m 7 #[.val (.int p1), .val (.int p2), .val (.int p3), .val (.int p4), .val (.int (own_md p1)), .unset, .unset, .unset, .unset, .unset, .unset, .unset] [(.int p2)])) rfl (by rw [hml]; rfl) (argsL := [(.int p2)]) (rest := []) (lenOf own_pd7 rfl) rfl (by show 2 * 0 + _ ≤ _; exact Nat.le_of_eq rfl) (hb hby at_7) (fun _ _ => ⟨rfl, e0, (by decide : 0 + 2 ≤ _), (by decide : 0 + 28 ≤ _)⟩)
  dsimp only [Pt.U, Pt.locs, Pt.cells, Pt.slots] at X1 l1 y1 z1 st1 hQ1 hSq1 hgr1 hCr1
  subst y1 z1
  obtain ⟨Xw1, hS1, hZ1, hown1⟩ := rebS (vm0 := s.vm) ((State.WarmedH.refl s).since 0) (by rw [e0]; exact (Nat.zero_le _)) X1 hSq1 hgr1 hZ hown
  obtain ⟨rfl, Nq1, Kq1⟩ := hQ1
  have N1 : Fr n0 L1 := by rw [l1]; exact Fr.app N0 Nq1
  have Kp2 : Keep h0 T1.heap [] := (Keep.refl h0 []).trans Kq1 all0
  have Old3 : Old Z n0 T1.heap := X00.keep Kq1 all0
  obtain ⟨_, _, ⟨T4, L4, k4, n4⟩, -, X4, hSq4, hgr4, ⟨Lc4, hQ4, l4, y4, z4, hCr4⟩, st4⟩ := callSS Xw1 hx (y := (⟨"com/example/dragoman/dragoman/core/LanguageForCodePinLaw", "pick", "(I)C"⟩ : MethodName)) hown1 (mvT hZ1 (hw _ (List.mem_of_getElem? (i := 0) rfl))) (mvT hZ1 (hw _ (List.mem_of_getElem? (i := 1) rfl))) (mvT hZ1 (hw _ (List.mem_of_getElem? (i := 2) rfl))) (mvT hZ1 (hw _ (List.mem_of_getElem? (i := 3) rfl))) (by decide) (backOfSH (s := s) (vm0 := T1.vm) (W := 0) (own_rm_pk l Z a0 hw [] G1 G3 k_EMPTY k_ENGLISH s_ENGLISH t_ENGLISH kb_ENGLISH k_JAPANESE s_JAPANESE t_JAPANESE kb_JAPANESE k_CHINESE s_CHINESE t_CHINESE kb_CHINESE k_VALUES kv_VALUES gl p3 T1.heap n0 (Nat.le_trans Z0 Kp2.1) Old3 ) hZ1 (hw _ (List.mem_of_getElem? (i := 3) rfl)) (hw _ (List.mem_of_getElem? (i := 2) rfl)) (by decide) (by decide) (own_EW hw) hCr1.1) (g := (mkF m 13 #[.val (.int p1), .val (.int p2), .val (.int p3), .val (.int p4), .val (.int (own_md p1)), .val (.int (own_pk p2)), .unset, .unset, .unset, .unset, .unset, .unset] [(.int p3)])) rfl (by rw [hml]; rfl) (argsL := [(.int p3)]) (rest := []) (lenOf own_pd7 rfl) rfl (by show 2 * 0 + _ ≤ _; exact Nat.le_of_eq rfl) (hb hby at_13) (fun _ _ => ⟨rfl, rfl, (by decide : 2 + 2 ≤ _), (by decide : 28 + 28 ≤ _)⟩)
  dsimp only [Pt.U, Pt.locs, Pt.cells, Pt.slots] at X4 l4 y4 z4 st4 hQ4 hSq4 hgr4 hCr4
  subst y4 z4
  obtain ⟨Xw4, hS4, hZ4, hown4⟩ := rebS (vm0 := T1.vm) hS1 (Nat.le_refl _) X4 hSq4 hgr4 hZ1 hown1
  obtain ⟨rfl, Nq4, Kq4⟩ := hQ4
  have N4 : Fr n0 L4 := by rw [l4]; exact Fr.app N1 Nq4
  have Kp5 : Keep h0 T4.heap [] := Kp2.trans Kq4 all0
  have Old6 : Old Z n0 T4.heap := Old3.keep Kq4 all0
  obtain ⟨_, _, ⟨T7, L7, k7, n7⟩, -, X7, hSq7, hgr7, ⟨Lc7, hQ7, l7, y7, z7, hCr7⟩, st7⟩ := callSS Xw4 hx (y := (⟨"com/example/dragoman/dragoman/core/LanguageForCodePinLaw", "pick", "(I)C"⟩ : MethodName)) hown4 (mvT hZ4 (hw _ (List.mem_of_getElem? (i := 0) rfl))) (mvT hZ4 (hw _ (List.mem_of_getElem? (i := 1) rfl))) (mvT hZ4 (hw _ (List.mem_of_getElem? (i := 2) rfl))) (mvT hZ4 (hw _ (List.mem_of_getElem? (i := 3) rfl))) (by decide) (backOfSH (s := s) (vm0 := T4.vm) (W := 0) (own_rm_pk l Z a0 hw [] G1 G3 k_EMPTY k_ENGLISH s_ENGLISH t_ENGLISH kb_ENGLISH k_JAPANESE s_JAPANESE t_JAPANESE kb_JAPANESE k_CHINESE s_CHINESE t_CHINESE kb_CHINESE k_VALUES kv_VALUES gl p4 T4.heap n0 (Nat.le_trans Z0 Kp5.1) Old6 ) hZ4 (hw _ (List.mem_of_getElem? (i := 3) rfl)) (hw _ (List.mem_of_getElem? (i := 2) rfl)) (by decide) (by decide) (own_EW hw) hCr4.1) (g := (mkF m 19 #[.val (.int p1), .val (.int p2), .val (.int p3), .val (.int p4), .val (.int (own_md p1)), .val (.int (own_pk p2)), .val (.int (own_pk p3)), .unset, .unset, .unset, .unset, .unset] [(.int p4)])) rfl (by rw [hml]; rfl) (argsL := [(.int p4)]) (rest := []) (lenOf own_pd7 rfl) rfl (by show 2 * 0 + _ ≤ _; exact Nat.le_of_eq rfl) (hb hby at_19) (fun _ _ => ⟨rfl, rfl, (by decide : 4 + 2 ≤ _), (by decide : 56 + 28 ≤ _)⟩)
  dsimp only [Pt.U, Pt.locs, Pt.cells, Pt.slots] at X7 l7 y7 z7 st7 hQ7 hSq7 hgr7 hCr7
  subst y7 z7
  obtain ⟨Xw7, hS7, hZ7, hown7⟩ := rebS (vm0 := T4.vm) hS4 (Nat.le_refl _) X7 hSq7 hgr7 hZ4 hown4
  obtain ⟨rfl, Nq7, Kq7⟩ := hQ7
  have N7 : Fr n0 L7 := by rw [l7]; exact Fr.app N4 Nq7
  have Kp8 : Keep h0 T7.heap [] := Kp5.trans Kq7 all0
  obtain ⟨T9, h9, X9, e9, E9, A9, D9, U9, st9⟩ := newO Xw7 hx hZ7 hown7 (hw _ (List.mem_of_getElem? (i := 4) rfl)) (hw _ (List.mem_of_getElem? (i := 5) rfl)) (hw _ (List.mem_of_getElem? (i := 6) rfl)) rfl (g := (mkF m 130 #[.val (.int p1), .val (.int p2), .val (.int p3), .val (.int p4), .val (.int (own_md p1)), .val (.int (own_pk p2)), .val (.int (own_pk p3)), .val (.int (own_pk p4)), .unset, .unset, .unset, .unset] [])) rfl (hb hby at_130) (by decide) (by decide)
  obtain ⟨b9, g9⟩ : ∃ z, z = T7.heap.size := ⟨_, rfl⟩
  rw [← g9] at A9 D9 U9 st9
  have Kp10 : Keep h0 h9 [] := Kp8.ext E9
  obtain ⟨T11, h11, k11, X11, e11, E11, A11, st11⟩ := newP X9 hx hZ7 (hw _ (List.mem_of_getElem? (i := 7) rfl)) e9 (g := (mkF m 135 #[.val (.int p1), .val (.int p2), .val (.int p3), .val (.int p4), .val (.int (own_md p1)), .val (.int (own_pk p2)), .val (.int (own_pk p3)), .val (.int (own_pk p4)), .unset, .unset, .unset, .unset] [(.int (2 : Int32)), (.ref b9), (.ref b9)])) rfl (hb hby at_135) rfl (by decide) (cap := 2) (by decide) (by decide) (by decide) (by decide)
  obtain ⟨b11, g11⟩ : ∃ z, z = h9.size := ⟨_, rfl⟩
  rw [← g11] at A11 st11
  have Kp12 : Keep h0 h11 [] := Kp10.ext E11
  have Vh13 : Arv Z h11 b11 k11 .char (2 : Int32) [(.int (0 : Int32)), (.int (0 : Int32))] (.int (0 : Int32)) := (Arv.new A11 (by decide)).pad (pad_rep [] (.int (0 : Int32)) 2)
  obtain ⟨cl14, Ar14, qc14, Sz14, Ng14, Hs14, Gs14⟩ := id Vh13
  have hin14 : ¬ ((0 : Int32) < 0 ∨ cl14.slots.size ≤ ((0 : Int32)).toNatClampNeg) := inb_of Sz14 ⟨(by decide), (by decide)⟩
  obtain ⟨T15, h15, X15, e15, W15, st15⟩ := stC X11 hx hZ7 e11 Ar14 (j := (0 : Int32)) hin14 (g := (mkF m 141 #[.val (.int p1), .val (.int p2), .val (.int p3), .val (.int p4), .val (.int (own_md p1)), .val (.int (own_pk p2)), .val (.int (own_pk p3)), .val (.int (own_pk p4)), .unset, .unset, .unset, .unset] [(.int (own_pk p2)), (.int (0 : Int32)), (.ref b11), (.ref b11), (.ref b9), (.ref b9)])) rfl rfl (hb hby at_141)
  have Kp16 : Keep h0 h15 [] := Kp12.wr W15 (Or.inr (Nat.le_trans Kp10.1 (Nat.le_of_eq g11.symm)))
  have gh17 : n0 ≤ b11 := Nat.le_trans (Nat.le_trans Z0 Kp10.1) (Nat.le_of_eq g11.symm)
  obtain ⟨Lp15, X15, N15⟩ := own_pack X15 (Fr.snoc X15 N7 gh17)
  have Vh18 : Arv Z h15 b11 k11 .char (2 : Int32) [(.int (own_q p2)), (.int (0 : Int32))] (.int (0 : Int32)) := (Arv.set Ar14 qc14 Sz14 Ng14 Hs14 Gs14 (fits_nar_char _) W15 0 rfl (Nat.le_of_ble_eq_true rfl))
  obtain ⟨cl19, Ar19, qc19, Sz19, Ng19, Hs19, Gs19⟩ := id Vh18
  have hin19 : ¬ ((1 : Int32) < 0 ∨ cl19.slots.size ≤ ((1 : Int32)).toNatClampNeg) := inb_of Sz19 ⟨(by decide), (by decide)⟩
  obtain ⟨T20, h20, X20, e20, W20, st20⟩ := stC X15 hx hZ7 e15 Ar19 (j := (1 : Int32)) hin19 (g := (mkF m 146 #[.val (.int p1), .val (.int p2), .val (.int p3), .val (.int p4), .val (.int (own_md p1)), .val (.int (own_pk p2)), .val (.int (own_pk p3)), .val (.int (own_pk p4)), .unset, .unset, .unset, .unset] [(.int (own_pk p3)), (.int (1 : Int32)), (.ref b11), (.ref b11), (.ref b9), (.ref b9)])) rfl rfl (hb hby at_146)
  have Kp21 : Keep h0 h20 [] := Kp16.wr W20 (Or.inr (Nat.le_trans Kp10.1 (Nat.le_of_eq g11.symm)))
  obtain ⟨Lp20, X20, N20⟩ := own_pack X20 (Fr.snoc X20 N15 gh17)
  have Vh22 : Arv Z h20 b11 k11 .char (2 : Int32) [(.int (own_q p2)), (.int (own_q p3))] (.int (0 : Int32)) := (Arv.set Ar19 qc19 Sz19 Ng19 Hs19 Gs19 (fits_nar_char _) W20 1 rfl (Nat.le_of_ble_eq_true rfl))
  have Eh23 : Exa Z h20 b9 "java/lang/String" := (((A9.ext E11).wr W15).wr W20)
  have Fh24 : Fld Z h9 b9 "java/lang/String" "value" "[B" .null := (D9 (Or.inr (hw _ (List.mem_of_getElem? (i := 20) rfl))) (ty := (.array .byte)) (by decide))
  have Fh25 : Fld Z h20 b9 "java/lang/String" "value" "[B" .null := (((Fh24.ext E11).other W15 (Or.inl (Nat.ne_of_lt (Nat.lt_of_lt_of_le A9.lt (Nat.le_of_eq g11.symm))))).other W20 (Or.inl (Nat.ne_of_lt (Nat.lt_of_lt_of_le A9.lt (Nat.le_of_eq g11.symm)))))
  have Fh26 : Fld Z h9 b9 "java/lang/String" "coder" "B" (.int (0 : Int32)) := (D9 (Or.inr (hw _ (List.mem_of_getElem? (i := 21) rfl))) (ty := .byte) (by decide))
  have Fh27 : Fld Z h20 b9 "java/lang/String" "coder" "B" (.int (0 : Int32)) := (((Fh26.ext E11).other W15 (Or.inl (Nat.ne_of_lt (Nat.lt_of_lt_of_le A9.lt (Nat.le_of_eq g11.symm))))).other W20 (Or.inl (Nat.ne_of_lt (Nat.lt_of_lt_of_le A9.lt (Nat.le_of_eq g11.symm)))))
  have hph28 : ∀ c ∈ ([(own_q p2), (own_q p3)] : List Int32), ¬ c < 0 ∧ ¬ (255 : Int32) < c := (own_cS (own_rng_q p2) (own_cS (own_rng_q p3) own_c0))
  have hws_words : ∀ d ∈ StrChars.Road.words, d.before a0 Z = true := fun d hd => hw d (own_hws_words d hd)
  have Zh29 : n0 ≤ h20.size := (Nat.le_trans Z0 Kp21.1)
  have gh30 : n0 ≤ b9 := Nat.le_trans (Nat.le_trans Z0 Kp8.1) (Nat.le_of_eq g9.symm)
  have Old31 : Old Z n0 T7.heap := Old6.keep Kq7 all0
  have Old32 : Old Z n0 h9 := Old31.ext E9
  have Old33 : Old Z n0 h11 := Old32.ext E11
  have Old34 : Old Z n0 h15 := Old33.wr W15 gh17
  have Old35 : Old Z n0 h20 := Old34.wr W20 gh17
  obtain ⟨_, _, ⟨T36, L36, k36, n36⟩, -, X36, ⟨Lc36, hQ36, l36, y36, z36⟩, st36⟩ := X20.specialBack hx (y := (⟨"java/lang/String", "<init>", "([C)V"⟩ : MethodName)) rfl hown7 (mvT hZ7 (hw _ (List.mem_of_getElem? (i := 8) rfl))) (mvT hZ7 (hw _ (List.mem_of_getElem? (i := 9) rfl))) (mvT hZ7 (hw _ (List.mem_of_getElem? (i := 10) rfl))) (by decide) (StrChars.Road.backV (W := 1) hZ7 hws_words (kI := 4) (hw _ (List.mem_of_getElem? (i := 5) rfl)) (cs := ([(own_q p2), (own_q p3)] : List Int32)) (bs := ([(own_q p2), (own_q p3)] : List Int32).map (fun c => c.toInt8.toInt32)) (n := 2) gh30 Zh29 Eh23 Fh25 Fh27 Vh22 (O_CS.ext Old35.2) P_CS rfl rfl (by decide) (by decide) hph28 rfl (by decide) (by decide)) (g := (mkF m 147 #[.val (.int p1), .val (.int p2), .val (.int p3), .val (.int p4), .val (.int (own_md p1)), .val (.int (own_pk p2)), .val (.int (own_pk p3)), .val (.int (own_pk p4)), .unset, .unset, .unset, .unset] [(.ref b11), (.ref b9), (.ref b9)])) rfl (by rw [hml]; rfl) (Steps.refl _) (a := b9) (argsL := [(.ref b11)]) (rest := [(.ref b9)]) (lenOf own_pd14 rfl) rfl (by show 2 * 0 + _ ≤ _; exact Nat.le_of_eq rfl) (hb hby at_147) (fun _ _ => ⟨rfl, e20, (by decide : 8 + 1 ≤ _), (by decide : 90 + 2 ≤ _)⟩)
  dsimp only [Pt.U, Pt.locs, Pt.cells, Pt.slots] at X36 l36 y36 z36 st36 hQ36
  subst y36 z36
  obtain ⟨rfl, Nq36, Kq36, Eq36, Cq36, t36, kb36, gt36, szt36, nt36, Vq36, Bq36⟩ := hQ36
  have N36 : Fr n0 L36 := by rw [l36]; exact Fr.app N20 Nq36
  have Kp37 : Keep h0 T36.heap [] := Kp21.trans Kq36 (allS (Or.inr (Nat.le_trans Kp8.1 (Nat.le_of_eq g9.symm))) all0)
  have Old38 : Old Z n0 T36.heap := Old35.keep Kq36 (allS gh30 all0)
  obtain ⟨_, _, ⟨T39, L39, k39, n39⟩, -, X39, ⟨Lc39, hQ39, l39, y39, z39⟩, st39⟩ := Jvm.LawKit.callS X36 hx (y := (⟨"com/example/dragoman/dragoman/core/Language", "forCode", "(Ljava/lang/String;)Ljava/util/Optional;"⟩ : MethodName)) hown7 (mvT hZ7 (hw _ (List.mem_of_getElem? (i := 26) rfl))) (mvT hZ7 (hw _ (List.mem_of_getElem? (i := 27) rfl))) (mvT hZ7 (hw _ (List.mem_of_getElem? (i := 28) rfl))) (mvT hZ7 (hw _ (List.mem_of_getElem? (i := 29) rfl))) (by decide) (backOf (W := 0) (own_rm_fcO l Z a0 hw [] G1 G3 k_EMPTY k_ENGLISH s_ENGLISH t_ENGLISH kb_ENGLISH k_JAPANESE s_JAPANESE t_JAPANESE kb_JAPANESE k_CHINESE s_CHINESE t_CHINESE kb_CHINESE k_VALUES kv_VALUES gl b9 ([(own_q p2), (own_q p3)] : List Int32) t36 (kb36) T36.heap n0 (Nat.le_trans Z0 Kp37.1) Old38 Eq36 Vq36 Cq36 Bq36 hph28 (Nat.le_of_ble_eq_true rfl) (own_na hc1) (own_na hc2) (own_na hc3)) hZ7 (hw _ (List.mem_of_getElem? (i := 29) rfl)) (hw _ (List.mem_of_getElem? (i := 28) rfl)) (by decide) (by decide)) (g := (mkF m 234 #[.val (.int p1), .val (.int p2), .val (.int p3), .val (.int p4), .val (.int (own_md p1)), .val (.int (own_pk p2)), .val (.int (own_pk p3)), .val (.int (own_pk p4)), .val (.ref b9), .val (.int (2 : Int32)), .val .null, .unset] [(.ref b9)])) rfl (by rw [hml]; rfl) (argsL := [(.ref b9)]) (rest := []) (lenOf own_pd13 rfl) rfl (by show 2 * 0 + _ ≤ _; exact Nat.le_of_eq rfl) (hb hby at_234) (fun _ _ => ⟨rfl, rfl, (by decide : 9 + 1 ≤ _), (by decide : 92 + 3 ≤ _)⟩)
  dsimp only [Pt.U, Pt.locs, Pt.cells, Pt.slots] at X39 l39 y39 z39 st39 hQ39
  subst y39 z39
  obtain ⟨rfl, Nq39, Kq39⟩ := hQ39
  have N39 : Fr n0 L39 := by rw [l39]; exact Fr.app N36 Nq39
  have Kp40 : Keep h0 T39.heap [] := Kp37.trans Kq39 all0
  have Old41 : Old Z n0 T39.heap := Old38.keep Kq39 all0
  obtain ⟨cq42, kq42, q42a, q42b, q42c⟩ := isOf hZ7 rfl (E_EMPTY.ext Old41.2)
  obtain ⟨_, _, ⟨T42, L42, k42, n42⟩, -, X42, ⟨Lc42, hQ42, l42, y42, z42⟩, st42⟩ := X39.virtualBack hx (y := (⟨"java/util/Optional", "orElse", "(Ljava/lang/Object;)Ljava/lang/Object;"⟩ : MethodName)) (z := (⟨"java/util/Optional", "orElse", "(Ljava/lang/Object;)Ljava/lang/Object;"⟩ : MethodName)) hown7 (mvT hZ7 (hw _ (List.mem_of_getElem? (i := 66) rfl))) (mvT hZ7 (hw _ (List.mem_of_getElem? (i := 67) rfl))) (notFace_of_selects (args := #[]) (mvT hZ7 (hw _ (List.mem_of_getElem? (i := 69) rfl)))) (mvT hZ7 (hw _ (List.mem_of_getElem? (i := 69) rfl))) (mvT hZ7 (hw _ (List.mem_of_getElem? (i := 68) rfl))) (by decide) (backOf (W := 0) (own_rm_oeN l Z a0 hw [] G1 G3 k_EMPTY k_ENGLISH s_ENGLISH t_ENGLISH kb_ENGLISH k_JAPANESE s_JAPANESE t_JAPANESE kb_JAPANESE k_CHINESE s_CHINESE t_CHINESE kb_CHINESE k_VALUES kv_VALUES gl k_EMPTY T39.heap n0 (Nat.le_trans Z0 Kp40.1) (F_EMPTY.ext Old41.2)) hZ7 (hw _ (List.mem_of_getElem? (i := 70) rfl)) (hw _ (List.mem_of_getElem? (i := 63) rfl)) (by decide) (by decide)) q42a q42c (g := (mkF m 238 #[.val (.int p1), .val (.int p2), .val (.int p3), .val (.int p4), .val (.int (own_md p1)), .val (.int (own_pk p2)), .val (.int (own_pk p3)), .val (.int (own_pk p4)), .val (.ref b9), .val (.int (2 : Int32)), .val .null, .unset] [.null, (.ref k_EMPTY)])) rfl (by rw [hml]; rfl) (Steps.refl _) (argsL := [.null]) (rest := []) (lenOf own_pd4 rfl) rfl (by show 2 * 0 + _ ≤ _; exact Nat.le_of_eq rfl) (hb hby at_238) (fun _ _ => ⟨rfl, rfl, (by decide : 10 + 0 ≤ _), (by decide : 95 + 0 ≤ _)⟩)
  dsimp only [Pt.U, Pt.locs, Pt.cells, Pt.slots] at X42 l42 y42 z42 st42 hQ42
  subst y42 z42
  obtain ⟨rfl, Nq42, e42⟩ := hQ42
  have N42 : Fr n0 L42 := by rw [l42]; exact Fr.app N39 Nq42
  obtain ⟨fs, hr, hrun, hended, hREW⟩ := X42.leaveW hS7 (by rw [e42]; exact (Nat.le_trans (Nat.le_refl _) (Nat.le_trans (Nat.le_trans (Nat.le_trans (Nat.le_trans (Nat.le_trans E9.1 E11.1) (Keep.of_wr W15).1) (Keep.of_wr W20).1) Kq36.1) Kq39.1))) (v := some (.int (1 : Int32))) (fun h => by rw [Bd.returns] at h; cases h)
  refine ⟨_, _, pre0 _ ?_, hrun, hended, _, _, rfl, ?_, hREW.1, hREW.2.1, hREW.2.2.1, hREW.2.2.2.mono (by decide) (by decide)⟩
  · show Steps p.tables e below (s₁.setTop (mkF m 0 #[.val (.int p1), .val (.int p2), .val (.int p3), .val (.int p4), .unset, .unset, .unset, .unset, .unset, .unset, .unset, .unset] [])) _
    refine XS.iloadN X0.here hx rfl (hb hby at_0) rfl ?_
    show Steps p.tables e below (s₁.setTop (mkF m 1 #[.val (.int p1), .val (.int p2), .val (.int p3), .val (.int p4), .unset, .unset, .unset, .unset, .unset, .unset, .unset, .unset] [(.int p1)])) _
    refine XS.bipush X0.here hx rfl (hb hby at_1) ?_
    show Steps p.tables e below (s₁.setTop (mkF m 3 #[.val (.int p1), .val (.int p2), .val (.int p3), .val (.int p4), .unset, .unset, .unset, .unset, .unset, .unset, .unset, .unset] [(.int (7 : Int32)), (.int p1)])) _
    refine XS.iand X0.here hx rfl (hb hby at_3) rfl ?_
    show Steps p.tables e below (s₁.setTop (mkF m 4 #[.val (.int p1), .val (.int p2), .val (.int p3), .val (.int p4), .unset, .unset, .unset, .unset, .unset, .unset, .unset, .unset] [(.int (own_md p1))])) _
    refine XS.istore X0.here hx rfl (hb hby at_4) rfl (l' := #[.val (.int p1), .val (.int p2), .val (.int p3), .val (.int p4), .val (.int (own_md p1)), .unset, .unset, .unset, .unset, .unset, .unset, .unset]) rfl ?_
    show Steps p.tables e below (s₁.setTop (mkF m 6 #[.val (.int p1), .val (.int p2), .val (.int p3), .val (.int p4), .val (.int (own_md p1)), .unset, .unset, .unset, .unset, .unset, .unset, .unset] [])) _
    refine XS.iloadN X0.here hx rfl (hb hby at_6) rfl ?_
    show Steps p.tables e below (s₁.setTop (mkF m 7 #[.val (.int p1), .val (.int p2), .val (.int p3), .val (.int p4), .val (.int (own_md p1)), .unset, .unset, .unset, .unset, .unset, .unset, .unset] [(.int p2)])) _
    refine st1.trans ?_
    show Steps p.tables e below (T1.setTop (mkF m 10 #[.val (.int p1), .val (.int p2), .val (.int p3), .val (.int p4), .val (.int (own_md p1)), .unset, .unset, .unset, .unset, .unset, .unset, .unset] [(.int (own_pk p2))])) _
    refine XS.istore Xw1.here hx rfl (hb hby at_10) rfl (l' := #[.val (.int p1), .val (.int p2), .val (.int p3), .val (.int p4), .val (.int (own_md p1)), .val (.int (own_pk p2)), .unset, .unset, .unset, .unset, .unset, .unset]) rfl ?_
    show Steps p.tables e below (T1.setTop (mkF m 12 #[.val (.int p1), .val (.int p2), .val (.int p3), .val (.int p4), .val (.int (own_md p1)), .val (.int (own_pk p2)), .unset, .unset, .unset, .unset, .unset, .unset] [])) _
    refine XS.iloadN Xw1.here hx rfl (hb hby at_12) rfl ?_
    show Steps p.tables e below (T1.setTop (mkF m 13 #[.val (.int p1), .val (.int p2), .val (.int p3), .val (.int p4), .val (.int (own_md p1)), .val (.int (own_pk p2)), .unset, .unset, .unset, .unset, .unset, .unset] [(.int p3)])) _
    refine st4.trans ?_
    show Steps p.tables e below (T4.setTop (mkF m 16 #[.val (.int p1), .val (.int p2), .val (.int p3), .val (.int p4), .val (.int (own_md p1)), .val (.int (own_pk p2)), .unset, .unset, .unset, .unset, .unset, .unset] [(.int (own_pk p3))])) _
    refine XS.istore Xw4.here hx rfl (hb hby at_16) rfl (l' := #[.val (.int p1), .val (.int p2), .val (.int p3), .val (.int p4), .val (.int (own_md p1)), .val (.int (own_pk p2)), .val (.int (own_pk p3)), .unset, .unset, .unset, .unset, .unset]) rfl ?_
    show Steps p.tables e below (T4.setTop (mkF m 18 #[.val (.int p1), .val (.int p2), .val (.int p3), .val (.int p4), .val (.int (own_md p1)), .val (.int (own_pk p2)), .val (.int (own_pk p3)), .unset, .unset, .unset, .unset, .unset] [])) _
    refine XS.iloadN Xw4.here hx rfl (hb hby at_18) rfl ?_
    show Steps p.tables e below (T4.setTop (mkF m 19 #[.val (.int p1), .val (.int p2), .val (.int p3), .val (.int p4), .val (.int (own_md p1)), .val (.int (own_pk p2)), .val (.int (own_pk p3)), .unset, .unset, .unset, .unset, .unset] [(.int p4)])) _
    refine st7.trans ?_
    show Steps p.tables e below (T7.setTop (mkF m 22 #[.val (.int p1), .val (.int p2), .val (.int p3), .val (.int p4), .val (.int (own_md p1)), .val (.int (own_pk p2)), .val (.int (own_pk p3)), .unset, .unset, .unset, .unset, .unset] [(.int (own_pk p4))])) _
    refine XS.istore Xw7.here hx rfl (hb hby at_22) rfl (l' := #[.val (.int p1), .val (.int p2), .val (.int p3), .val (.int p4), .val (.int (own_md p1)), .val (.int (own_pk p2)), .val (.int (own_pk p3)), .val (.int (own_pk p4)), .unset, .unset, .unset, .unset]) rfl ?_
    show Steps p.tables e below (T7.setTop (mkF m 24 #[.val (.int p1), .val (.int p2), .val (.int p3), .val (.int p4), .val (.int (own_md p1)), .val (.int (own_pk p2)), .val (.int (own_pk p3)), .val (.int (own_pk p4)), .unset, .unset, .unset, .unset] [])) _
    refine XS.iload Xw7.here hx rfl (hb hby at_24) rfl ?_
    show Steps p.tables e below (T7.setTop (mkF m 26 #[.val (.int p1), .val (.int p2), .val (.int p3), .val (.int p4), .val (.int (own_md p1)), .val (.int (own_pk p2)), .val (.int (own_pk p3)), .val (.int (own_pk p4)), .unset, .unset, .unset, .unset] [(.int (own_md p1))])) _
    refine XS.iconst Xw7.here hx rfl (hb hby at_26) ?_
    show Steps p.tables e below (T7.setTop (mkF m 27 #[.val (.int p1), .val (.int p2), .val (.int p3), .val (.int p4), .val (.int (own_md p1)), .val (.int (own_pk p2)), .val (.int (own_pk p3)), .val (.int (own_pk p4)), .unset, .unset, .unset, .unset] [(.int (4 : Int32)), (.int (own_md p1))])) _
    refine XS.icmpYes Xw7.here hx rfl (pc0 := 27) (pc' := 39) rfl (hb hby at_27) rfl (feq (hk.1 : ¬ ((own_md p1) = (4 : Int32)))).2 (by decide) (by decide) ?_
    show Steps p.tables e below (T7.setTop (mkF m 39 #[.val (.int p1), .val (.int p2), .val (.int p3), .val (.int p4), .val (.int (own_md p1)), .val (.int (own_pk p2)), .val (.int (own_pk p3)), .val (.int (own_pk p4)), .unset, .unset, .unset, .unset] [])) _
    refine XS.iload Xw7.here hx rfl (hb hby at_39) rfl ?_
    show Steps p.tables e below (T7.setTop (mkF m 41 #[.val (.int p1), .val (.int p2), .val (.int p3), .val (.int p4), .val (.int (own_md p1)), .val (.int (own_pk p2)), .val (.int (own_pk p3)), .val (.int (own_pk p4)), .unset, .unset, .unset, .unset] [(.int (own_md p1))])) _
    refine XS.ifYes Xw7.here hx rfl (pc0 := 41) (pc' := 62) rfl (hb hby at_41) rfl ((if0 _ _).trans (feq (hk.2.1 : ¬ ((own_md p1) = (0 : Int32)))).2) (by decide) (by decide) ?_
    show Steps p.tables e below (T7.setTop (mkF m 62 #[.val (.int p1), .val (.int p2), .val (.int p3), .val (.int p4), .val (.int (own_md p1)), .val (.int (own_pk p2)), .val (.int (own_pk p3)), .val (.int (own_pk p4)), .unset, .unset, .unset, .unset] [])) _
    refine XS.iload Xw7.here hx rfl (hb hby at_62) rfl ?_
    show Steps p.tables e below (T7.setTop (mkF m 64 #[.val (.int p1), .val (.int p2), .val (.int p3), .val (.int p4), .val (.int (own_md p1)), .val (.int (own_pk p2)), .val (.int (own_pk p3)), .val (.int (own_pk p4)), .unset, .unset, .unset, .unset] [(.int (own_md p1))])) _
    refine XS.iconst Xw7.here hx rfl (hb hby at_64) ?_
    show Steps p.tables e below (T7.setTop (mkF m 65 #[.val (.int p1), .val (.int p2), .val (.int p3), .val (.int p4), .val (.int (own_md p1)), .val (.int (own_pk p2)), .val (.int (own_pk p3)), .val (.int (own_pk p4)), .unset, .unset, .unset, .unset] [(.int (1 : Int32)), (.int (own_md p1))])) _
    refine XS.icmpYes Xw7.here hx rfl (pc0 := 65) (pc' := 91) rfl (hb hby at_65) rfl (feq (hk.2.2.1 : ¬ ((own_md p1) = (1 : Int32)))).2 (by decide) (by decide) ?_
    show Steps p.tables e below (T7.setTop (mkF m 91 #[.val (.int p1), .val (.int p2), .val (.int p3), .val (.int p4), .val (.int (own_md p1)), .val (.int (own_pk p2)), .val (.int (own_pk p3)), .val (.int (own_pk p4)), .unset, .unset, .unset, .unset] [])) _
    refine XS.iload Xw7.here hx rfl (hb hby at_91) rfl ?_
    show Steps p.tables e below (T7.setTop (mkF m 93 #[.val (.int p1), .val (.int p2), .val (.int p3), .val (.int p4), .val (.int (own_md p1)), .val (.int (own_pk p2)), .val (.int (own_pk p3)), .val (.int (own_pk p4)), .unset, .unset, .unset, .unset] [(.int (own_md p1))])) _
    refine XS.iconst Xw7.here hx rfl (hb hby at_93) ?_
    show Steps p.tables e below (T7.setTop (mkF m 94 #[.val (.int p1), .val (.int p2), .val (.int p3), .val (.int p4), .val (.int (own_md p1)), .val (.int (own_pk p2)), .val (.int (own_pk p3)), .val (.int (own_pk p4)), .unset, .unset, .unset, .unset] [(.int (3 : Int32)), (.int (own_md p1))])) _
    refine XS.icmpYes Xw7.here hx rfl (pc0 := 94) (pc' := 130) rfl (hb hby at_94) rfl (feq (hk.2.2.2 : ¬ ((own_md p1) = (3 : Int32)))).2 (by decide) (by decide) ?_
    show Steps p.tables e below (T7.setTop (mkF m 130 #[.val (.int p1), .val (.int p2), .val (.int p3), .val (.int p4), .val (.int (own_md p1)), .val (.int (own_pk p2)), .val (.int (own_pk p3)), .val (.int (own_pk p4)), .unset, .unset, .unset, .unset] [])) _
    refine st9 _ ?_
    show Steps p.tables e below (T9.setTop (mkF m 133 #[.val (.int p1), .val (.int p2), .val (.int p3), .val (.int p4), .val (.int (own_md p1)), .val (.int (own_pk p2)), .val (.int (own_pk p3)), .val (.int (own_pk p4)), .unset, .unset, .unset, .unset] [(.ref b9)])) _
    refine XS.dup X9.here hx rfl (hb hby at_133) rfl rfl ?_
    show Steps p.tables e below (T9.setTop (mkF m 134 #[.val (.int p1), .val (.int p2), .val (.int p3), .val (.int p4), .val (.int (own_md p1)), .val (.int (own_pk p2)), .val (.int (own_pk p3)), .val (.int (own_pk p4)), .unset, .unset, .unset, .unset] [(.ref b9), (.ref b9)])) _
    refine XS.iconst X9.here hx rfl (hb hby at_134) ?_
    show Steps p.tables e below (T9.setTop (mkF m 135 #[.val (.int p1), .val (.int p2), .val (.int p3), .val (.int p4), .val (.int (own_md p1)), .val (.int (own_pk p2)), .val (.int (own_pk p3)), .val (.int (own_pk p4)), .unset, .unset, .unset, .unset] [(.int (2 : Int32)), (.ref b9), (.ref b9)])) _
    refine st11 _ ?_
    show Steps p.tables e below (T11.setTop (mkF m 137 #[.val (.int p1), .val (.int p2), .val (.int p3), .val (.int p4), .val (.int (own_md p1)), .val (.int (own_pk p2)), .val (.int (own_pk p3)), .val (.int (own_pk p4)), .unset, .unset, .unset, .unset] [(.ref b11), (.ref b9), (.ref b9)])) _
    refine XS.dup X11.here hx rfl (hb hby at_137) rfl rfl ?_
    show Steps p.tables e below (T11.setTop (mkF m 138 #[.val (.int p1), .val (.int p2), .val (.int p3), .val (.int p4), .val (.int (own_md p1)), .val (.int (own_pk p2)), .val (.int (own_pk p3)), .val (.int (own_pk p4)), .unset, .unset, .unset, .unset] [(.ref b11), (.ref b11), (.ref b9), (.ref b9)])) _
    refine XS.iconst X11.here hx rfl (hb hby at_138) ?_
    show Steps p.tables e below (T11.setTop (mkF m 139 #[.val (.int p1), .val (.int p2), .val (.int p3), .val (.int p4), .val (.int (own_md p1)), .val (.int (own_pk p2)), .val (.int (own_pk p3)), .val (.int (own_pk p4)), .unset, .unset, .unset, .unset] [(.int (0 : Int32)), (.ref b11), (.ref b11), (.ref b9), (.ref b9)])) _
    refine XS.iload X11.here hx rfl (hb hby at_139) rfl ?_
    show Steps p.tables e below (T11.setTop (mkF m 141 #[.val (.int p1), .val (.int p2), .val (.int p3), .val (.int p4), .val (.int (own_md p1)), .val (.int (own_pk p2)), .val (.int (own_pk p3)), .val (.int (own_pk p4)), .unset, .unset, .unset, .unset] [(.int (own_pk p2)), (.int (0 : Int32)), (.ref b11), (.ref b11), (.ref b9), (.ref b9)])) _
    refine st15 _ ?_
    show Steps p.tables e below (T15.setTop (mkF m 142 #[.val (.int p1), .val (.int p2), .val (.int p3), .val (.int p4), .val (.int (own_md p1)), .val (.int (own_pk p2)), .val (.int (own_pk p3)), .val (.int (own_pk p4)), .unset, .unset, .unset, .unset] [(.ref b11), (.ref b9), (.ref b9)])) _
    refine XS.dup X15.here hx rfl (hb hby at_142) rfl rfl ?_
    show Steps p.tables e below (T15.setTop (mkF m 143 #[.val (.int p1), .val (.int p2), .val (.int p3), .val (.int p4), .val (.int (own_md p1)), .val (.int (own_pk p2)), .val (.int (own_pk p3)), .val (.int (own_pk p4)), .unset, .unset, .unset, .unset] [(.ref b11), (.ref b11), (.ref b9), (.ref b9)])) _
    refine XS.iconst X15.here hx rfl (hb hby at_143) ?_
    show Steps p.tables e below (T15.setTop (mkF m 144 #[.val (.int p1), .val (.int p2), .val (.int p3), .val (.int p4), .val (.int (own_md p1)), .val (.int (own_pk p2)), .val (.int (own_pk p3)), .val (.int (own_pk p4)), .unset, .unset, .unset, .unset] [(.int (1 : Int32)), (.ref b11), (.ref b11), (.ref b9), (.ref b9)])) _
    refine XS.iload X15.here hx rfl (hb hby at_144) rfl ?_
    show Steps p.tables e below (T15.setTop (mkF m 146 #[.val (.int p1), .val (.int p2), .val (.int p3), .val (.int p4), .val (.int (own_md p1)), .val (.int (own_pk p2)), .val (.int (own_pk p3)), .val (.int (own_pk p4)), .unset, .unset, .unset, .unset] [(.int (own_pk p3)), (.int (1 : Int32)), (.ref b11), (.ref b11), (.ref b9), (.ref b9)])) _
    refine st20 _ ?_
    show Steps p.tables e below (T20.setTop (mkF m 147 #[.val (.int p1), .val (.int p2), .val (.int p3), .val (.int p4), .val (.int (own_md p1)), .val (.int (own_pk p2)), .val (.int (own_pk p3)), .val (.int (own_pk p4)), .unset, .unset, .unset, .unset] [(.ref b11), (.ref b9), (.ref b9)])) _
    refine st36.trans ?_
    show Steps p.tables e below (T36.setTop (mkF m 150 #[.val (.int p1), .val (.int p2), .val (.int p3), .val (.int p4), .val (.int (own_md p1)), .val (.int (own_pk p2)), .val (.int (own_pk p3)), .val (.int (own_pk p4)), .unset, .unset, .unset, .unset] [(.ref b9)])) _
    refine XS.astore X36.here hx rfl (hb hby at_150) rfl rfl (l' := #[.val (.int p1), .val (.int p2), .val (.int p3), .val (.int p4), .val (.int (own_md p1)), .val (.int (own_pk p2)), .val (.int (own_pk p3)), .val (.int (own_pk p4)), .val (.ref b9), .unset, .unset, .unset]) rfl ?_
    show Steps p.tables e below (T36.setTop (mkF m 152 #[.val (.int p1), .val (.int p2), .val (.int p3), .val (.int p4), .val (.int (own_md p1)), .val (.int (own_pk p2)), .val (.int (own_pk p3)), .val (.int (own_pk p4)), .val (.ref b9), .unset, .unset, .unset] [])) _
    refine XS.iconst X36.here hx rfl (hb hby at_152) ?_
    show Steps p.tables e below (T36.setTop (mkF m 153 #[.val (.int p1), .val (.int p2), .val (.int p3), .val (.int p4), .val (.int (own_md p1)), .val (.int (own_pk p2)), .val (.int (own_pk p3)), .val (.int (own_pk p4)), .val (.ref b9), .unset, .unset, .unset] [(.int (2 : Int32))])) _
    refine XS.istore X36.here hx rfl (hb hby at_153) rfl (l' := #[.val (.int p1), .val (.int p2), .val (.int p3), .val (.int p4), .val (.int (own_md p1)), .val (.int (own_pk p2)), .val (.int (own_pk p3)), .val (.int (own_pk p4)), .val (.ref b9), .val (.int (2 : Int32)), .unset, .unset]) rfl ?_
    show Steps p.tables e below (T36.setTop (mkF m 155 #[.val (.int p1), .val (.int p2), .val (.int p3), .val (.int p4), .val (.int (own_md p1)), .val (.int (own_pk p2)), .val (.int (own_pk p3)), .val (.int (own_pk p4)), .val (.ref b9), .val (.int (2 : Int32)), .unset, .unset] [])) _
    refine XS.aconstNull X36.here hx rfl (hb hby at_155) ?_
    show Steps p.tables e below (T36.setTop (mkF m 156 #[.val (.int p1), .val (.int p2), .val (.int p3), .val (.int p4), .val (.int (own_md p1)), .val (.int (own_pk p2)), .val (.int (own_pk p3)), .val (.int (own_pk p4)), .val (.ref b9), .val (.int (2 : Int32)), .unset, .unset] [.null])) _
    refine XS.astore X36.here hx rfl (hb hby at_156) rfl rfl (l' := #[.val (.int p1), .val (.int p2), .val (.int p3), .val (.int p4), .val (.int (own_md p1)), .val (.int (own_pk p2)), .val (.int (own_pk p3)), .val (.int (own_pk p4)), .val (.ref b9), .val (.int (2 : Int32)), .val .null, .unset]) rfl ?_
    show Steps p.tables e below (T36.setTop (mkF m 158 #[.val (.int p1), .val (.int p2), .val (.int p3), .val (.int p4), .val (.int (own_md p1)), .val (.int (own_pk p2)), .val (.int (own_pk p3)), .val (.int (own_pk p4)), .val (.ref b9), .val (.int (2 : Int32)), .val .null, .unset] [])) _
    refine XS.aload X36.here hx rfl (hb hby at_158) rfl rfl ?_
    show Steps p.tables e below (T36.setTop (mkF m 160 #[.val (.int p1), .val (.int p2), .val (.int p3), .val (.int p4), .val (.int (own_md p1)), .val (.int (own_pk p2)), .val (.int (own_pk p3)), .val (.int (own_pk p4)), .val (.ref b9), .val (.int (2 : Int32)), .val .null, .unset] [(.ref b9)])) _
    refine XS.ifnullNo X36.here hx rfl (hb hby at_160) rfl ?_
    show Steps p.tables e below (T36.setTop (mkF m 163 #[.val (.int p1), .val (.int p2), .val (.int p3), .val (.int p4), .val (.int (own_md p1)), .val (.int (own_pk p2)), .val (.int (own_pk p3)), .val (.int (own_pk p4)), .val (.ref b9), .val (.int (2 : Int32)), .val .null, .unset] [])) _
    refine XS.iload X36.here hx rfl (hb hby at_163) rfl ?_
    show Steps p.tables e below (T36.setTop (mkF m 165 #[.val (.int p1), .val (.int p2), .val (.int p3), .val (.int p4), .val (.int (own_md p1)), .val (.int (own_pk p2)), .val (.int (own_pk p3)), .val (.int (own_pk p4)), .val (.ref b9), .val (.int (2 : Int32)), .val .null, .unset] [(.int (2 : Int32))])) _
    refine XS.iconst X36.here hx rfl (hb hby at_165) ?_
    show Steps p.tables e below (T36.setTop (mkF m 166 #[.val (.int p1), .val (.int p2), .val (.int p3), .val (.int p4), .val (.int (own_md p1)), .val (.int (own_pk p2)), .val (.int (own_pk p3)), .val (.int (own_pk p4)), .val (.ref b9), .val (.int (2 : Int32)), .val .null, .unset] [(.int (2 : Int32)), (.int (2 : Int32))])) _
    refine XS.icmpNo X36.here hx rfl (hb hby at_166) rfl (teq (rfl : (2 : Int32) = (2 : Int32))).2 ?_
    show Steps p.tables e below (T36.setTop (mkF m 169 #[.val (.int p1), .val (.int p2), .val (.int p3), .val (.int p4), .val (.int (own_md p1)), .val (.int (own_pk p2)), .val (.int (own_pk p3)), .val (.int (own_pk p4)), .val (.ref b9), .val (.int (2 : Int32)), .val .null, .unset] [])) _
    refine XS.iload X36.here hx rfl (hb hby at_169) rfl ?_
    show Steps p.tables e below (T36.setTop (mkF m 171 #[.val (.int p1), .val (.int p2), .val (.int p3), .val (.int p4), .val (.int (own_md p1)), .val (.int (own_pk p2)), .val (.int (own_pk p3)), .val (.int (own_pk p4)), .val (.ref b9), .val (.int (2 : Int32)), .val .null, .unset] [(.int (own_pk p2))])) _
    refine XS.bipush X36.here hx rfl (hb hby at_171) ?_
    show Steps p.tables e below (T36.setTop (mkF m 173 #[.val (.int p1), .val (.int p2), .val (.int p3), .val (.int p4), .val (.int (own_md p1)), .val (.int (own_pk p2)), .val (.int (own_pk p3)), .val (.int (own_pk p4)), .val (.ref b9), .val (.int (2 : Int32)), .val .null, .unset] [(.int (101 : Int32)), (.int (own_pk p2))])) _
    refine XS.icmpYes X36.here hx rfl (pc0 := 173) (pc' := 191) rfl (hb hby at_173) rfl (feq hc1).2 (by decide) (by decide) ?_
    show Steps p.tables e below (T36.setTop (mkF m 191 #[.val (.int p1), .val (.int p2), .val (.int p3), .val (.int p4), .val (.int (own_md p1)), .val (.int (own_pk p2)), .val (.int (own_pk p3)), .val (.int (own_pk p4)), .val (.ref b9), .val (.int (2 : Int32)), .val .null, .unset] [])) _
    refine XS.iload X36.here hx rfl (hb hby at_191) rfl ?_
    show Steps p.tables e below (T36.setTop (mkF m 193 #[.val (.int p1), .val (.int p2), .val (.int p3), .val (.int p4), .val (.int (own_md p1)), .val (.int (own_pk p2)), .val (.int (own_pk p3)), .val (.int (own_pk p4)), .val (.ref b9), .val (.int (2 : Int32)), .val .null, .unset] [(.int (own_pk p2))])) _
    refine XS.bipush X36.here hx rfl (hb hby at_193) ?_
    show Steps p.tables e below (T36.setTop (mkF m 195 #[.val (.int p1), .val (.int p2), .val (.int p3), .val (.int p4), .val (.int (own_md p1)), .val (.int (own_pk p2)), .val (.int (own_pk p3)), .val (.int (own_pk p4)), .val (.ref b9), .val (.int (2 : Int32)), .val .null, .unset] [(.int (106 : Int32)), (.int (own_pk p2))])) _
    refine XS.icmpYes X36.here hx rfl (pc0 := 195) (pc' := 213) rfl (hb hby at_195) rfl (feq hc2).2 (by decide) (by decide) ?_
    show Steps p.tables e below (T36.setTop (mkF m 213 #[.val (.int p1), .val (.int p2), .val (.int p3), .val (.int p4), .val (.int (own_md p1)), .val (.int (own_pk p2)), .val (.int (own_pk p3)), .val (.int (own_pk p4)), .val (.ref b9), .val (.int (2 : Int32)), .val .null, .unset] [])) _
    refine XS.iload X36.here hx rfl (hb hby at_213) rfl ?_
    show Steps p.tables e below (T36.setTop (mkF m 215 #[.val (.int p1), .val (.int p2), .val (.int p3), .val (.int p4), .val (.int (own_md p1)), .val (.int (own_pk p2)), .val (.int (own_pk p3)), .val (.int (own_pk p4)), .val (.ref b9), .val (.int (2 : Int32)), .val .null, .unset] [(.int (own_pk p2))])) _
    refine XS.bipush X36.here hx rfl (hb hby at_215) ?_
    show Steps p.tables e below (T36.setTop (mkF m 217 #[.val (.int p1), .val (.int p2), .val (.int p3), .val (.int p4), .val (.int (own_md p1)), .val (.int (own_pk p2)), .val (.int (own_pk p3)), .val (.int (own_pk p4)), .val (.ref b9), .val (.int (2 : Int32)), .val .null, .unset] [(.int (122 : Int32)), (.int (own_pk p2))])) _
    refine XS.icmpYes X36.here hx rfl (pc0 := 217) (pc' := 232) rfl (hb hby at_217) rfl (feq hc3).2 (by decide) (by decide) ?_
    show Steps p.tables e below (T36.setTop (mkF m 232 #[.val (.int p1), .val (.int p2), .val (.int p3), .val (.int p4), .val (.int (own_md p1)), .val (.int (own_pk p2)), .val (.int (own_pk p3)), .val (.int (own_pk p4)), .val (.ref b9), .val (.int (2 : Int32)), .val .null, .unset] [])) _
    refine XS.aload X36.here hx rfl (hb hby at_232) rfl rfl ?_
    show Steps p.tables e below (T36.setTop (mkF m 234 #[.val (.int p1), .val (.int p2), .val (.int p3), .val (.int p4), .val (.int (own_md p1)), .val (.int (own_pk p2)), .val (.int (own_pk p3)), .val (.int (own_pk p4)), .val (.ref b9), .val (.int (2 : Int32)), .val .null, .unset] [(.ref b9)])) _
    refine st39 _ ?_
    show Steps p.tables e below (T39.setTop (mkF m 237 #[.val (.int p1), .val (.int p2), .val (.int p3), .val (.int p4), .val (.int (own_md p1)), .val (.int (own_pk p2)), .val (.int (own_pk p3)), .val (.int (own_pk p4)), .val (.ref b9), .val (.int (2 : Int32)), .val .null, .unset] [(.ref k_EMPTY)])) _
    refine XS.aconstNull X39.here hx rfl (hb hby at_237) ?_
    show Steps p.tables e below (T39.setTop (mkF m 238 #[.val (.int p1), .val (.int p2), .val (.int p3), .val (.int p4), .val (.int (own_md p1)), .val (.int (own_pk p2)), .val (.int (own_pk p3)), .val (.int (own_pk p4)), .val (.ref b9), .val (.int (2 : Int32)), .val .null, .unset] [.null, (.ref k_EMPTY)])) _
    refine st42.trans ?_
    show Steps p.tables e below (T42.setTop (mkF m 241 #[.val (.int p1), .val (.int p2), .val (.int p3), .val (.int p4), .val (.int (own_md p1)), .val (.int (own_pk p2)), .val (.int (own_pk p3)), .val (.int (own_pk p4)), .val (.ref b9), .val (.int (2 : Int32)), .val .null, .unset] [.null])) _
    refine X42.checkcastNull hx (g := (mkF m 241 #[.val (.int p1), .val (.int p2), .val (.int p3), .val (.int p4), .val (.int (own_md p1)), .val (.int (own_pk p2)), .val (.int (own_pk p3)), .val (.int (own_pk p4)), .val (.ref b9), .val (.int (2 : Int32)), .val .null, .unset] [.null])) rfl rfl (hb hby at_241) _ ?_
    show Steps p.tables e below (T42.setTop (mkF m 244 #[.val (.int p1), .val (.int p2), .val (.int p3), .val (.int p4), .val (.int (own_md p1)), .val (.int (own_pk p2)), .val (.int (own_pk p3)), .val (.int (own_pk p4)), .val (.ref b9), .val (.int (2 : Int32)), .val .null, .unset] [.null])) _
    refine XS.astore X42.here hx rfl (hb hby at_244) rfl rfl (l' := #[.val (.int p1), .val (.int p2), .val (.int p3), .val (.int p4), .val (.int (own_md p1)), .val (.int (own_pk p2)), .val (.int (own_pk p3)), .val (.int (own_pk p4)), .val (.ref b9), .val (.int (2 : Int32)), .val .null, .val .null]) rfl ?_
    show Steps p.tables e below (T42.setTop (mkF m 246 #[.val (.int p1), .val (.int p2), .val (.int p3), .val (.int p4), .val (.int (own_md p1)), .val (.int (own_pk p2)), .val (.int (own_pk p3)), .val (.int (own_pk p4)), .val (.ref b9), .val (.int (2 : Int32)), .val .null, .val .null] [])) _
    refine XS.aload X42.here hx rfl (hb hby at_246) rfl rfl ?_
    show Steps p.tables e below (T42.setTop (mkF m 248 #[.val (.int p1), .val (.int p2), .val (.int p3), .val (.int p4), .val (.int (own_md p1)), .val (.int (own_pk p2)), .val (.int (own_pk p3)), .val (.int (own_pk p4)), .val (.ref b9), .val (.int (2 : Int32)), .val .null, .val .null] [.null])) _
    refine XS.aload X42.here hx rfl (hb hby at_248) rfl rfl ?_
    show Steps p.tables e below (T42.setTop (mkF m 250 #[.val (.int p1), .val (.int p2), .val (.int p3), .val (.int p4), .val (.int (own_md p1)), .val (.int (own_pk p2)), .val (.int (own_pk p3)), .val (.int (own_pk p4)), .val (.ref b9), .val (.int (2 : Int32)), .val .null, .val .null] [.null, .null])) _
    refine Jvm.RoadKit.acmp (g := (mkF m 250 #[.val (.int p1), .val (.int p2), .val (.int p3), .val (.int p4), .val (.int (own_md p1)), .val (.int (own_pk p2)), .val (.int (own_pk p3)), .val (.int (own_pk p4)), .val (.ref b9), .val (.int (2 : Int32)), .val .null, .val .null] [.null, .null])) X42 hx rfl rfl rfl (pc0 := 250) (pc' := 253) (same := true) rfl (hb hby at_250) rfl (decide_eq_true rfl) (by decide) (by decide) ?_
    show Steps p.tables e below (T42.setTop (mkF m 253 #[.val (.int p1), .val (.int p2), .val (.int p3), .val (.int p4), .val (.int (own_md p1)), .val (.int (own_pk p2)), .val (.int (own_pk p3)), .val (.int (own_pk p4)), .val (.ref b9), .val (.int (2 : Int32)), .val .null, .val .null] [])) _
    refine XS.iconst X42.here hx rfl (hb hby at_253) ?_
    show Steps p.tables e below (T42.setTop (mkF m 254 #[.val (.int p1), .val (.int p2), .val (.int p3), .val (.int p4), .val (.int (own_md p1)), .val (.int (own_pk p2)), .val (.int (own_pk p3)), .val (.int (own_pk p4)), .val (.ref b9), .val (.int (2 : Int32)), .val .null, .val .null] [(.int (1 : Int32))])) _
    refine XS.goto X42.here hx rfl (pc0 := 254) (pc' := 258) rfl (hb hby at_254) (by decide) (by decide) ?_
    show Steps p.tables e below (T42.setTop (mkF m 258 #[.val (.int p1), .val (.int p2), .val (.int p3), .val (.int p4), .val (.int (own_md p1)), .val (.int (own_pk p2)), .val (.int (own_pk p3)), .val (.int (own_pk p4)), .val (.ref b9), .val (.int (2 : Int32)), .val .null, .val .null] [(.int (1 : Int32))])) _
    exact retN X42 hx (t := .boolean) Bd.returns (by simp) (hb hby at_258) hr
  · show own_Qlaw h0 n0 _ T42.heap _
    exact ⟨rfl, N42⟩
theorem own_eflaw2ttft (m : MethodId) (p1 : Int32) (p2 : Int32) (p3 : Int32) (p4 : Int32) : entryFrame m #[(.int p1), (.int p2), (.int p3), (.int p4)] maxLocals = mkF m 0 #[.val (.int p1), .val (.int p2), .val (.int p3), .val (.int p4), .unset, .unset, .unset, .unset, .unset, .unset, .unset, .unset] [] := by first | (simp [entryFrame, mkF, argsToLocals, Value.category, maxLocals]; done) | rfl
set_option maxRecDepth 65536 in
set_option maxHeartbeats 40000000 in
theorem own_law2ttft (l : Launch) (Z : State) (a0 : Array Value) (hw : ∀ d ∈ tables_1, d.before a0 Z = true) (ws : List Jvm.Cond) (G1 : Int32) (G3 : Value) (k_EMPTY : Addr) (k_ENGLISH : Addr) (s_ENGLISH : Addr) (t_ENGLISH : Addr) (kb_ENGLISH : ClassId) (k_JAPANESE : Addr) (s_JAPANESE : Addr) (t_JAPANESE : Addr) (kb_JAPANESE : ClassId) (k_CHINESE : Addr) (s_CHINESE : Addr) (t_CHINESE : Addr) (kb_CHINESE : ClassId) (k_VALUES : Addr) (kv_VALUES : ClassId) (gl : own_Glob Z G1 G3 k_EMPTY k_ENGLISH s_ENGLISH t_ENGLISH kb_ENGLISH k_JAPANESE s_JAPANESE t_JAPANESE kb_JAPANESE k_CHINESE s_CHINESE t_CHINESE kb_CHINESE k_VALUES kv_VALUES) (p1 : Int32) (p2 : Int32) (p3 : Int32) (p4 : Int32) (h0 : Heap) (n0 : Nat) (Z0 : n0 ≤ h0.size) (X00 : Old Z n0 h0) (hc1 : ¬ ((own_pk p2) = (101 : Int32))) (hc2 : ¬ ((own_pk p2) = (106 : Int32))) (hc3 : (own_pk p2) = (122 : Int32)) (hc4 : ¬ ((own_pk p3) = (104 : Int32))) (hk : ¬ own_md p1 = 4 ∧ ¬ own_md p1 = 0 ∧ ¬ own_md p1 = 1 ∧ ¬ own_md p1 = 3) :
    MetFree l x (head1 (Jvm.Cond.code x code maxLocals ret :: ws) room_1) (fun a U => a = #[(.int p1), (.int p2), (.int p3), (.int p4)] ∧ Z.Warmed39 U.vm ∧ U.heap = h0 ∧ CHv Z consts_1 U.vm h0) (fun _ _ _ _ _ => True) (fun _ U o U' => ∃ v L, o = .returned v ∧ own_Qlaw h0 n0 v U'.heap L ∧ ReturnedEndW U o U' L room_1.cells room_1.slots) := by
  refine MetFree.of_bodySF (plainFor_of_name own_pn8) hisR ?_
  intro p e s m args below meth c s₁ Bd hml0 hP hK
  obtain ⟨rfl, hZ, hh, hCH⟩ := hP
  obtain ⟨O_CS, P_CS, O_SI, P_SI, O_EMPTY, E_EMPTY, F_EMPTY, O_ENGLISH, E_ENGLISH, Fs_ENGLISH, Es_ENGLISH, Fc_ENGLISH, Fv_ENGLISH, V_ENGLISH, O_JAPANESE, E_JAPANESE, Fs_JAPANESE, Es_JAPANESE, Fc_JAPANESE, Fv_JAPANESE, V_JAPANESE, O_CHINESE, E_CHINESE, Fs_CHINESE, Es_CHINESE, Fc_CHINESE, Fv_CHINESE, V_CHINESE, O_VALUES, E_VALUES, V_VALUES⟩ := id gl
  have hx := Bd.exec
  have hby := Bd.bytes
  have hml : c.maxLocals = 12 := hml0
  have hown : s.vm.findClass "com/example/dragoman/dragoman/core/LanguageForCodePinLaw" = some m.cls := findClass_of_methodNamed Bd.named
  have hnm := (name_of_methodNamed Bd.named Bd.method).1
  have X0 : Stand p l e room_1 s m #[(.int p1), (.int p2), (.int p3), (.int p4)] below meth c s₁ [] 0 0 := Stand.of_body Bd
  have e0 : s₁.heap = h0 := by rw [← hh, Bd.state]; rfl
  have N0 := Fr.nil n0
  have pre0 : ∀ t, Steps p.tables e below (s₁.setTop (mkF m 0 #[.val (.int p1), .val (.int p2), .val (.int p3), .val (.int p4), .unset, .unset, .unset, .unset, .unset, .unset, .unset, .unset] [])) t → Steps p.tables e below (s₁.setTop (entryFrame m #[(.int p1), (.int p2), (.int p3), (.int p4)] maxLocals)) t := fun t k => castTop (own_eflaw2ttft m p1 p2 p3 p4) k
  obtain ⟨_, _, ⟨T1, L1, k1, n1⟩, -, X1, hSq1, hgr1, ⟨Lc1, hQ1, l1, y1, z1, hCr1⟩, st1⟩ := callSS X0 hx (y := (⟨"com/example/dragoman/dragoman/core/LanguageForCodePinLaw", "pick", "(I)C"⟩ : MethodName)) hown (mvT hZ (hw _ (List.mem_of_getElem? (i := 0) rfl))) (mvT hZ (hw _ (List.mem_of_getElem? (i := 1) rfl))) (mvT hZ (hw _ (List.mem_of_getElem? (i := 2) rfl))) (mvT hZ (hw _ (List.mem_of_getElem? (i := 3) rfl))) (by decide) (backOfSH (s := s) (vm0 := s.vm) (W := 0) (own_rm_pk l Z a0 hw [] G1 G3 k_EMPTY k_ENGLISH s_ENGLISH t_ENGLISH kb_ENGLISH k_JAPANESE s_JAPANESE t_JAPANESE kb_JAPANESE k_CHINESE s_CHINESE t_CHINESE kb_CHINESE k_VALUES kv_VALUES gl p2 h0 n0 Z0 X00 ) hZ (hw _ (List.mem_of_getElem? (i := 3) rfl)) (hw _ (List.mem_of_getElem? (i := 2) rfl)) (by decide) (by decide) (own_EW hw) hCH) (g := (mkF m 7 #[.val (.int p1), .val (.int p2), .val (.int p3), .val (.int p4), .val (.int (own_md p1)), .unset, .unset, .unset, .unset, .unset, .unset, .unset] [(.int p2)])) rfl (by rw [hml]; rfl) (argsL := [(.int p2)]) (rest := []) (lenOf own_pd7 rfl) rfl (by show 2 * 0 + _ ≤ _; exact Nat.le_of_eq rfl) (hb hby at_7) (fun _ _ => ⟨rfl, e0, (by decide : 0 + 2 ≤ _), (by decide : 0 + 28 ≤ _)⟩)
  dsimp only [Pt.U, Pt.locs, Pt.cells, Pt.slots] at X1 l1 y1 z1 st1 hQ1 hSq1 hgr1 hCr1
  subst y1 z1
  obtain ⟨Xw1, hS1, hZ1, hown1⟩ := rebS (vm0 := s.vm) ((State.WarmedH.refl s).since 0) (by rw [e0]; exact (Nat.zero_le _)) X1 hSq1 hgr1 hZ hown
  obtain ⟨rfl, Nq1, Kq1⟩ := hQ1
  have N1 : Fr n0 L1 := by rw [l1]; exact Fr.app N0 Nq1
  have Kp2 : Keep h0 T1.heap [] := (Keep.refl h0 []).trans Kq1 all0
  have Old3 : Old Z n0 T1.heap := X00.keep Kq1 all0
  obtain ⟨_, _, ⟨T4, L4, k4, n4⟩, -, X4, hSq4, hgr4, ⟨Lc4, hQ4, l4, y4, z4, hCr4⟩, st4⟩ := callSS Xw1 hx (y := (⟨"com/example/dragoman/dragoman/core/LanguageForCodePinLaw", "pick", "(I)C"⟩ : MethodName)) hown1 (mvT hZ1 (hw _ (List.mem_of_getElem? (i := 0) rfl))) (mvT hZ1 (hw _ (List.mem_of_getElem? (i := 1) rfl))) (mvT hZ1 (hw _ (List.mem_of_getElem? (i := 2) rfl))) (mvT hZ1 (hw _ (List.mem_of_getElem? (i := 3) rfl))) (by decide) (backOfSH (s := s) (vm0 := T1.vm) (W := 0) (own_rm_pk l Z a0 hw [] G1 G3 k_EMPTY k_ENGLISH s_ENGLISH t_ENGLISH kb_ENGLISH k_JAPANESE s_JAPANESE t_JAPANESE kb_JAPANESE k_CHINESE s_CHINESE t_CHINESE kb_CHINESE k_VALUES kv_VALUES gl p3 T1.heap n0 (Nat.le_trans Z0 Kp2.1) Old3 ) hZ1 (hw _ (List.mem_of_getElem? (i := 3) rfl)) (hw _ (List.mem_of_getElem? (i := 2) rfl)) (by decide) (by decide) (own_EW hw) hCr1.1) (g := (mkF m 13 #[.val (.int p1), .val (.int p2), .val (.int p3), .val (.int p4), .val (.int (own_md p1)), .val (.int (own_pk p2)), .unset, .unset, .unset, .unset, .unset, .unset] [(.int p3)])) rfl (by rw [hml]; rfl) (argsL := [(.int p3)]) (rest := []) (lenOf own_pd7 rfl) rfl (by show 2 * 0 + _ ≤ _; exact Nat.le_of_eq rfl) (hb hby at_13) (fun _ _ => ⟨rfl, rfl, (by decide : 2 + 2 ≤ _), (by decide : 28 + 28 ≤ _)⟩)
  dsimp only [Pt.U, Pt.locs, Pt.cells, Pt.slots] at X4 l4 y4 z4 st4 hQ4 hSq4 hgr4 hCr4
  subst y4 z4
  obtain ⟨Xw4, hS4, hZ4, hown4⟩ := rebS (vm0 := T1.vm) hS1 (Nat.le_refl _) X4 hSq4 hgr4 hZ1 hown1
  obtain ⟨rfl, Nq4, Kq4⟩ := hQ4
  have N4 : Fr n0 L4 := by rw [l4]; exact Fr.app N1 Nq4
  have Kp5 : Keep h0 T4.heap [] := Kp2.trans Kq4 all0
  have Old6 : Old Z n0 T4.heap := Old3.keep Kq4 all0
  obtain ⟨_, _, ⟨T7, L7, k7, n7⟩, -, X7, hSq7, hgr7, ⟨Lc7, hQ7, l7, y7, z7, hCr7⟩, st7⟩ := callSS Xw4 hx (y := (⟨"com/example/dragoman/dragoman/core/LanguageForCodePinLaw", "pick", "(I)C"⟩ : MethodName)) hown4 (mvT hZ4 (hw _ (List.mem_of_getElem? (i := 0) rfl))) (mvT hZ4 (hw _ (List.mem_of_getElem? (i := 1) rfl))) (mvT hZ4 (hw _ (List.mem_of_getElem? (i := 2) rfl))) (mvT hZ4 (hw _ (List.mem_of_getElem? (i := 3) rfl))) (by decide) (backOfSH (s := s) (vm0 := T4.vm) (W := 0) (own_rm_pk l Z a0 hw [] G1 G3 k_EMPTY k_ENGLISH s_ENGLISH t_ENGLISH kb_ENGLISH k_JAPANESE s_JAPANESE t_JAPANESE kb_JAPANESE k_CHINESE s_CHINESE t_CHINESE kb_CHINESE k_VALUES kv_VALUES gl p4 T4.heap n0 (Nat.le_trans Z0 Kp5.1) Old6 ) hZ4 (hw _ (List.mem_of_getElem? (i := 3) rfl)) (hw _ (List.mem_of_getElem? (i := 2) rfl)) (by decide) (by decide) (own_EW hw) hCr4.1) (g := (mkF m 19 #[.val (.int p1), .val (.int p2), .val (.int p3), .val (.int p4), .val (.int (own_md p1)), .val (.int (own_pk p2)), .val (.int (own_pk p3)), .unset, .unset, .unset, .unset, .unset] [(.int p4)])) rfl (by rw [hml]; rfl) (argsL := [(.int p4)]) (rest := []) (lenOf own_pd7 rfl) rfl (by show 2 * 0 + _ ≤ _; exact Nat.le_of_eq rfl) (hb hby at_19) (fun _ _ => ⟨rfl, rfl, (by decide : 4 + 2 ≤ _), (by decide : 56 + 28 ≤ _)⟩)
  dsimp only [Pt.U, Pt.locs, Pt.cells, Pt.slots] at X7 l7 y7 z7 st7 hQ7 hSq7 hgr7 hCr7
  subst y7 z7
  obtain ⟨Xw7, hS7, hZ7, hown7⟩ := rebS (vm0 := T4.vm) hS4 (Nat.le_refl _) X7 hSq7 hgr7 hZ4 hown4
  obtain ⟨rfl, Nq7, Kq7⟩ := hQ7
  have N7 : Fr n0 L7 := by rw [l7]; exact Fr.app N4 Nq7
  have Kp8 : Keep h0 T7.heap [] := Kp5.trans Kq7 all0
  obtain ⟨T9, h9, X9, e9, E9, A9, D9, U9, st9⟩ := newO Xw7 hx hZ7 hown7 (hw _ (List.mem_of_getElem? (i := 4) rfl)) (hw _ (List.mem_of_getElem? (i := 5) rfl)) (hw _ (List.mem_of_getElem? (i := 6) rfl)) rfl (g := (mkF m 130 #[.val (.int p1), .val (.int p2), .val (.int p3), .val (.int p4), .val (.int (own_md p1)), .val (.int (own_pk p2)), .val (.int (own_pk p3)), .val (.int (own_pk p4)), .unset, .unset, .unset, .unset] [])) rfl (hb hby at_130) (by decide) (by decide)
  obtain ⟨b9, g9⟩ : ∃ z, z = T7.heap.size := ⟨_, rfl⟩
  rw [← g9] at A9 D9 U9 st9
  have Kp10 : Keep h0 h9 [] := Kp8.ext E9
  obtain ⟨T11, h11, k11, X11, e11, E11, A11, st11⟩ := newP X9 hx hZ7 (hw _ (List.mem_of_getElem? (i := 7) rfl)) e9 (g := (mkF m 135 #[.val (.int p1), .val (.int p2), .val (.int p3), .val (.int p4), .val (.int (own_md p1)), .val (.int (own_pk p2)), .val (.int (own_pk p3)), .val (.int (own_pk p4)), .unset, .unset, .unset, .unset] [(.int (2 : Int32)), (.ref b9), (.ref b9)])) rfl (hb hby at_135) rfl (by decide) (cap := 2) (by decide) (by decide) (by decide) (by decide)
  obtain ⟨b11, g11⟩ : ∃ z, z = h9.size := ⟨_, rfl⟩
  rw [← g11] at A11 st11
  have Kp12 : Keep h0 h11 [] := Kp10.ext E11
  have Vh13 : Arv Z h11 b11 k11 .char (2 : Int32) [(.int (0 : Int32)), (.int (0 : Int32))] (.int (0 : Int32)) := (Arv.new A11 (by decide)).pad (pad_rep [] (.int (0 : Int32)) 2)
  obtain ⟨cl14, Ar14, qc14, Sz14, Ng14, Hs14, Gs14⟩ := id Vh13
  have hin14 : ¬ ((0 : Int32) < 0 ∨ cl14.slots.size ≤ ((0 : Int32)).toNatClampNeg) := inb_of Sz14 ⟨(by decide), (by decide)⟩
  obtain ⟨T15, h15, X15, e15, W15, st15⟩ := stC X11 hx hZ7 e11 Ar14 (j := (0 : Int32)) hin14 (g := (mkF m 141 #[.val (.int p1), .val (.int p2), .val (.int p3), .val (.int p4), .val (.int (own_md p1)), .val (.int (own_pk p2)), .val (.int (own_pk p3)), .val (.int (own_pk p4)), .unset, .unset, .unset, .unset] [(.int (own_pk p2)), (.int (0 : Int32)), (.ref b11), (.ref b11), (.ref b9), (.ref b9)])) rfl rfl (hb hby at_141)
  have Kp16 : Keep h0 h15 [] := Kp12.wr W15 (Or.inr (Nat.le_trans Kp10.1 (Nat.le_of_eq g11.symm)))
  have gh17 : n0 ≤ b11 := Nat.le_trans (Nat.le_trans Z0 Kp10.1) (Nat.le_of_eq g11.symm)
  obtain ⟨Lp15, X15, N15⟩ := own_pack X15 (Fr.snoc X15 N7 gh17)
  have Vh18 : Arv Z h15 b11 k11 .char (2 : Int32) [(.int (own_q p2)), (.int (0 : Int32))] (.int (0 : Int32)) := (Arv.set Ar14 qc14 Sz14 Ng14 Hs14 Gs14 (fits_nar_char _) W15 0 rfl (Nat.le_of_ble_eq_true rfl))
  obtain ⟨cl19, Ar19, qc19, Sz19, Ng19, Hs19, Gs19⟩ := id Vh18
  have hin19 : ¬ ((1 : Int32) < 0 ∨ cl19.slots.size ≤ ((1 : Int32)).toNatClampNeg) := inb_of Sz19 ⟨(by decide), (by decide)⟩
  obtain ⟨T20, h20, X20, e20, W20, st20⟩ := stC X15 hx hZ7 e15 Ar19 (j := (1 : Int32)) hin19 (g := (mkF m 146 #[.val (.int p1), .val (.int p2), .val (.int p3), .val (.int p4), .val (.int (own_md p1)), .val (.int (own_pk p2)), .val (.int (own_pk p3)), .val (.int (own_pk p4)), .unset, .unset, .unset, .unset] [(.int (own_pk p3)), (.int (1 : Int32)), (.ref b11), (.ref b11), (.ref b9), (.ref b9)])) rfl rfl (hb hby at_146)
  have Kp21 : Keep h0 h20 [] := Kp16.wr W20 (Or.inr (Nat.le_trans Kp10.1 (Nat.le_of_eq g11.symm)))
  obtain ⟨Lp20, X20, N20⟩ := own_pack X20 (Fr.snoc X20 N15 gh17)
  have Vh22 : Arv Z h20 b11 k11 .char (2 : Int32) [(.int (own_q p2)), (.int (own_q p3))] (.int (0 : Int32)) := (Arv.set Ar19 qc19 Sz19 Ng19 Hs19 Gs19 (fits_nar_char _) W20 1 rfl (Nat.le_of_ble_eq_true rfl))
  have Eh23 : Exa Z h20 b9 "java/lang/String" := (((A9.ext E11).wr W15).wr W20)
  have Fh24 : Fld Z h9 b9 "java/lang/String" "value" "[B" .null := (D9 (Or.inr (hw _ (List.mem_of_getElem? (i := 20) rfl))) (ty := (.array .byte)) (by decide))
  have Fh25 : Fld Z h20 b9 "java/lang/String" "value" "[B" .null := (((Fh24.ext E11).other W15 (Or.inl (Nat.ne_of_lt (Nat.lt_of_lt_of_le A9.lt (Nat.le_of_eq g11.symm))))).other W20 (Or.inl (Nat.ne_of_lt (Nat.lt_of_lt_of_le A9.lt (Nat.le_of_eq g11.symm)))))
  have Fh26 : Fld Z h9 b9 "java/lang/String" "coder" "B" (.int (0 : Int32)) := (D9 (Or.inr (hw _ (List.mem_of_getElem? (i := 21) rfl))) (ty := .byte) (by decide))
  have Fh27 : Fld Z h20 b9 "java/lang/String" "coder" "B" (.int (0 : Int32)) := (((Fh26.ext E11).other W15 (Or.inl (Nat.ne_of_lt (Nat.lt_of_lt_of_le A9.lt (Nat.le_of_eq g11.symm))))).other W20 (Or.inl (Nat.ne_of_lt (Nat.lt_of_lt_of_le A9.lt (Nat.le_of_eq g11.symm)))))
  have hph28 : ∀ c ∈ ([(own_q p2), (own_q p3)] : List Int32), ¬ c < 0 ∧ ¬ (255 : Int32) < c := (own_cS (own_rng_q p2) (own_cS (own_rng_q p3) own_c0))
  have hws_words : ∀ d ∈ StrChars.Road.words, d.before a0 Z = true := fun d hd => hw d (own_hws_words d hd)
  have Zh29 : n0 ≤ h20.size := (Nat.le_trans Z0 Kp21.1)
  have gh30 : n0 ≤ b9 := Nat.le_trans (Nat.le_trans Z0 Kp8.1) (Nat.le_of_eq g9.symm)
  have Old31 : Old Z n0 T7.heap := Old6.keep Kq7 all0
  have Old32 : Old Z n0 h9 := Old31.ext E9
  have Old33 : Old Z n0 h11 := Old32.ext E11
  have Old34 : Old Z n0 h15 := Old33.wr W15 gh17
  have Old35 : Old Z n0 h20 := Old34.wr W20 gh17
  obtain ⟨_, _, ⟨T36, L36, k36, n36⟩, -, X36, ⟨Lc36, hQ36, l36, y36, z36⟩, st36⟩ := X20.specialBack hx (y := (⟨"java/lang/String", "<init>", "([C)V"⟩ : MethodName)) rfl hown7 (mvT hZ7 (hw _ (List.mem_of_getElem? (i := 8) rfl))) (mvT hZ7 (hw _ (List.mem_of_getElem? (i := 9) rfl))) (mvT hZ7 (hw _ (List.mem_of_getElem? (i := 10) rfl))) (by decide) (StrChars.Road.backV (W := 1) hZ7 hws_words (kI := 4) (hw _ (List.mem_of_getElem? (i := 5) rfl)) (cs := ([(own_q p2), (own_q p3)] : List Int32)) (bs := ([(own_q p2), (own_q p3)] : List Int32).map (fun c => c.toInt8.toInt32)) (n := 2) gh30 Zh29 Eh23 Fh25 Fh27 Vh22 (O_CS.ext Old35.2) P_CS rfl rfl (by decide) (by decide) hph28 rfl (by decide) (by decide)) (g := (mkF m 147 #[.val (.int p1), .val (.int p2), .val (.int p3), .val (.int p4), .val (.int (own_md p1)), .val (.int (own_pk p2)), .val (.int (own_pk p3)), .val (.int (own_pk p4)), .unset, .unset, .unset, .unset] [(.ref b11), (.ref b9), (.ref b9)])) rfl (by rw [hml]; rfl) (Steps.refl _) (a := b9) (argsL := [(.ref b11)]) (rest := [(.ref b9)]) (lenOf own_pd14 rfl) rfl (by show 2 * 0 + _ ≤ _; exact Nat.le_of_eq rfl) (hb hby at_147) (fun _ _ => ⟨rfl, e20, (by decide : 8 + 1 ≤ _), (by decide : 90 + 2 ≤ _)⟩)
  dsimp only [Pt.U, Pt.locs, Pt.cells, Pt.slots] at X36 l36 y36 z36 st36 hQ36
  subst y36 z36
  obtain ⟨rfl, Nq36, Kq36, Eq36, Cq36, t36, kb36, gt36, szt36, nt36, Vq36, Bq36⟩ := hQ36
  have N36 : Fr n0 L36 := by rw [l36]; exact Fr.app N20 Nq36
  have Kp37 : Keep h0 T36.heap [] := Kp21.trans Kq36 (allS (Or.inr (Nat.le_trans Kp8.1 (Nat.le_of_eq g9.symm))) all0)
  have Old38 : Old Z n0 T36.heap := Old35.keep Kq36 (allS gh30 all0)
  obtain ⟨_, _, ⟨T39, L39, k39, n39⟩, -, X39, ⟨Lc39, hQ39, l39, y39, z39⟩, st39⟩ := Jvm.LawKit.callS X36 hx (y := (⟨"com/example/dragoman/dragoman/core/Language", "forCode", "(Ljava/lang/String;)Ljava/util/Optional;"⟩ : MethodName)) hown7 (mvT hZ7 (hw _ (List.mem_of_getElem? (i := 26) rfl))) (mvT hZ7 (hw _ (List.mem_of_getElem? (i := 27) rfl))) (mvT hZ7 (hw _ (List.mem_of_getElem? (i := 28) rfl))) (mvT hZ7 (hw _ (List.mem_of_getElem? (i := 29) rfl))) (by decide) (backOf (W := 0) (own_rm_fcO l Z a0 hw [] G1 G3 k_EMPTY k_ENGLISH s_ENGLISH t_ENGLISH kb_ENGLISH k_JAPANESE s_JAPANESE t_JAPANESE kb_JAPANESE k_CHINESE s_CHINESE t_CHINESE kb_CHINESE k_VALUES kv_VALUES gl b9 ([(own_q p2), (own_q p3)] : List Int32) t36 (kb36) T36.heap n0 (Nat.le_trans Z0 Kp37.1) Old38 Eq36 Vq36 Cq36 Bq36 hph28 (Nat.le_of_ble_eq_true rfl) (own_na hc1) (own_na hc2) (own_nb hc4)) hZ7 (hw _ (List.mem_of_getElem? (i := 29) rfl)) (hw _ (List.mem_of_getElem? (i := 28) rfl)) (by decide) (by decide)) (g := (mkF m 234 #[.val (.int p1), .val (.int p2), .val (.int p3), .val (.int p4), .val (.int (own_md p1)), .val (.int (own_pk p2)), .val (.int (own_pk p3)), .val (.int (own_pk p4)), .val (.ref b9), .val (.int (2 : Int32)), .val .null, .unset] [(.ref b9)])) rfl (by rw [hml]; rfl) (argsL := [(.ref b9)]) (rest := []) (lenOf own_pd13 rfl) rfl (by show 2 * 0 + _ ≤ _; exact Nat.le_of_eq rfl) (hb hby at_234) (fun _ _ => ⟨rfl, rfl, (by decide : 9 + 1 ≤ _), (by decide : 92 + 3 ≤ _)⟩)
  dsimp only [Pt.U, Pt.locs, Pt.cells, Pt.slots] at X39 l39 y39 z39 st39 hQ39
  subst y39 z39
  obtain ⟨rfl, Nq39, Kq39⟩ := hQ39
  have N39 : Fr n0 L39 := by rw [l39]; exact Fr.app N36 Nq39
  have Kp40 : Keep h0 T39.heap [] := Kp37.trans Kq39 all0
  have Old41 : Old Z n0 T39.heap := Old38.keep Kq39 all0
  obtain ⟨cq42, kq42, q42a, q42b, q42c⟩ := isOf hZ7 rfl (E_EMPTY.ext Old41.2)
  obtain ⟨_, _, ⟨T42, L42, k42, n42⟩, -, X42, ⟨Lc42, hQ42, l42, y42, z42⟩, st42⟩ := X39.virtualBack hx (y := (⟨"java/util/Optional", "orElse", "(Ljava/lang/Object;)Ljava/lang/Object;"⟩ : MethodName)) (z := (⟨"java/util/Optional", "orElse", "(Ljava/lang/Object;)Ljava/lang/Object;"⟩ : MethodName)) hown7 (mvT hZ7 (hw _ (List.mem_of_getElem? (i := 66) rfl))) (mvT hZ7 (hw _ (List.mem_of_getElem? (i := 67) rfl))) (notFace_of_selects (args := #[]) (mvT hZ7 (hw _ (List.mem_of_getElem? (i := 69) rfl)))) (mvT hZ7 (hw _ (List.mem_of_getElem? (i := 69) rfl))) (mvT hZ7 (hw _ (List.mem_of_getElem? (i := 68) rfl))) (by decide) (backOf (W := 0) (own_rm_oeN l Z a0 hw [] G1 G3 k_EMPTY k_ENGLISH s_ENGLISH t_ENGLISH kb_ENGLISH k_JAPANESE s_JAPANESE t_JAPANESE kb_JAPANESE k_CHINESE s_CHINESE t_CHINESE kb_CHINESE k_VALUES kv_VALUES gl k_EMPTY T39.heap n0 (Nat.le_trans Z0 Kp40.1) (F_EMPTY.ext Old41.2)) hZ7 (hw _ (List.mem_of_getElem? (i := 70) rfl)) (hw _ (List.mem_of_getElem? (i := 63) rfl)) (by decide) (by decide)) q42a q42c (g := (mkF m 238 #[.val (.int p1), .val (.int p2), .val (.int p3), .val (.int p4), .val (.int (own_md p1)), .val (.int (own_pk p2)), .val (.int (own_pk p3)), .val (.int (own_pk p4)), .val (.ref b9), .val (.int (2 : Int32)), .val .null, .unset] [.null, (.ref k_EMPTY)])) rfl (by rw [hml]; rfl) (Steps.refl _) (argsL := [.null]) (rest := []) (lenOf own_pd4 rfl) rfl (by show 2 * 0 + _ ≤ _; exact Nat.le_of_eq rfl) (hb hby at_238) (fun _ _ => ⟨rfl, rfl, (by decide : 10 + 0 ≤ _), (by decide : 95 + 0 ≤ _)⟩)
  dsimp only [Pt.U, Pt.locs, Pt.cells, Pt.slots] at X42 l42 y42 z42 st42 hQ42
  subst y42 z42
  obtain ⟨rfl, Nq42, e42⟩ := hQ42
  have N42 : Fr n0 L42 := by rw [l42]; exact Fr.app N39 Nq42
  obtain ⟨fs, hr, hrun, hended, hREW⟩ := X42.leaveW hS7 (by rw [e42]; exact (Nat.le_trans (Nat.le_refl _) (Nat.le_trans (Nat.le_trans (Nat.le_trans (Nat.le_trans (Nat.le_trans E9.1 E11.1) (Keep.of_wr W15).1) (Keep.of_wr W20).1) Kq36.1) Kq39.1))) (v := some (.int (1 : Int32))) (fun h => by rw [Bd.returns] at h; cases h)
  refine ⟨_, _, pre0 _ ?_, hrun, hended, _, _, rfl, ?_, hREW.1, hREW.2.1, hREW.2.2.1, hREW.2.2.2.mono (by decide) (by decide)⟩
  · show Steps p.tables e below (s₁.setTop (mkF m 0 #[.val (.int p1), .val (.int p2), .val (.int p3), .val (.int p4), .unset, .unset, .unset, .unset, .unset, .unset, .unset, .unset] [])) _
    refine XS.iloadN X0.here hx rfl (hb hby at_0) rfl ?_
    show Steps p.tables e below (s₁.setTop (mkF m 1 #[.val (.int p1), .val (.int p2), .val (.int p3), .val (.int p4), .unset, .unset, .unset, .unset, .unset, .unset, .unset, .unset] [(.int p1)])) _
    refine XS.bipush X0.here hx rfl (hb hby at_1) ?_
    show Steps p.tables e below (s₁.setTop (mkF m 3 #[.val (.int p1), .val (.int p2), .val (.int p3), .val (.int p4), .unset, .unset, .unset, .unset, .unset, .unset, .unset, .unset] [(.int (7 : Int32)), (.int p1)])) _
    refine XS.iand X0.here hx rfl (hb hby at_3) rfl ?_
    show Steps p.tables e below (s₁.setTop (mkF m 4 #[.val (.int p1), .val (.int p2), .val (.int p3), .val (.int p4), .unset, .unset, .unset, .unset, .unset, .unset, .unset, .unset] [(.int (own_md p1))])) _
    refine XS.istore X0.here hx rfl (hb hby at_4) rfl (l' := #[.val (.int p1), .val (.int p2), .val (.int p3), .val (.int p4), .val (.int (own_md p1)), .unset, .unset, .unset, .unset, .unset, .unset, .unset]) rfl ?_
    show Steps p.tables e below (s₁.setTop (mkF m 6 #[.val (.int p1), .val (.int p2), .val (.int p3), .val (.int p4), .val (.int (own_md p1)), .unset, .unset, .unset, .unset, .unset, .unset, .unset] [])) _
    refine XS.iloadN X0.here hx rfl (hb hby at_6) rfl ?_
    show Steps p.tables e below (s₁.setTop (mkF m 7 #[.val (.int p1), .val (.int p2), .val (.int p3), .val (.int p4), .val (.int (own_md p1)), .unset, .unset, .unset, .unset, .unset, .unset, .unset] [(.int p2)])) _
    refine st1.trans ?_
    show Steps p.tables e below (T1.setTop (mkF m 10 #[.val (.int p1), .val (.int p2), .val (.int p3), .val (.int p4), .val (.int (own_md p1)), .unset, .unset, .unset, .unset, .unset, .unset, .unset] [(.int (own_pk p2))])) _
    refine XS.istore Xw1.here hx rfl (hb hby at_10) rfl (l' := #[.val (.int p1), .val (.int p2), .val (.int p3), .val (.int p4), .val (.int (own_md p1)), .val (.int (own_pk p2)), .unset, .unset, .unset, .unset, .unset, .unset]) rfl ?_
    show Steps p.tables e below (T1.setTop (mkF m 12 #[.val (.int p1), .val (.int p2), .val (.int p3), .val (.int p4), .val (.int (own_md p1)), .val (.int (own_pk p2)), .unset, .unset, .unset, .unset, .unset, .unset] [])) _
    refine XS.iloadN Xw1.here hx rfl (hb hby at_12) rfl ?_
    show Steps p.tables e below (T1.setTop (mkF m 13 #[.val (.int p1), .val (.int p2), .val (.int p3), .val (.int p4), .val (.int (own_md p1)), .val (.int (own_pk p2)), .unset, .unset, .unset, .unset, .unset, .unset] [(.int p3)])) _
    refine st4.trans ?_
    show Steps p.tables e below (T4.setTop (mkF m 16 #[.val (.int p1), .val (.int p2), .val (.int p3), .val (.int p4), .val (.int (own_md p1)), .val (.int (own_pk p2)), .unset, .unset, .unset, .unset, .unset, .unset] [(.int (own_pk p3))])) _
    refine XS.istore Xw4.here hx rfl (hb hby at_16) rfl (l' := #[.val (.int p1), .val (.int p2), .val (.int p3), .val (.int p4), .val (.int (own_md p1)), .val (.int (own_pk p2)), .val (.int (own_pk p3)), .unset, .unset, .unset, .unset, .unset]) rfl ?_
    show Steps p.tables e below (T4.setTop (mkF m 18 #[.val (.int p1), .val (.int p2), .val (.int p3), .val (.int p4), .val (.int (own_md p1)), .val (.int (own_pk p2)), .val (.int (own_pk p3)), .unset, .unset, .unset, .unset, .unset] [])) _
    refine XS.iloadN Xw4.here hx rfl (hb hby at_18) rfl ?_
    show Steps p.tables e below (T4.setTop (mkF m 19 #[.val (.int p1), .val (.int p2), .val (.int p3), .val (.int p4), .val (.int (own_md p1)), .val (.int (own_pk p2)), .val (.int (own_pk p3)), .unset, .unset, .unset, .unset, .unset] [(.int p4)])) _
    refine st7.trans ?_
    show Steps p.tables e below (T7.setTop (mkF m 22 #[.val (.int p1), .val (.int p2), .val (.int p3), .val (.int p4), .val (.int (own_md p1)), .val (.int (own_pk p2)), .val (.int (own_pk p3)), .unset, .unset, .unset, .unset, .unset] [(.int (own_pk p4))])) _
    refine XS.istore Xw7.here hx rfl (hb hby at_22) rfl (l' := #[.val (.int p1), .val (.int p2), .val (.int p3), .val (.int p4), .val (.int (own_md p1)), .val (.int (own_pk p2)), .val (.int (own_pk p3)), .val (.int (own_pk p4)), .unset, .unset, .unset, .unset]) rfl ?_
    show Steps p.tables e below (T7.setTop (mkF m 24 #[.val (.int p1), .val (.int p2), .val (.int p3), .val (.int p4), .val (.int (own_md p1)), .val (.int (own_pk p2)), .val (.int (own_pk p3)), .val (.int (own_pk p4)), .unset, .unset, .unset, .unset] [])) _
    refine XS.iload Xw7.here hx rfl (hb hby at_24) rfl ?_
    show Steps p.tables e below (T7.setTop (mkF m 26 #[.val (.int p1), .val (.int p2), .val (.int p3), .val (.int p4), .val (.int (own_md p1)), .val (.int (own_pk p2)), .val (.int (own_pk p3)), .val (.int (own_pk p4)), .unset, .unset, .unset, .unset] [(.int (own_md p1))])) _
    refine XS.iconst Xw7.here hx rfl (hb hby at_26) ?_
    show Steps p.tables e below (T7.setTop (mkF m 27 #[.val (.int p1), .val (.int p2), .val (.int p3), .val (.int p4), .val (.int (own_md p1)), .val (.int (own_pk p2)), .val (.int (own_pk p3)), .val (.int (own_pk p4)), .unset, .unset, .unset, .unset] [(.int (4 : Int32)), (.int (own_md p1))])) _
    refine XS.icmpYes Xw7.here hx rfl (pc0 := 27) (pc' := 39) rfl (hb hby at_27) rfl (feq (hk.1 : ¬ ((own_md p1) = (4 : Int32)))).2 (by decide) (by decide) ?_
    show Steps p.tables e below (T7.setTop (mkF m 39 #[.val (.int p1), .val (.int p2), .val (.int p3), .val (.int p4), .val (.int (own_md p1)), .val (.int (own_pk p2)), .val (.int (own_pk p3)), .val (.int (own_pk p4)), .unset, .unset, .unset, .unset] [])) _
    refine XS.iload Xw7.here hx rfl (hb hby at_39) rfl ?_
    show Steps p.tables e below (T7.setTop (mkF m 41 #[.val (.int p1), .val (.int p2), .val (.int p3), .val (.int p4), .val (.int (own_md p1)), .val (.int (own_pk p2)), .val (.int (own_pk p3)), .val (.int (own_pk p4)), .unset, .unset, .unset, .unset] [(.int (own_md p1))])) _
    refine XS.ifYes Xw7.here hx rfl (pc0 := 41) (pc' := 62) rfl (hb hby at_41) rfl ((if0 _ _).trans (feq (hk.2.1 : ¬ ((own_md p1) = (0 : Int32)))).2) (by decide) (by decide) ?_
    show Steps p.tables e below (T7.setTop (mkF m 62 #[.val (.int p1), .val (.int p2), .val (.int p3), .val (.int p4), .val (.int (own_md p1)), .val (.int (own_pk p2)), .val (.int (own_pk p3)), .val (.int (own_pk p4)), .unset, .unset, .unset, .unset] [])) _
    refine XS.iload Xw7.here hx rfl (hb hby at_62) rfl ?_
    show Steps p.tables e below (T7.setTop (mkF m 64 #[.val (.int p1), .val (.int p2), .val (.int p3), .val (.int p4), .val (.int (own_md p1)), .val (.int (own_pk p2)), .val (.int (own_pk p3)), .val (.int (own_pk p4)), .unset, .unset, .unset, .unset] [(.int (own_md p1))])) _
    refine XS.iconst Xw7.here hx rfl (hb hby at_64) ?_
    show Steps p.tables e below (T7.setTop (mkF m 65 #[.val (.int p1), .val (.int p2), .val (.int p3), .val (.int p4), .val (.int (own_md p1)), .val (.int (own_pk p2)), .val (.int (own_pk p3)), .val (.int (own_pk p4)), .unset, .unset, .unset, .unset] [(.int (1 : Int32)), (.int (own_md p1))])) _
    refine XS.icmpYes Xw7.here hx rfl (pc0 := 65) (pc' := 91) rfl (hb hby at_65) rfl (feq (hk.2.2.1 : ¬ ((own_md p1) = (1 : Int32)))).2 (by decide) (by decide) ?_
    show Steps p.tables e below (T7.setTop (mkF m 91 #[.val (.int p1), .val (.int p2), .val (.int p3), .val (.int p4), .val (.int (own_md p1)), .val (.int (own_pk p2)), .val (.int (own_pk p3)), .val (.int (own_pk p4)), .unset, .unset, .unset, .unset] [])) _
    refine XS.iload Xw7.here hx rfl (hb hby at_91) rfl ?_
    show Steps p.tables e below (T7.setTop (mkF m 93 #[.val (.int p1), .val (.int p2), .val (.int p3), .val (.int p4), .val (.int (own_md p1)), .val (.int (own_pk p2)), .val (.int (own_pk p3)), .val (.int (own_pk p4)), .unset, .unset, .unset, .unset] [(.int (own_md p1))])) _
    refine XS.iconst Xw7.here hx rfl (hb hby at_93) ?_
    show Steps p.tables e below (T7.setTop (mkF m 94 #[.val (.int p1), .val (.int p2), .val (.int p3), .val (.int p4), .val (.int (own_md p1)), .val (.int (own_pk p2)), .val (.int (own_pk p3)), .val (.int (own_pk p4)), .unset, .unset, .unset, .unset] [(.int (3 : Int32)), (.int (own_md p1))])) _
    refine XS.icmpYes Xw7.here hx rfl (pc0 := 94) (pc' := 130) rfl (hb hby at_94) rfl (feq (hk.2.2.2 : ¬ ((own_md p1) = (3 : Int32)))).2 (by decide) (by decide) ?_
    show Steps p.tables e below (T7.setTop (mkF m 130 #[.val (.int p1), .val (.int p2), .val (.int p3), .val (.int p4), .val (.int (own_md p1)), .val (.int (own_pk p2)), .val (.int (own_pk p3)), .val (.int (own_pk p4)), .unset, .unset, .unset, .unset] [])) _
    refine st9 _ ?_
    show Steps p.tables e below (T9.setTop (mkF m 133 #[.val (.int p1), .val (.int p2), .val (.int p3), .val (.int p4), .val (.int (own_md p1)), .val (.int (own_pk p2)), .val (.int (own_pk p3)), .val (.int (own_pk p4)), .unset, .unset, .unset, .unset] [(.ref b9)])) _
    refine XS.dup X9.here hx rfl (hb hby at_133) rfl rfl ?_
    show Steps p.tables e below (T9.setTop (mkF m 134 #[.val (.int p1), .val (.int p2), .val (.int p3), .val (.int p4), .val (.int (own_md p1)), .val (.int (own_pk p2)), .val (.int (own_pk p3)), .val (.int (own_pk p4)), .unset, .unset, .unset, .unset] [(.ref b9), (.ref b9)])) _
    refine XS.iconst X9.here hx rfl (hb hby at_134) ?_
    show Steps p.tables e below (T9.setTop (mkF m 135 #[.val (.int p1), .val (.int p2), .val (.int p3), .val (.int p4), .val (.int (own_md p1)), .val (.int (own_pk p2)), .val (.int (own_pk p3)), .val (.int (own_pk p4)), .unset, .unset, .unset, .unset] [(.int (2 : Int32)), (.ref b9), (.ref b9)])) _
    refine st11 _ ?_
    show Steps p.tables e below (T11.setTop (mkF m 137 #[.val (.int p1), .val (.int p2), .val (.int p3), .val (.int p4), .val (.int (own_md p1)), .val (.int (own_pk p2)), .val (.int (own_pk p3)), .val (.int (own_pk p4)), .unset, .unset, .unset, .unset] [(.ref b11), (.ref b9), (.ref b9)])) _
    refine XS.dup X11.here hx rfl (hb hby at_137) rfl rfl ?_
    show Steps p.tables e below (T11.setTop (mkF m 138 #[.val (.int p1), .val (.int p2), .val (.int p3), .val (.int p4), .val (.int (own_md p1)), .val (.int (own_pk p2)), .val (.int (own_pk p3)), .val (.int (own_pk p4)), .unset, .unset, .unset, .unset] [(.ref b11), (.ref b11), (.ref b9), (.ref b9)])) _
    refine XS.iconst X11.here hx rfl (hb hby at_138) ?_
    show Steps p.tables e below (T11.setTop (mkF m 139 #[.val (.int p1), .val (.int p2), .val (.int p3), .val (.int p4), .val (.int (own_md p1)), .val (.int (own_pk p2)), .val (.int (own_pk p3)), .val (.int (own_pk p4)), .unset, .unset, .unset, .unset] [(.int (0 : Int32)), (.ref b11), (.ref b11), (.ref b9), (.ref b9)])) _
    refine XS.iload X11.here hx rfl (hb hby at_139) rfl ?_
    show Steps p.tables e below (T11.setTop (mkF m 141 #[.val (.int p1), .val (.int p2), .val (.int p3), .val (.int p4), .val (.int (own_md p1)), .val (.int (own_pk p2)), .val (.int (own_pk p3)), .val (.int (own_pk p4)), .unset, .unset, .unset, .unset] [(.int (own_pk p2)), (.int (0 : Int32)), (.ref b11), (.ref b11), (.ref b9), (.ref b9)])) _
    refine st15 _ ?_
    show Steps p.tables e below (T15.setTop (mkF m 142 #[.val (.int p1), .val (.int p2), .val (.int p3), .val (.int p4), .val (.int (own_md p1)), .val (.int (own_pk p2)), .val (.int (own_pk p3)), .val (.int (own_pk p4)), .unset, .unset, .unset, .unset] [(.ref b11), (.ref b9), (.ref b9)])) _
    refine XS.dup X15.here hx rfl (hb hby at_142) rfl rfl ?_
    show Steps p.tables e below (T15.setTop (mkF m 143 #[.val (.int p1), .val (.int p2), .val (.int p3), .val (.int p4), .val (.int (own_md p1)), .val (.int (own_pk p2)), .val (.int (own_pk p3)), .val (.int (own_pk p4)), .unset, .unset, .unset, .unset] [(.ref b11), (.ref b11), (.ref b9), (.ref b9)])) _
    refine XS.iconst X15.here hx rfl (hb hby at_143) ?_
    show Steps p.tables e below (T15.setTop (mkF m 144 #[.val (.int p1), .val (.int p2), .val (.int p3), .val (.int p4), .val (.int (own_md p1)), .val (.int (own_pk p2)), .val (.int (own_pk p3)), .val (.int (own_pk p4)), .unset, .unset, .unset, .unset] [(.int (1 : Int32)), (.ref b11), (.ref b11), (.ref b9), (.ref b9)])) _
    refine XS.iload X15.here hx rfl (hb hby at_144) rfl ?_
    show Steps p.tables e below (T15.setTop (mkF m 146 #[.val (.int p1), .val (.int p2), .val (.int p3), .val (.int p4), .val (.int (own_md p1)), .val (.int (own_pk p2)), .val (.int (own_pk p3)), .val (.int (own_pk p4)), .unset, .unset, .unset, .unset] [(.int (own_pk p3)), (.int (1 : Int32)), (.ref b11), (.ref b11), (.ref b9), (.ref b9)])) _
    refine st20 _ ?_
    show Steps p.tables e below (T20.setTop (mkF m 147 #[.val (.int p1), .val (.int p2), .val (.int p3), .val (.int p4), .val (.int (own_md p1)), .val (.int (own_pk p2)), .val (.int (own_pk p3)), .val (.int (own_pk p4)), .unset, .unset, .unset, .unset] [(.ref b11), (.ref b9), (.ref b9)])) _
    refine st36.trans ?_
    show Steps p.tables e below (T36.setTop (mkF m 150 #[.val (.int p1), .val (.int p2), .val (.int p3), .val (.int p4), .val (.int (own_md p1)), .val (.int (own_pk p2)), .val (.int (own_pk p3)), .val (.int (own_pk p4)), .unset, .unset, .unset, .unset] [(.ref b9)])) _
    refine XS.astore X36.here hx rfl (hb hby at_150) rfl rfl (l' := #[.val (.int p1), .val (.int p2), .val (.int p3), .val (.int p4), .val (.int (own_md p1)), .val (.int (own_pk p2)), .val (.int (own_pk p3)), .val (.int (own_pk p4)), .val (.ref b9), .unset, .unset, .unset]) rfl ?_
    show Steps p.tables e below (T36.setTop (mkF m 152 #[.val (.int p1), .val (.int p2), .val (.int p3), .val (.int p4), .val (.int (own_md p1)), .val (.int (own_pk p2)), .val (.int (own_pk p3)), .val (.int (own_pk p4)), .val (.ref b9), .unset, .unset, .unset] [])) _
    refine XS.iconst X36.here hx rfl (hb hby at_152) ?_
    show Steps p.tables e below (T36.setTop (mkF m 153 #[.val (.int p1), .val (.int p2), .val (.int p3), .val (.int p4), .val (.int (own_md p1)), .val (.int (own_pk p2)), .val (.int (own_pk p3)), .val (.int (own_pk p4)), .val (.ref b9), .unset, .unset, .unset] [(.int (2 : Int32))])) _
    refine XS.istore X36.here hx rfl (hb hby at_153) rfl (l' := #[.val (.int p1), .val (.int p2), .val (.int p3), .val (.int p4), .val (.int (own_md p1)), .val (.int (own_pk p2)), .val (.int (own_pk p3)), .val (.int (own_pk p4)), .val (.ref b9), .val (.int (2 : Int32)), .unset, .unset]) rfl ?_
    show Steps p.tables e below (T36.setTop (mkF m 155 #[.val (.int p1), .val (.int p2), .val (.int p3), .val (.int p4), .val (.int (own_md p1)), .val (.int (own_pk p2)), .val (.int (own_pk p3)), .val (.int (own_pk p4)), .val (.ref b9), .val (.int (2 : Int32)), .unset, .unset] [])) _
    refine XS.aconstNull X36.here hx rfl (hb hby at_155) ?_
    show Steps p.tables e below (T36.setTop (mkF m 156 #[.val (.int p1), .val (.int p2), .val (.int p3), .val (.int p4), .val (.int (own_md p1)), .val (.int (own_pk p2)), .val (.int (own_pk p3)), .val (.int (own_pk p4)), .val (.ref b9), .val (.int (2 : Int32)), .unset, .unset] [.null])) _
    refine XS.astore X36.here hx rfl (hb hby at_156) rfl rfl (l' := #[.val (.int p1), .val (.int p2), .val (.int p3), .val (.int p4), .val (.int (own_md p1)), .val (.int (own_pk p2)), .val (.int (own_pk p3)), .val (.int (own_pk p4)), .val (.ref b9), .val (.int (2 : Int32)), .val .null, .unset]) rfl ?_
    show Steps p.tables e below (T36.setTop (mkF m 158 #[.val (.int p1), .val (.int p2), .val (.int p3), .val (.int p4), .val (.int (own_md p1)), .val (.int (own_pk p2)), .val (.int (own_pk p3)), .val (.int (own_pk p4)), .val (.ref b9), .val (.int (2 : Int32)), .val .null, .unset] [])) _
    refine XS.aload X36.here hx rfl (hb hby at_158) rfl rfl ?_
    show Steps p.tables e below (T36.setTop (mkF m 160 #[.val (.int p1), .val (.int p2), .val (.int p3), .val (.int p4), .val (.int (own_md p1)), .val (.int (own_pk p2)), .val (.int (own_pk p3)), .val (.int (own_pk p4)), .val (.ref b9), .val (.int (2 : Int32)), .val .null, .unset] [(.ref b9)])) _
    refine XS.ifnullNo X36.here hx rfl (hb hby at_160) rfl ?_
    show Steps p.tables e below (T36.setTop (mkF m 163 #[.val (.int p1), .val (.int p2), .val (.int p3), .val (.int p4), .val (.int (own_md p1)), .val (.int (own_pk p2)), .val (.int (own_pk p3)), .val (.int (own_pk p4)), .val (.ref b9), .val (.int (2 : Int32)), .val .null, .unset] [])) _
    refine XS.iload X36.here hx rfl (hb hby at_163) rfl ?_
    show Steps p.tables e below (T36.setTop (mkF m 165 #[.val (.int p1), .val (.int p2), .val (.int p3), .val (.int p4), .val (.int (own_md p1)), .val (.int (own_pk p2)), .val (.int (own_pk p3)), .val (.int (own_pk p4)), .val (.ref b9), .val (.int (2 : Int32)), .val .null, .unset] [(.int (2 : Int32))])) _
    refine XS.iconst X36.here hx rfl (hb hby at_165) ?_
    show Steps p.tables e below (T36.setTop (mkF m 166 #[.val (.int p1), .val (.int p2), .val (.int p3), .val (.int p4), .val (.int (own_md p1)), .val (.int (own_pk p2)), .val (.int (own_pk p3)), .val (.int (own_pk p4)), .val (.ref b9), .val (.int (2 : Int32)), .val .null, .unset] [(.int (2 : Int32)), (.int (2 : Int32))])) _
    refine XS.icmpNo X36.here hx rfl (hb hby at_166) rfl (teq (rfl : (2 : Int32) = (2 : Int32))).2 ?_
    show Steps p.tables e below (T36.setTop (mkF m 169 #[.val (.int p1), .val (.int p2), .val (.int p3), .val (.int p4), .val (.int (own_md p1)), .val (.int (own_pk p2)), .val (.int (own_pk p3)), .val (.int (own_pk p4)), .val (.ref b9), .val (.int (2 : Int32)), .val .null, .unset] [])) _
    refine XS.iload X36.here hx rfl (hb hby at_169) rfl ?_
    show Steps p.tables e below (T36.setTop (mkF m 171 #[.val (.int p1), .val (.int p2), .val (.int p3), .val (.int p4), .val (.int (own_md p1)), .val (.int (own_pk p2)), .val (.int (own_pk p3)), .val (.int (own_pk p4)), .val (.ref b9), .val (.int (2 : Int32)), .val .null, .unset] [(.int (own_pk p2))])) _
    refine XS.bipush X36.here hx rfl (hb hby at_171) ?_
    show Steps p.tables e below (T36.setTop (mkF m 173 #[.val (.int p1), .val (.int p2), .val (.int p3), .val (.int p4), .val (.int (own_md p1)), .val (.int (own_pk p2)), .val (.int (own_pk p3)), .val (.int (own_pk p4)), .val (.ref b9), .val (.int (2 : Int32)), .val .null, .unset] [(.int (101 : Int32)), (.int (own_pk p2))])) _
    refine XS.icmpYes X36.here hx rfl (pc0 := 173) (pc' := 191) rfl (hb hby at_173) rfl (feq hc1).2 (by decide) (by decide) ?_
    show Steps p.tables e below (T36.setTop (mkF m 191 #[.val (.int p1), .val (.int p2), .val (.int p3), .val (.int p4), .val (.int (own_md p1)), .val (.int (own_pk p2)), .val (.int (own_pk p3)), .val (.int (own_pk p4)), .val (.ref b9), .val (.int (2 : Int32)), .val .null, .unset] [])) _
    refine XS.iload X36.here hx rfl (hb hby at_191) rfl ?_
    show Steps p.tables e below (T36.setTop (mkF m 193 #[.val (.int p1), .val (.int p2), .val (.int p3), .val (.int p4), .val (.int (own_md p1)), .val (.int (own_pk p2)), .val (.int (own_pk p3)), .val (.int (own_pk p4)), .val (.ref b9), .val (.int (2 : Int32)), .val .null, .unset] [(.int (own_pk p2))])) _
    refine XS.bipush X36.here hx rfl (hb hby at_193) ?_
    show Steps p.tables e below (T36.setTop (mkF m 195 #[.val (.int p1), .val (.int p2), .val (.int p3), .val (.int p4), .val (.int (own_md p1)), .val (.int (own_pk p2)), .val (.int (own_pk p3)), .val (.int (own_pk p4)), .val (.ref b9), .val (.int (2 : Int32)), .val .null, .unset] [(.int (106 : Int32)), (.int (own_pk p2))])) _
    refine XS.icmpYes X36.here hx rfl (pc0 := 195) (pc' := 213) rfl (hb hby at_195) rfl (feq hc2).2 (by decide) (by decide) ?_
    show Steps p.tables e below (T36.setTop (mkF m 213 #[.val (.int p1), .val (.int p2), .val (.int p3), .val (.int p4), .val (.int (own_md p1)), .val (.int (own_pk p2)), .val (.int (own_pk p3)), .val (.int (own_pk p4)), .val (.ref b9), .val (.int (2 : Int32)), .val .null, .unset] [])) _
    refine XS.iload X36.here hx rfl (hb hby at_213) rfl ?_
    show Steps p.tables e below (T36.setTop (mkF m 215 #[.val (.int p1), .val (.int p2), .val (.int p3), .val (.int p4), .val (.int (own_md p1)), .val (.int (own_pk p2)), .val (.int (own_pk p3)), .val (.int (own_pk p4)), .val (.ref b9), .val (.int (2 : Int32)), .val .null, .unset] [(.int (own_pk p2))])) _
    refine XS.bipush X36.here hx rfl (hb hby at_215) ?_
    show Steps p.tables e below (T36.setTop (mkF m 217 #[.val (.int p1), .val (.int p2), .val (.int p3), .val (.int p4), .val (.int (own_md p1)), .val (.int (own_pk p2)), .val (.int (own_pk p3)), .val (.int (own_pk p4)), .val (.ref b9), .val (.int (2 : Int32)), .val .null, .unset] [(.int (122 : Int32)), (.int (own_pk p2))])) _
    refine XS.icmpNo X36.here hx rfl (hb hby at_217) rfl (teq hc3).2 ?_
    show Steps p.tables e below (T36.setTop (mkF m 220 #[.val (.int p1), .val (.int p2), .val (.int p3), .val (.int p4), .val (.int (own_md p1)), .val (.int (own_pk p2)), .val (.int (own_pk p3)), .val (.int (own_pk p4)), .val (.ref b9), .val (.int (2 : Int32)), .val .null, .unset] [])) _
    refine XS.iload X36.here hx rfl (hb hby at_220) rfl ?_
    show Steps p.tables e below (T36.setTop (mkF m 222 #[.val (.int p1), .val (.int p2), .val (.int p3), .val (.int p4), .val (.int (own_md p1)), .val (.int (own_pk p2)), .val (.int (own_pk p3)), .val (.int (own_pk p4)), .val (.ref b9), .val (.int (2 : Int32)), .val .null, .unset] [(.int (own_pk p3))])) _
    refine XS.bipush X36.here hx rfl (hb hby at_222) ?_
    show Steps p.tables e below (T36.setTop (mkF m 224 #[.val (.int p1), .val (.int p2), .val (.int p3), .val (.int p4), .val (.int (own_md p1)), .val (.int (own_pk p2)), .val (.int (own_pk p3)), .val (.int (own_pk p4)), .val (.ref b9), .val (.int (2 : Int32)), .val .null, .unset] [(.int (104 : Int32)), (.int (own_pk p3))])) _
    refine XS.icmpYes X36.here hx rfl (pc0 := 224) (pc' := 232) rfl (hb hby at_224) rfl (feq hc4).2 (by decide) (by decide) ?_
    show Steps p.tables e below (T36.setTop (mkF m 232 #[.val (.int p1), .val (.int p2), .val (.int p3), .val (.int p4), .val (.int (own_md p1)), .val (.int (own_pk p2)), .val (.int (own_pk p3)), .val (.int (own_pk p4)), .val (.ref b9), .val (.int (2 : Int32)), .val .null, .unset] [])) _
    refine XS.aload X36.here hx rfl (hb hby at_232) rfl rfl ?_
    show Steps p.tables e below (T36.setTop (mkF m 234 #[.val (.int p1), .val (.int p2), .val (.int p3), .val (.int p4), .val (.int (own_md p1)), .val (.int (own_pk p2)), .val (.int (own_pk p3)), .val (.int (own_pk p4)), .val (.ref b9), .val (.int (2 : Int32)), .val .null, .unset] [(.ref b9)])) _
    refine st39 _ ?_
    show Steps p.tables e below (T39.setTop (mkF m 237 #[.val (.int p1), .val (.int p2), .val (.int p3), .val (.int p4), .val (.int (own_md p1)), .val (.int (own_pk p2)), .val (.int (own_pk p3)), .val (.int (own_pk p4)), .val (.ref b9), .val (.int (2 : Int32)), .val .null, .unset] [(.ref k_EMPTY)])) _
    refine XS.aconstNull X39.here hx rfl (hb hby at_237) ?_
    show Steps p.tables e below (T39.setTop (mkF m 238 #[.val (.int p1), .val (.int p2), .val (.int p3), .val (.int p4), .val (.int (own_md p1)), .val (.int (own_pk p2)), .val (.int (own_pk p3)), .val (.int (own_pk p4)), .val (.ref b9), .val (.int (2 : Int32)), .val .null, .unset] [.null, (.ref k_EMPTY)])) _
    refine st42.trans ?_
    show Steps p.tables e below (T42.setTop (mkF m 241 #[.val (.int p1), .val (.int p2), .val (.int p3), .val (.int p4), .val (.int (own_md p1)), .val (.int (own_pk p2)), .val (.int (own_pk p3)), .val (.int (own_pk p4)), .val (.ref b9), .val (.int (2 : Int32)), .val .null, .unset] [.null])) _
    refine X42.checkcastNull hx (g := (mkF m 241 #[.val (.int p1), .val (.int p2), .val (.int p3), .val (.int p4), .val (.int (own_md p1)), .val (.int (own_pk p2)), .val (.int (own_pk p3)), .val (.int (own_pk p4)), .val (.ref b9), .val (.int (2 : Int32)), .val .null, .unset] [.null])) rfl rfl (hb hby at_241) _ ?_
    show Steps p.tables e below (T42.setTop (mkF m 244 #[.val (.int p1), .val (.int p2), .val (.int p3), .val (.int p4), .val (.int (own_md p1)), .val (.int (own_pk p2)), .val (.int (own_pk p3)), .val (.int (own_pk p4)), .val (.ref b9), .val (.int (2 : Int32)), .val .null, .unset] [.null])) _
    refine XS.astore X42.here hx rfl (hb hby at_244) rfl rfl (l' := #[.val (.int p1), .val (.int p2), .val (.int p3), .val (.int p4), .val (.int (own_md p1)), .val (.int (own_pk p2)), .val (.int (own_pk p3)), .val (.int (own_pk p4)), .val (.ref b9), .val (.int (2 : Int32)), .val .null, .val .null]) rfl ?_
    show Steps p.tables e below (T42.setTop (mkF m 246 #[.val (.int p1), .val (.int p2), .val (.int p3), .val (.int p4), .val (.int (own_md p1)), .val (.int (own_pk p2)), .val (.int (own_pk p3)), .val (.int (own_pk p4)), .val (.ref b9), .val (.int (2 : Int32)), .val .null, .val .null] [])) _
    refine XS.aload X42.here hx rfl (hb hby at_246) rfl rfl ?_
    show Steps p.tables e below (T42.setTop (mkF m 248 #[.val (.int p1), .val (.int p2), .val (.int p3), .val (.int p4), .val (.int (own_md p1)), .val (.int (own_pk p2)), .val (.int (own_pk p3)), .val (.int (own_pk p4)), .val (.ref b9), .val (.int (2 : Int32)), .val .null, .val .null] [.null])) _
    refine XS.aload X42.here hx rfl (hb hby at_248) rfl rfl ?_
    show Steps p.tables e below (T42.setTop (mkF m 250 #[.val (.int p1), .val (.int p2), .val (.int p3), .val (.int p4), .val (.int (own_md p1)), .val (.int (own_pk p2)), .val (.int (own_pk p3)), .val (.int (own_pk p4)), .val (.ref b9), .val (.int (2 : Int32)), .val .null, .val .null] [.null, .null])) _
    refine Jvm.RoadKit.acmp (g := (mkF m 250 #[.val (.int p1), .val (.int p2), .val (.int p3), .val (.int p4), .val (.int (own_md p1)), .val (.int (own_pk p2)), .val (.int (own_pk p3)), .val (.int (own_pk p4)), .val (.ref b9), .val (.int (2 : Int32)), .val .null, .val .null] [.null, .null])) X42 hx rfl rfl rfl (pc0 := 250) (pc' := 253) (same := true) rfl (hb hby at_250) rfl (decide_eq_true rfl) (by decide) (by decide) ?_
    show Steps p.tables e below (T42.setTop (mkF m 253 #[.val (.int p1), .val (.int p2), .val (.int p3), .val (.int p4), .val (.int (own_md p1)), .val (.int (own_pk p2)), .val (.int (own_pk p3)), .val (.int (own_pk p4)), .val (.ref b9), .val (.int (2 : Int32)), .val .null, .val .null] [])) _
    refine XS.iconst X42.here hx rfl (hb hby at_253) ?_
    show Steps p.tables e below (T42.setTop (mkF m 254 #[.val (.int p1), .val (.int p2), .val (.int p3), .val (.int p4), .val (.int (own_md p1)), .val (.int (own_pk p2)), .val (.int (own_pk p3)), .val (.int (own_pk p4)), .val (.ref b9), .val (.int (2 : Int32)), .val .null, .val .null] [(.int (1 : Int32))])) _
    refine XS.goto X42.here hx rfl (pc0 := 254) (pc' := 258) rfl (hb hby at_254) (by decide) (by decide) ?_
    show Steps p.tables e below (T42.setTop (mkF m 258 #[.val (.int p1), .val (.int p2), .val (.int p3), .val (.int p4), .val (.int (own_md p1)), .val (.int (own_pk p2)), .val (.int (own_pk p3)), .val (.int (own_pk p4)), .val (.ref b9), .val (.int (2 : Int32)), .val .null, .val .null] [(.int (1 : Int32))])) _
    exact retN X42 hx (t := .boolean) Bd.returns (by simp) (hb hby at_258) hr
  · show own_Qlaw h0 n0 _ T42.heap _
    exact ⟨rfl, N42⟩
theorem own_eflaw2ttff (m : MethodId) (p1 : Int32) (p2 : Int32) (p3 : Int32) (p4 : Int32) : entryFrame m #[(.int p1), (.int p2), (.int p3), (.int p4)] maxLocals = mkF m 0 #[.val (.int p1), .val (.int p2), .val (.int p3), .val (.int p4), .unset, .unset, .unset, .unset, .unset, .unset, .unset, .unset] [] := by first | (simp [entryFrame, mkF, argsToLocals, Value.category, maxLocals]; done) | rfl
set_option maxRecDepth 65536 in
set_option maxHeartbeats 40000000 in
theorem own_law2ttff (l : Launch) (Z : State) (a0 : Array Value) (hw : ∀ d ∈ tables_1, d.before a0 Z = true) (ws : List Jvm.Cond) (G1 : Int32) (G3 : Value) (k_EMPTY : Addr) (k_ENGLISH : Addr) (s_ENGLISH : Addr) (t_ENGLISH : Addr) (kb_ENGLISH : ClassId) (k_JAPANESE : Addr) (s_JAPANESE : Addr) (t_JAPANESE : Addr) (kb_JAPANESE : ClassId) (k_CHINESE : Addr) (s_CHINESE : Addr) (t_CHINESE : Addr) (kb_CHINESE : ClassId) (k_VALUES : Addr) (kv_VALUES : ClassId) (gl : own_Glob Z G1 G3 k_EMPTY k_ENGLISH s_ENGLISH t_ENGLISH kb_ENGLISH k_JAPANESE s_JAPANESE t_JAPANESE kb_JAPANESE k_CHINESE s_CHINESE t_CHINESE kb_CHINESE k_VALUES kv_VALUES) (p1 : Int32) (p2 : Int32) (p3 : Int32) (p4 : Int32) (h0 : Heap) (n0 : Nat) (Z0 : n0 ≤ h0.size) (X00 : Old Z n0 h0) (hc1 : ¬ ((own_pk p2) = (101 : Int32))) (hc2 : ¬ ((own_pk p2) = (106 : Int32))) (hc3 : (own_pk p2) = (122 : Int32)) (hc4 : (own_pk p3) = (104 : Int32)) (hk : ¬ own_md p1 = 4 ∧ ¬ own_md p1 = 0 ∧ ¬ own_md p1 = 1 ∧ ¬ own_md p1 = 3) :
    MetFree l x (head1 (Jvm.Cond.code x code maxLocals ret :: ws) room_1) (fun a U => a = #[(.int p1), (.int p2), (.int p3), (.int p4)] ∧ Z.Warmed39 U.vm ∧ U.heap = h0 ∧ CHv Z consts_1 U.vm h0) (fun _ _ _ _ _ => True) (fun _ U o U' => ∃ v L, o = .returned v ∧ own_Qlaw h0 n0 v U'.heap L ∧ ReturnedEndW U o U' L room_1.cells room_1.slots) := by
  refine MetFree.of_bodySF (plainFor_of_name own_pn8) hisR ?_
  intro p e s m args below meth c s₁ Bd hml0 hP hK
  obtain ⟨rfl, hZ, hh, hCH⟩ := hP
  obtain ⟨O_CS, P_CS, O_SI, P_SI, O_EMPTY, E_EMPTY, F_EMPTY, O_ENGLISH, E_ENGLISH, Fs_ENGLISH, Es_ENGLISH, Fc_ENGLISH, Fv_ENGLISH, V_ENGLISH, O_JAPANESE, E_JAPANESE, Fs_JAPANESE, Es_JAPANESE, Fc_JAPANESE, Fv_JAPANESE, V_JAPANESE, O_CHINESE, E_CHINESE, Fs_CHINESE, Es_CHINESE, Fc_CHINESE, Fv_CHINESE, V_CHINESE, O_VALUES, E_VALUES, V_VALUES⟩ := id gl
  have hx := Bd.exec
  have hby := Bd.bytes
  have hml : c.maxLocals = 12 := hml0
  have hown : s.vm.findClass "com/example/dragoman/dragoman/core/LanguageForCodePinLaw" = some m.cls := findClass_of_methodNamed Bd.named
  have hnm := (name_of_methodNamed Bd.named Bd.method).1
  have X0 : Stand p l e room_1 s m #[(.int p1), (.int p2), (.int p3), (.int p4)] below meth c s₁ [] 0 0 := Stand.of_body Bd
  have e0 : s₁.heap = h0 := by rw [← hh, Bd.state]; rfl
  have N0 := Fr.nil n0
  have pre0 : ∀ t, Steps p.tables e below (s₁.setTop (mkF m 0 #[.val (.int p1), .val (.int p2), .val (.int p3), .val (.int p4), .unset, .unset, .unset, .unset, .unset, .unset, .unset, .unset] [])) t → Steps p.tables e below (s₁.setTop (entryFrame m #[(.int p1), (.int p2), (.int p3), (.int p4)] maxLocals)) t := fun t k => castTop (own_eflaw2ttff m p1 p2 p3 p4) k
  obtain ⟨_, _, ⟨T1, L1, k1, n1⟩, -, X1, hSq1, hgr1, ⟨Lc1, hQ1, l1, y1, z1, hCr1⟩, st1⟩ := callSS X0 hx (y := (⟨"com/example/dragoman/dragoman/core/LanguageForCodePinLaw", "pick", "(I)C"⟩ : MethodName)) hown (mvT hZ (hw _ (List.mem_of_getElem? (i := 0) rfl))) (mvT hZ (hw _ (List.mem_of_getElem? (i := 1) rfl))) (mvT hZ (hw _ (List.mem_of_getElem? (i := 2) rfl))) (mvT hZ (hw _ (List.mem_of_getElem? (i := 3) rfl))) (by decide) (backOfSH (s := s) (vm0 := s.vm) (W := 0) (own_rm_pk l Z a0 hw [] G1 G3 k_EMPTY k_ENGLISH s_ENGLISH t_ENGLISH kb_ENGLISH k_JAPANESE s_JAPANESE t_JAPANESE kb_JAPANESE k_CHINESE s_CHINESE t_CHINESE kb_CHINESE k_VALUES kv_VALUES gl p2 h0 n0 Z0 X00 ) hZ (hw _ (List.mem_of_getElem? (i := 3) rfl)) (hw _ (List.mem_of_getElem? (i := 2) rfl)) (by decide) (by decide) (own_EW hw) hCH) (g := (mkF m 7 #[.val (.int p1), .val (.int p2), .val (.int p3), .val (.int p4), .val (.int (own_md p1)), .unset, .unset, .unset, .unset, .unset, .unset, .unset] [(.int p2)])) rfl (by rw [hml]; rfl) (argsL := [(.int p2)]) (rest := []) (lenOf own_pd7 rfl) rfl (by show 2 * 0 + _ ≤ _; exact Nat.le_of_eq rfl) (hb hby at_7) (fun _ _ => ⟨rfl, e0, (by decide : 0 + 2 ≤ _), (by decide : 0 + 28 ≤ _)⟩)
  dsimp only [Pt.U, Pt.locs, Pt.cells, Pt.slots] at X1 l1 y1 z1 st1 hQ1 hSq1 hgr1 hCr1
  subst y1 z1
  obtain ⟨Xw1, hS1, hZ1, hown1⟩ := rebS (vm0 := s.vm) ((State.WarmedH.refl s).since 0) (by rw [e0]; exact (Nat.zero_le _)) X1 hSq1 hgr1 hZ hown
  obtain ⟨rfl, Nq1, Kq1⟩ := hQ1
  have N1 : Fr n0 L1 := by rw [l1]; exact Fr.app N0 Nq1
  have Kp2 : Keep h0 T1.heap [] := (Keep.refl h0 []).trans Kq1 all0
  have Old3 : Old Z n0 T1.heap := X00.keep Kq1 all0
  obtain ⟨_, _, ⟨T4, L4, k4, n4⟩, -, X4, hSq4, hgr4, ⟨Lc4, hQ4, l4, y4, z4, hCr4⟩, st4⟩ := callSS Xw1 hx (y := (⟨"com/example/dragoman/dragoman/core/LanguageForCodePinLaw", "pick", "(I)C"⟩ : MethodName)) hown1 (mvT hZ1 (hw _ (List.mem_of_getElem? (i := 0) rfl))) (mvT hZ1 (hw _ (List.mem_of_getElem? (i := 1) rfl))) (mvT hZ1 (hw _ (List.mem_of_getElem? (i := 2) rfl))) (mvT hZ1 (hw _ (List.mem_of_getElem? (i := 3) rfl))) (by decide) (backOfSH (s := s) (vm0 := T1.vm) (W := 0) (own_rm_pk l Z a0 hw [] G1 G3 k_EMPTY k_ENGLISH s_ENGLISH t_ENGLISH kb_ENGLISH k_JAPANESE s_JAPANESE t_JAPANESE kb_JAPANESE k_CHINESE s_CHINESE t_CHINESE kb_CHINESE k_VALUES kv_VALUES gl p3 T1.heap n0 (Nat.le_trans Z0 Kp2.1) Old3 ) hZ1 (hw _ (List.mem_of_getElem? (i := 3) rfl)) (hw _ (List.mem_of_getElem? (i := 2) rfl)) (by decide) (by decide) (own_EW hw) hCr1.1) (g := (mkF m 13 #[.val (.int p1), .val (.int p2), .val (.int p3), .val (.int p4), .val (.int (own_md p1)), .val (.int (own_pk p2)), .unset, .unset, .unset, .unset, .unset, .unset] [(.int p3)])) rfl (by rw [hml]; rfl) (argsL := [(.int p3)]) (rest := []) (lenOf own_pd7 rfl) rfl (by show 2 * 0 + _ ≤ _; exact Nat.le_of_eq rfl) (hb hby at_13) (fun _ _ => ⟨rfl, rfl, (by decide : 2 + 2 ≤ _), (by decide : 28 + 28 ≤ _)⟩)
  dsimp only [Pt.U, Pt.locs, Pt.cells, Pt.slots] at X4 l4 y4 z4 st4 hQ4 hSq4 hgr4 hCr4
  subst y4 z4
  obtain ⟨Xw4, hS4, hZ4, hown4⟩ := rebS (vm0 := T1.vm) hS1 (Nat.le_refl _) X4 hSq4 hgr4 hZ1 hown1
  obtain ⟨rfl, Nq4, Kq4⟩ := hQ4
  have N4 : Fr n0 L4 := by rw [l4]; exact Fr.app N1 Nq4
  have Kp5 : Keep h0 T4.heap [] := Kp2.trans Kq4 all0
  have Old6 : Old Z n0 T4.heap := Old3.keep Kq4 all0
  obtain ⟨_, _, ⟨T7, L7, k7, n7⟩, -, X7, hSq7, hgr7, ⟨Lc7, hQ7, l7, y7, z7, hCr7⟩, st7⟩ := callSS Xw4 hx (y := (⟨"com/example/dragoman/dragoman/core/LanguageForCodePinLaw", "pick", "(I)C"⟩ : MethodName)) hown4 (mvT hZ4 (hw _ (List.mem_of_getElem? (i := 0) rfl))) (mvT hZ4 (hw _ (List.mem_of_getElem? (i := 1) rfl))) (mvT hZ4 (hw _ (List.mem_of_getElem? (i := 2) rfl))) (mvT hZ4 (hw _ (List.mem_of_getElem? (i := 3) rfl))) (by decide) (backOfSH (s := s) (vm0 := T4.vm) (W := 0) (own_rm_pk l Z a0 hw [] G1 G3 k_EMPTY k_ENGLISH s_ENGLISH t_ENGLISH kb_ENGLISH k_JAPANESE s_JAPANESE t_JAPANESE kb_JAPANESE k_CHINESE s_CHINESE t_CHINESE kb_CHINESE k_VALUES kv_VALUES gl p4 T4.heap n0 (Nat.le_trans Z0 Kp5.1) Old6 ) hZ4 (hw _ (List.mem_of_getElem? (i := 3) rfl)) (hw _ (List.mem_of_getElem? (i := 2) rfl)) (by decide) (by decide) (own_EW hw) hCr4.1) (g := (mkF m 19 #[.val (.int p1), .val (.int p2), .val (.int p3), .val (.int p4), .val (.int (own_md p1)), .val (.int (own_pk p2)), .val (.int (own_pk p3)), .unset, .unset, .unset, .unset, .unset] [(.int p4)])) rfl (by rw [hml]; rfl) (argsL := [(.int p4)]) (rest := []) (lenOf own_pd7 rfl) rfl (by show 2 * 0 + _ ≤ _; exact Nat.le_of_eq rfl) (hb hby at_19) (fun _ _ => ⟨rfl, rfl, (by decide : 4 + 2 ≤ _), (by decide : 56 + 28 ≤ _)⟩)
  dsimp only [Pt.U, Pt.locs, Pt.cells, Pt.slots] at X7 l7 y7 z7 st7 hQ7 hSq7 hgr7 hCr7
  subst y7 z7
  obtain ⟨Xw7, hS7, hZ7, hown7⟩ := rebS (vm0 := T4.vm) hS4 (Nat.le_refl _) X7 hSq7 hgr7 hZ4 hown4
  obtain ⟨rfl, Nq7, Kq7⟩ := hQ7
  have N7 : Fr n0 L7 := by rw [l7]; exact Fr.app N4 Nq7
  have Kp8 : Keep h0 T7.heap [] := Kp5.trans Kq7 all0
  obtain ⟨T9, h9, X9, e9, E9, A9, D9, U9, st9⟩ := newO Xw7 hx hZ7 hown7 (hw _ (List.mem_of_getElem? (i := 4) rfl)) (hw _ (List.mem_of_getElem? (i := 5) rfl)) (hw _ (List.mem_of_getElem? (i := 6) rfl)) rfl (g := (mkF m 130 #[.val (.int p1), .val (.int p2), .val (.int p3), .val (.int p4), .val (.int (own_md p1)), .val (.int (own_pk p2)), .val (.int (own_pk p3)), .val (.int (own_pk p4)), .unset, .unset, .unset, .unset] [])) rfl (hb hby at_130) (by decide) (by decide)
  obtain ⟨b9, g9⟩ : ∃ z, z = T7.heap.size := ⟨_, rfl⟩
  rw [← g9] at A9 D9 U9 st9
  have Kp10 : Keep h0 h9 [] := Kp8.ext E9
  obtain ⟨T11, h11, k11, X11, e11, E11, A11, st11⟩ := newP X9 hx hZ7 (hw _ (List.mem_of_getElem? (i := 7) rfl)) e9 (g := (mkF m 135 #[.val (.int p1), .val (.int p2), .val (.int p3), .val (.int p4), .val (.int (own_md p1)), .val (.int (own_pk p2)), .val (.int (own_pk p3)), .val (.int (own_pk p4)), .unset, .unset, .unset, .unset] [(.int (2 : Int32)), (.ref b9), (.ref b9)])) rfl (hb hby at_135) rfl (by decide) (cap := 2) (by decide) (by decide) (by decide) (by decide)
  obtain ⟨b11, g11⟩ : ∃ z, z = h9.size := ⟨_, rfl⟩
  rw [← g11] at A11 st11
  have Kp12 : Keep h0 h11 [] := Kp10.ext E11
  have Vh13 : Arv Z h11 b11 k11 .char (2 : Int32) [(.int (0 : Int32)), (.int (0 : Int32))] (.int (0 : Int32)) := (Arv.new A11 (by decide)).pad (pad_rep [] (.int (0 : Int32)) 2)
  obtain ⟨cl14, Ar14, qc14, Sz14, Ng14, Hs14, Gs14⟩ := id Vh13
  have hin14 : ¬ ((0 : Int32) < 0 ∨ cl14.slots.size ≤ ((0 : Int32)).toNatClampNeg) := inb_of Sz14 ⟨(by decide), (by decide)⟩
  obtain ⟨T15, h15, X15, e15, W15, st15⟩ := stC X11 hx hZ7 e11 Ar14 (j := (0 : Int32)) hin14 (g := (mkF m 141 #[.val (.int p1), .val (.int p2), .val (.int p3), .val (.int p4), .val (.int (own_md p1)), .val (.int (own_pk p2)), .val (.int (own_pk p3)), .val (.int (own_pk p4)), .unset, .unset, .unset, .unset] [(.int (own_pk p2)), (.int (0 : Int32)), (.ref b11), (.ref b11), (.ref b9), (.ref b9)])) rfl rfl (hb hby at_141)
  have Kp16 : Keep h0 h15 [] := Kp12.wr W15 (Or.inr (Nat.le_trans Kp10.1 (Nat.le_of_eq g11.symm)))
  have gh17 : n0 ≤ b11 := Nat.le_trans (Nat.le_trans Z0 Kp10.1) (Nat.le_of_eq g11.symm)
  obtain ⟨Lp15, X15, N15⟩ := own_pack X15 (Fr.snoc X15 N7 gh17)
  have Vh18 : Arv Z h15 b11 k11 .char (2 : Int32) [(.int (own_q p2)), (.int (0 : Int32))] (.int (0 : Int32)) := (Arv.set Ar14 qc14 Sz14 Ng14 Hs14 Gs14 (fits_nar_char _) W15 0 rfl (Nat.le_of_ble_eq_true rfl))
  obtain ⟨cl19, Ar19, qc19, Sz19, Ng19, Hs19, Gs19⟩ := id Vh18
  have hin19 : ¬ ((1 : Int32) < 0 ∨ cl19.slots.size ≤ ((1 : Int32)).toNatClampNeg) := inb_of Sz19 ⟨(by decide), (by decide)⟩
  obtain ⟨T20, h20, X20, e20, W20, st20⟩ := stC X15 hx hZ7 e15 Ar19 (j := (1 : Int32)) hin19 (g := (mkF m 146 #[.val (.int p1), .val (.int p2), .val (.int p3), .val (.int p4), .val (.int (own_md p1)), .val (.int (own_pk p2)), .val (.int (own_pk p3)), .val (.int (own_pk p4)), .unset, .unset, .unset, .unset] [(.int (own_pk p3)), (.int (1 : Int32)), (.ref b11), (.ref b11), (.ref b9), (.ref b9)])) rfl rfl (hb hby at_146)
  have Kp21 : Keep h0 h20 [] := Kp16.wr W20 (Or.inr (Nat.le_trans Kp10.1 (Nat.le_of_eq g11.symm)))
  obtain ⟨Lp20, X20, N20⟩ := own_pack X20 (Fr.snoc X20 N15 gh17)
  have Vh22 : Arv Z h20 b11 k11 .char (2 : Int32) [(.int (own_q p2)), (.int (own_q p3))] (.int (0 : Int32)) := (Arv.set Ar19 qc19 Sz19 Ng19 Hs19 Gs19 (fits_nar_char _) W20 1 rfl (Nat.le_of_ble_eq_true rfl))
  have Eh23 : Exa Z h20 b9 "java/lang/String" := (((A9.ext E11).wr W15).wr W20)
  have Fh24 : Fld Z h9 b9 "java/lang/String" "value" "[B" .null := (D9 (Or.inr (hw _ (List.mem_of_getElem? (i := 20) rfl))) (ty := (.array .byte)) (by decide))
  have Fh25 : Fld Z h20 b9 "java/lang/String" "value" "[B" .null := (((Fh24.ext E11).other W15 (Or.inl (Nat.ne_of_lt (Nat.lt_of_lt_of_le A9.lt (Nat.le_of_eq g11.symm))))).other W20 (Or.inl (Nat.ne_of_lt (Nat.lt_of_lt_of_le A9.lt (Nat.le_of_eq g11.symm)))))
  have Fh26 : Fld Z h9 b9 "java/lang/String" "coder" "B" (.int (0 : Int32)) := (D9 (Or.inr (hw _ (List.mem_of_getElem? (i := 21) rfl))) (ty := .byte) (by decide))
  have Fh27 : Fld Z h20 b9 "java/lang/String" "coder" "B" (.int (0 : Int32)) := (((Fh26.ext E11).other W15 (Or.inl (Nat.ne_of_lt (Nat.lt_of_lt_of_le A9.lt (Nat.le_of_eq g11.symm))))).other W20 (Or.inl (Nat.ne_of_lt (Nat.lt_of_lt_of_le A9.lt (Nat.le_of_eq g11.symm)))))
  have hph28 : ∀ c ∈ ([(own_q p2), (own_q p3)] : List Int32), ¬ c < 0 ∧ ¬ (255 : Int32) < c := (own_cS (own_rng_q p2) (own_cS (own_rng_q p3) own_c0))
  have hws_words : ∀ d ∈ StrChars.Road.words, d.before a0 Z = true := fun d hd => hw d (own_hws_words d hd)
  have Zh29 : n0 ≤ h20.size := (Nat.le_trans Z0 Kp21.1)
  have gh30 : n0 ≤ b9 := Nat.le_trans (Nat.le_trans Z0 Kp8.1) (Nat.le_of_eq g9.symm)
  have Old31 : Old Z n0 T7.heap := Old6.keep Kq7 all0
  have Old32 : Old Z n0 h9 := Old31.ext E9
  have Old33 : Old Z n0 h11 := Old32.ext E11
  have Old34 : Old Z n0 h15 := Old33.wr W15 gh17
  have Old35 : Old Z n0 h20 := Old34.wr W20 gh17
  obtain ⟨_, _, ⟨T36, L36, k36, n36⟩, -, X36, ⟨Lc36, hQ36, l36, y36, z36⟩, st36⟩ := X20.specialBack hx (y := (⟨"java/lang/String", "<init>", "([C)V"⟩ : MethodName)) rfl hown7 (mvT hZ7 (hw _ (List.mem_of_getElem? (i := 8) rfl))) (mvT hZ7 (hw _ (List.mem_of_getElem? (i := 9) rfl))) (mvT hZ7 (hw _ (List.mem_of_getElem? (i := 10) rfl))) (by decide) (StrChars.Road.backV (W := 1) hZ7 hws_words (kI := 4) (hw _ (List.mem_of_getElem? (i := 5) rfl)) (cs := ([(own_q p2), (own_q p3)] : List Int32)) (bs := ([(own_q p2), (own_q p3)] : List Int32).map (fun c => c.toInt8.toInt32)) (n := 2) gh30 Zh29 Eh23 Fh25 Fh27 Vh22 (O_CS.ext Old35.2) P_CS rfl rfl (by decide) (by decide) hph28 rfl (by decide) (by decide)) (g := (mkF m 147 #[.val (.int p1), .val (.int p2), .val (.int p3), .val (.int p4), .val (.int (own_md p1)), .val (.int (own_pk p2)), .val (.int (own_pk p3)), .val (.int (own_pk p4)), .unset, .unset, .unset, .unset] [(.ref b11), (.ref b9), (.ref b9)])) rfl (by rw [hml]; rfl) (Steps.refl _) (a := b9) (argsL := [(.ref b11)]) (rest := [(.ref b9)]) (lenOf own_pd14 rfl) rfl (by show 2 * 0 + _ ≤ _; exact Nat.le_of_eq rfl) (hb hby at_147) (fun _ _ => ⟨rfl, e20, (by decide : 8 + 1 ≤ _), (by decide : 90 + 2 ≤ _)⟩)
  dsimp only [Pt.U, Pt.locs, Pt.cells, Pt.slots] at X36 l36 y36 z36 st36 hQ36
  subst y36 z36
  obtain ⟨rfl, Nq36, Kq36, Eq36, Cq36, t36, kb36, gt36, szt36, nt36, Vq36, Bq36⟩ := hQ36
  have N36 : Fr n0 L36 := by rw [l36]; exact Fr.app N20 Nq36
  have Kp37 : Keep h0 T36.heap [] := Kp21.trans Kq36 (allS (Or.inr (Nat.le_trans Kp8.1 (Nat.le_of_eq g9.symm))) all0)
  have Old38 : Old Z n0 T36.heap := Old35.keep Kq36 (allS gh30 all0)
  obtain ⟨T39, X39, e39, st39⟩ := getS2 X36 hx hZ7 hown7 (host := "") (Or.inl (hw _ (List.mem_of_getElem? (i := 123) rfl))) Via.refl rfl (O_CHINESE.ext Old38.2) (g := (mkF m 227 #[.val (.int p1), .val (.int p2), .val (.int p3), .val (.int p4), .val (.int (own_md p1)), .val (.int (own_pk p2)), .val (.int (own_pk p3)), .val (.int (own_pk p4)), .val (.ref b9), .val (.int (2 : Int32)), .val .null, .unset] [])) rfl (hb hby at_227)
  obtain ⟨_, _, ⟨T40, L40, k40, n40⟩, -, X40, ⟨Lc40, hQ40, l40, y40, z40⟩, st40⟩ := Jvm.LawKit.callS X39 hx (y := (⟨"com/example/dragoman/dragoman/core/Language", "forCode", "(Ljava/lang/String;)Ljava/util/Optional;"⟩ : MethodName)) hown7 (mvT hZ7 (hw _ (List.mem_of_getElem? (i := 26) rfl))) (mvT hZ7 (hw _ (List.mem_of_getElem? (i := 27) rfl))) (mvT hZ7 (hw _ (List.mem_of_getElem? (i := 28) rfl))) (mvT hZ7 (hw _ (List.mem_of_getElem? (i := 29) rfl))) (by decide) (backOf (W := 0) (own_rm_fcC l Z a0 hw [] G1 G3 k_EMPTY k_ENGLISH s_ENGLISH t_ENGLISH kb_ENGLISH k_JAPANESE s_JAPANESE t_JAPANESE kb_JAPANESE k_CHINESE s_CHINESE t_CHINESE kb_CHINESE k_VALUES kv_VALUES gl b9 ([(own_q p2), (own_q p3)] : List Int32) t36 (kb36) T36.heap n0 (Nat.le_trans Z0 Kp37.1) Old38 Eq36 Vq36 Cq36 Bq36 hph28 (Nat.le_of_ble_eq_true rfl) (own_na hc1) (own_na hc2) (own_l2 hc3 hc4)) hZ7 (hw _ (List.mem_of_getElem? (i := 29) rfl)) (hw _ (List.mem_of_getElem? (i := 28) rfl)) (by decide) (by decide)) (g := (mkF m 234 #[.val (.int p1), .val (.int p2), .val (.int p3), .val (.int p4), .val (.int (own_md p1)), .val (.int (own_pk p2)), .val (.int (own_pk p3)), .val (.int (own_pk p4)), .val (.ref b9), .val (.int (2 : Int32)), .val (.ref k_CHINESE), .unset] [(.ref b9)])) rfl (by rw [hml]; rfl) (argsL := [(.ref b9)]) (rest := []) (lenOf own_pd13 rfl) rfl (by show 2 * 0 + _ ≤ _; exact Nat.le_of_eq rfl) (hb hby at_234) (fun _ _ => ⟨rfl, e39, (by decide : 9 + 2 ≤ _), (by decide : 92 + 4 ≤ _)⟩)
  dsimp only [Pt.U, Pt.locs, Pt.cells, Pt.slots] at X40 l40 y40 z40 st40 hQ40
  subst y40 z40
  obtain ⟨b1_27_40, rfl, Nq40, Kq40, f40_0, f40_1, f40_2⟩ := hQ40
  have N40 : Fr n0 L40 := by rw [l40]; exact Fr.app N36 Nq40
  have Kp41 : Keep h0 T40.heap [] := Kp37.trans Kq40 all0
  obtain ⟨cq42, kq42, q42a, q42b, q42c⟩ := isOf hZ7 rfl f40_1
  obtain ⟨_, _, ⟨T42, L42, k42, n42⟩, -, X42, ⟨Lc42, hQ42, l42, y42, z42⟩, st42⟩ := X40.virtualBack hx (y := (⟨"java/util/Optional", "orElse", "(Ljava/lang/Object;)Ljava/lang/Object;"⟩ : MethodName)) (z := (⟨"java/util/Optional", "orElse", "(Ljava/lang/Object;)Ljava/lang/Object;"⟩ : MethodName)) hown7 (mvT hZ7 (hw _ (List.mem_of_getElem? (i := 66) rfl))) (mvT hZ7 (hw _ (List.mem_of_getElem? (i := 67) rfl))) (notFace_of_selects (args := #[]) (mvT hZ7 (hw _ (List.mem_of_getElem? (i := 69) rfl)))) (mvT hZ7 (hw _ (List.mem_of_getElem? (i := 69) rfl))) (mvT hZ7 (hw _ (List.mem_of_getElem? (i := 68) rfl))) (by decide) (backOf (W := 0) (own_rm_oeV l Z a0 hw [] G1 G3 k_EMPTY k_ENGLISH s_ENGLISH t_ENGLISH kb_ENGLISH k_JAPANESE s_JAPANESE t_JAPANESE kb_JAPANESE k_CHINESE s_CHINESE t_CHINESE kb_CHINESE k_VALUES kv_VALUES gl b1_27_40 k_CHINESE T40.heap n0 (Nat.le_trans Z0 Kp41.1) f40_2) hZ7 (hw _ (List.mem_of_getElem? (i := 70) rfl)) (hw _ (List.mem_of_getElem? (i := 63) rfl)) (by decide) (by decide)) q42a q42c (g := (mkF m 238 #[.val (.int p1), .val (.int p2), .val (.int p3), .val (.int p4), .val (.int (own_md p1)), .val (.int (own_pk p2)), .val (.int (own_pk p3)), .val (.int (own_pk p4)), .val (.ref b9), .val (.int (2 : Int32)), .val (.ref k_CHINESE), .unset] [.null, (.ref b1_27_40)])) rfl (by rw [hml]; rfl) (Steps.refl _) (argsL := [.null]) (rest := []) (lenOf own_pd4 rfl) rfl (by show 2 * 0 + _ ≤ _; exact Nat.le_of_eq rfl) (hb hby at_238) (fun _ _ => ⟨rfl, rfl, (by decide : 11 + 0 ≤ _), (by decide : 96 + 0 ≤ _)⟩)
  dsimp only [Pt.U, Pt.locs, Pt.cells, Pt.slots] at X42 l42 y42 z42 st42 hQ42
  subst y42 z42
  obtain ⟨rfl, Nq42, e42⟩ := hQ42
  have N42 : Fr n0 L42 := by rw [l42]; exact Fr.app N40 Nq42
  have Old43 : Old Z n0 T40.heap := Old38.keep Kq40 all0
  obtain ⟨T44, X44, e44, st44⟩ := castY X42 hx hZ7 hown7 (hw _ (List.mem_of_getElem? (i := 120) rfl)) e42 (Ins.self (E_CHINESE.ext Old43.2)) (g := (mkF m 241 #[.val (.int p1), .val (.int p2), .val (.int p3), .val (.int p4), .val (.int (own_md p1)), .val (.int (own_pk p2)), .val (.int (own_pk p3)), .val (.int (own_pk p4)), .val (.ref b9), .val (.int (2 : Int32)), .val (.ref k_CHINESE), .unset] [(.ref k_CHINESE)])) rfl rfl (hb hby at_241)
  obtain ⟨fs, hr, hrun, hended, hREW⟩ := X44.leaveW hS7 (by rw [e44]; exact (Nat.le_trans (Nat.le_refl _) (Nat.le_trans (Nat.le_trans (Nat.le_trans (Nat.le_trans (Nat.le_trans E9.1 E11.1) (Keep.of_wr W15).1) (Keep.of_wr W20).1) Kq36.1) Kq40.1))) (v := some (.int (1 : Int32))) (fun h => by rw [Bd.returns] at h; cases h)
  refine ⟨_, _, pre0 _ ?_, hrun, hended, _, _, rfl, ?_, hREW.1, hREW.2.1, hREW.2.2.1, hREW.2.2.2.mono (by decide) (by decide)⟩
  · show Steps p.tables e below (s₁.setTop (mkF m 0 #[.val (.int p1), .val (.int p2), .val (.int p3), .val (.int p4), .unset, .unset, .unset, .unset, .unset, .unset, .unset, .unset] [])) _
    refine XS.iloadN X0.here hx rfl (hb hby at_0) rfl ?_
    show Steps p.tables e below (s₁.setTop (mkF m 1 #[.val (.int p1), .val (.int p2), .val (.int p3), .val (.int p4), .unset, .unset, .unset, .unset, .unset, .unset, .unset, .unset] [(.int p1)])) _
    refine XS.bipush X0.here hx rfl (hb hby at_1) ?_
    show Steps p.tables e below (s₁.setTop (mkF m 3 #[.val (.int p1), .val (.int p2), .val (.int p3), .val (.int p4), .unset, .unset, .unset, .unset, .unset, .unset, .unset, .unset] [(.int (7 : Int32)), (.int p1)])) _
    refine XS.iand X0.here hx rfl (hb hby at_3) rfl ?_
    show Steps p.tables e below (s₁.setTop (mkF m 4 #[.val (.int p1), .val (.int p2), .val (.int p3), .val (.int p4), .unset, .unset, .unset, .unset, .unset, .unset, .unset, .unset] [(.int (own_md p1))])) _
    refine XS.istore X0.here hx rfl (hb hby at_4) rfl (l' := #[.val (.int p1), .val (.int p2), .val (.int p3), .val (.int p4), .val (.int (own_md p1)), .unset, .unset, .unset, .unset, .unset, .unset, .unset]) rfl ?_
    show Steps p.tables e below (s₁.setTop (mkF m 6 #[.val (.int p1), .val (.int p2), .val (.int p3), .val (.int p4), .val (.int (own_md p1)), .unset, .unset, .unset, .unset, .unset, .unset, .unset] [])) _
    refine XS.iloadN X0.here hx rfl (hb hby at_6) rfl ?_
    show Steps p.tables e below (s₁.setTop (mkF m 7 #[.val (.int p1), .val (.int p2), .val (.int p3), .val (.int p4), .val (.int (own_md p1)), .unset, .unset, .unset, .unset, .unset, .unset, .unset] [(.int p2)])) _
    refine st1.trans ?_
    show Steps p.tables e below (T1.setTop (mkF m 10 #[.val (.int p1), .val (.int p2), .val (.int p3), .val (.int p4), .val (.int (own_md p1)), .unset, .unset, .unset, .unset, .unset, .unset, .unset] [(.int (own_pk p2))])) _
    refine XS.istore Xw1.here hx rfl (hb hby at_10) rfl (l' := #[.val (.int p1), .val (.int p2), .val (.int p3), .val (.int p4), .val (.int (own_md p1)), .val (.int (own_pk p2)), .unset, .unset, .unset, .unset, .unset, .unset]) rfl ?_
    show Steps p.tables e below (T1.setTop (mkF m 12 #[.val (.int p1), .val (.int p2), .val (.int p3), .val (.int p4), .val (.int (own_md p1)), .val (.int (own_pk p2)), .unset, .unset, .unset, .unset, .unset, .unset] [])) _
    refine XS.iloadN Xw1.here hx rfl (hb hby at_12) rfl ?_
    show Steps p.tables e below (T1.setTop (mkF m 13 #[.val (.int p1), .val (.int p2), .val (.int p3), .val (.int p4), .val (.int (own_md p1)), .val (.int (own_pk p2)), .unset, .unset, .unset, .unset, .unset, .unset] [(.int p3)])) _
    refine st4.trans ?_
    show Steps p.tables e below (T4.setTop (mkF m 16 #[.val (.int p1), .val (.int p2), .val (.int p3), .val (.int p4), .val (.int (own_md p1)), .val (.int (own_pk p2)), .unset, .unset, .unset, .unset, .unset, .unset] [(.int (own_pk p3))])) _
    refine XS.istore Xw4.here hx rfl (hb hby at_16) rfl (l' := #[.val (.int p1), .val (.int p2), .val (.int p3), .val (.int p4), .val (.int (own_md p1)), .val (.int (own_pk p2)), .val (.int (own_pk p3)), .unset, .unset, .unset, .unset, .unset]) rfl ?_
    show Steps p.tables e below (T4.setTop (mkF m 18 #[.val (.int p1), .val (.int p2), .val (.int p3), .val (.int p4), .val (.int (own_md p1)), .val (.int (own_pk p2)), .val (.int (own_pk p3)), .unset, .unset, .unset, .unset, .unset] [])) _
    refine XS.iloadN Xw4.here hx rfl (hb hby at_18) rfl ?_
    show Steps p.tables e below (T4.setTop (mkF m 19 #[.val (.int p1), .val (.int p2), .val (.int p3), .val (.int p4), .val (.int (own_md p1)), .val (.int (own_pk p2)), .val (.int (own_pk p3)), .unset, .unset, .unset, .unset, .unset] [(.int p4)])) _
    refine st7.trans ?_
    show Steps p.tables e below (T7.setTop (mkF m 22 #[.val (.int p1), .val (.int p2), .val (.int p3), .val (.int p4), .val (.int (own_md p1)), .val (.int (own_pk p2)), .val (.int (own_pk p3)), .unset, .unset, .unset, .unset, .unset] [(.int (own_pk p4))])) _
    refine XS.istore Xw7.here hx rfl (hb hby at_22) rfl (l' := #[.val (.int p1), .val (.int p2), .val (.int p3), .val (.int p4), .val (.int (own_md p1)), .val (.int (own_pk p2)), .val (.int (own_pk p3)), .val (.int (own_pk p4)), .unset, .unset, .unset, .unset]) rfl ?_
    show Steps p.tables e below (T7.setTop (mkF m 24 #[.val (.int p1), .val (.int p2), .val (.int p3), .val (.int p4), .val (.int (own_md p1)), .val (.int (own_pk p2)), .val (.int (own_pk p3)), .val (.int (own_pk p4)), .unset, .unset, .unset, .unset] [])) _
    refine XS.iload Xw7.here hx rfl (hb hby at_24) rfl ?_
    show Steps p.tables e below (T7.setTop (mkF m 26 #[.val (.int p1), .val (.int p2), .val (.int p3), .val (.int p4), .val (.int (own_md p1)), .val (.int (own_pk p2)), .val (.int (own_pk p3)), .val (.int (own_pk p4)), .unset, .unset, .unset, .unset] [(.int (own_md p1))])) _
    refine XS.iconst Xw7.here hx rfl (hb hby at_26) ?_
    show Steps p.tables e below (T7.setTop (mkF m 27 #[.val (.int p1), .val (.int p2), .val (.int p3), .val (.int p4), .val (.int (own_md p1)), .val (.int (own_pk p2)), .val (.int (own_pk p3)), .val (.int (own_pk p4)), .unset, .unset, .unset, .unset] [(.int (4 : Int32)), (.int (own_md p1))])) _
    refine XS.icmpYes Xw7.here hx rfl (pc0 := 27) (pc' := 39) rfl (hb hby at_27) rfl (feq (hk.1 : ¬ ((own_md p1) = (4 : Int32)))).2 (by decide) (by decide) ?_
    show Steps p.tables e below (T7.setTop (mkF m 39 #[.val (.int p1), .val (.int p2), .val (.int p3), .val (.int p4), .val (.int (own_md p1)), .val (.int (own_pk p2)), .val (.int (own_pk p3)), .val (.int (own_pk p4)), .unset, .unset, .unset, .unset] [])) _
    refine XS.iload Xw7.here hx rfl (hb hby at_39) rfl ?_
    show Steps p.tables e below (T7.setTop (mkF m 41 #[.val (.int p1), .val (.int p2), .val (.int p3), .val (.int p4), .val (.int (own_md p1)), .val (.int (own_pk p2)), .val (.int (own_pk p3)), .val (.int (own_pk p4)), .unset, .unset, .unset, .unset] [(.int (own_md p1))])) _
    refine XS.ifYes Xw7.here hx rfl (pc0 := 41) (pc' := 62) rfl (hb hby at_41) rfl ((if0 _ _).trans (feq (hk.2.1 : ¬ ((own_md p1) = (0 : Int32)))).2) (by decide) (by decide) ?_
    show Steps p.tables e below (T7.setTop (mkF m 62 #[.val (.int p1), .val (.int p2), .val (.int p3), .val (.int p4), .val (.int (own_md p1)), .val (.int (own_pk p2)), .val (.int (own_pk p3)), .val (.int (own_pk p4)), .unset, .unset, .unset, .unset] [])) _
    refine XS.iload Xw7.here hx rfl (hb hby at_62) rfl ?_
    show Steps p.tables e below (T7.setTop (mkF m 64 #[.val (.int p1), .val (.int p2), .val (.int p3), .val (.int p4), .val (.int (own_md p1)), .val (.int (own_pk p2)), .val (.int (own_pk p3)), .val (.int (own_pk p4)), .unset, .unset, .unset, .unset] [(.int (own_md p1))])) _
    refine XS.iconst Xw7.here hx rfl (hb hby at_64) ?_
    show Steps p.tables e below (T7.setTop (mkF m 65 #[.val (.int p1), .val (.int p2), .val (.int p3), .val (.int p4), .val (.int (own_md p1)), .val (.int (own_pk p2)), .val (.int (own_pk p3)), .val (.int (own_pk p4)), .unset, .unset, .unset, .unset] [(.int (1 : Int32)), (.int (own_md p1))])) _
    refine XS.icmpYes Xw7.here hx rfl (pc0 := 65) (pc' := 91) rfl (hb hby at_65) rfl (feq (hk.2.2.1 : ¬ ((own_md p1) = (1 : Int32)))).2 (by decide) (by decide) ?_
    show Steps p.tables e below (T7.setTop (mkF m 91 #[.val (.int p1), .val (.int p2), .val (.int p3), .val (.int p4), .val (.int (own_md p1)), .val (.int (own_pk p2)), .val (.int (own_pk p3)), .val (.int (own_pk p4)), .unset, .unset, .unset, .unset] [])) _
    refine XS.iload Xw7.here hx rfl (hb hby at_91) rfl ?_
    show Steps p.tables e below (T7.setTop (mkF m 93 #[.val (.int p1), .val (.int p2), .val (.int p3), .val (.int p4), .val (.int (own_md p1)), .val (.int (own_pk p2)), .val (.int (own_pk p3)), .val (.int (own_pk p4)), .unset, .unset, .unset, .unset] [(.int (own_md p1))])) _
    refine XS.iconst Xw7.here hx rfl (hb hby at_93) ?_
    show Steps p.tables e below (T7.setTop (mkF m 94 #[.val (.int p1), .val (.int p2), .val (.int p3), .val (.int p4), .val (.int (own_md p1)), .val (.int (own_pk p2)), .val (.int (own_pk p3)), .val (.int (own_pk p4)), .unset, .unset, .unset, .unset] [(.int (3 : Int32)), (.int (own_md p1))])) _
    refine XS.icmpYes Xw7.here hx rfl (pc0 := 94) (pc' := 130) rfl (hb hby at_94) rfl (feq (hk.2.2.2 : ¬ ((own_md p1) = (3 : Int32)))).2 (by decide) (by decide) ?_
    show Steps p.tables e below (T7.setTop (mkF m 130 #[.val (.int p1), .val (.int p2), .val (.int p3), .val (.int p4), .val (.int (own_md p1)), .val (.int (own_pk p2)), .val (.int (own_pk p3)), .val (.int (own_pk p4)), .unset, .unset, .unset, .unset] [])) _
    refine st9 _ ?_
    show Steps p.tables e below (T9.setTop (mkF m 133 #[.val (.int p1), .val (.int p2), .val (.int p3), .val (.int p4), .val (.int (own_md p1)), .val (.int (own_pk p2)), .val (.int (own_pk p3)), .val (.int (own_pk p4)), .unset, .unset, .unset, .unset] [(.ref b9)])) _
    refine XS.dup X9.here hx rfl (hb hby at_133) rfl rfl ?_
    show Steps p.tables e below (T9.setTop (mkF m 134 #[.val (.int p1), .val (.int p2), .val (.int p3), .val (.int p4), .val (.int (own_md p1)), .val (.int (own_pk p2)), .val (.int (own_pk p3)), .val (.int (own_pk p4)), .unset, .unset, .unset, .unset] [(.ref b9), (.ref b9)])) _
    refine XS.iconst X9.here hx rfl (hb hby at_134) ?_
    show Steps p.tables e below (T9.setTop (mkF m 135 #[.val (.int p1), .val (.int p2), .val (.int p3), .val (.int p4), .val (.int (own_md p1)), .val (.int (own_pk p2)), .val (.int (own_pk p3)), .val (.int (own_pk p4)), .unset, .unset, .unset, .unset] [(.int (2 : Int32)), (.ref b9), (.ref b9)])) _
    refine st11 _ ?_
    show Steps p.tables e below (T11.setTop (mkF m 137 #[.val (.int p1), .val (.int p2), .val (.int p3), .val (.int p4), .val (.int (own_md p1)), .val (.int (own_pk p2)), .val (.int (own_pk p3)), .val (.int (own_pk p4)), .unset, .unset, .unset, .unset] [(.ref b11), (.ref b9), (.ref b9)])) _
    refine XS.dup X11.here hx rfl (hb hby at_137) rfl rfl ?_
    show Steps p.tables e below (T11.setTop (mkF m 138 #[.val (.int p1), .val (.int p2), .val (.int p3), .val (.int p4), .val (.int (own_md p1)), .val (.int (own_pk p2)), .val (.int (own_pk p3)), .val (.int (own_pk p4)), .unset, .unset, .unset, .unset] [(.ref b11), (.ref b11), (.ref b9), (.ref b9)])) _
    refine XS.iconst X11.here hx rfl (hb hby at_138) ?_
    show Steps p.tables e below (T11.setTop (mkF m 139 #[.val (.int p1), .val (.int p2), .val (.int p3), .val (.int p4), .val (.int (own_md p1)), .val (.int (own_pk p2)), .val (.int (own_pk p3)), .val (.int (own_pk p4)), .unset, .unset, .unset, .unset] [(.int (0 : Int32)), (.ref b11), (.ref b11), (.ref b9), (.ref b9)])) _
    refine XS.iload X11.here hx rfl (hb hby at_139) rfl ?_
    show Steps p.tables e below (T11.setTop (mkF m 141 #[.val (.int p1), .val (.int p2), .val (.int p3), .val (.int p4), .val (.int (own_md p1)), .val (.int (own_pk p2)), .val (.int (own_pk p3)), .val (.int (own_pk p4)), .unset, .unset, .unset, .unset] [(.int (own_pk p2)), (.int (0 : Int32)), (.ref b11), (.ref b11), (.ref b9), (.ref b9)])) _
    refine st15 _ ?_
    show Steps p.tables e below (T15.setTop (mkF m 142 #[.val (.int p1), .val (.int p2), .val (.int p3), .val (.int p4), .val (.int (own_md p1)), .val (.int (own_pk p2)), .val (.int (own_pk p3)), .val (.int (own_pk p4)), .unset, .unset, .unset, .unset] [(.ref b11), (.ref b9), (.ref b9)])) _
    refine XS.dup X15.here hx rfl (hb hby at_142) rfl rfl ?_
    show Steps p.tables e below (T15.setTop (mkF m 143 #[.val (.int p1), .val (.int p2), .val (.int p3), .val (.int p4), .val (.int (own_md p1)), .val (.int (own_pk p2)), .val (.int (own_pk p3)), .val (.int (own_pk p4)), .unset, .unset, .unset, .unset] [(.ref b11), (.ref b11), (.ref b9), (.ref b9)])) _
    refine XS.iconst X15.here hx rfl (hb hby at_143) ?_
    show Steps p.tables e below (T15.setTop (mkF m 144 #[.val (.int p1), .val (.int p2), .val (.int p3), .val (.int p4), .val (.int (own_md p1)), .val (.int (own_pk p2)), .val (.int (own_pk p3)), .val (.int (own_pk p4)), .unset, .unset, .unset, .unset] [(.int (1 : Int32)), (.ref b11), (.ref b11), (.ref b9), (.ref b9)])) _
    refine XS.iload X15.here hx rfl (hb hby at_144) rfl ?_
    show Steps p.tables e below (T15.setTop (mkF m 146 #[.val (.int p1), .val (.int p2), .val (.int p3), .val (.int p4), .val (.int (own_md p1)), .val (.int (own_pk p2)), .val (.int (own_pk p3)), .val (.int (own_pk p4)), .unset, .unset, .unset, .unset] [(.int (own_pk p3)), (.int (1 : Int32)), (.ref b11), (.ref b11), (.ref b9), (.ref b9)])) _
    refine st20 _ ?_
    show Steps p.tables e below (T20.setTop (mkF m 147 #[.val (.int p1), .val (.int p2), .val (.int p3), .val (.int p4), .val (.int (own_md p1)), .val (.int (own_pk p2)), .val (.int (own_pk p3)), .val (.int (own_pk p4)), .unset, .unset, .unset, .unset] [(.ref b11), (.ref b9), (.ref b9)])) _
    refine st36.trans ?_
    show Steps p.tables e below (T36.setTop (mkF m 150 #[.val (.int p1), .val (.int p2), .val (.int p3), .val (.int p4), .val (.int (own_md p1)), .val (.int (own_pk p2)), .val (.int (own_pk p3)), .val (.int (own_pk p4)), .unset, .unset, .unset, .unset] [(.ref b9)])) _
    refine XS.astore X36.here hx rfl (hb hby at_150) rfl rfl (l' := #[.val (.int p1), .val (.int p2), .val (.int p3), .val (.int p4), .val (.int (own_md p1)), .val (.int (own_pk p2)), .val (.int (own_pk p3)), .val (.int (own_pk p4)), .val (.ref b9), .unset, .unset, .unset]) rfl ?_
    show Steps p.tables e below (T36.setTop (mkF m 152 #[.val (.int p1), .val (.int p2), .val (.int p3), .val (.int p4), .val (.int (own_md p1)), .val (.int (own_pk p2)), .val (.int (own_pk p3)), .val (.int (own_pk p4)), .val (.ref b9), .unset, .unset, .unset] [])) _
    refine XS.iconst X36.here hx rfl (hb hby at_152) ?_
    show Steps p.tables e below (T36.setTop (mkF m 153 #[.val (.int p1), .val (.int p2), .val (.int p3), .val (.int p4), .val (.int (own_md p1)), .val (.int (own_pk p2)), .val (.int (own_pk p3)), .val (.int (own_pk p4)), .val (.ref b9), .unset, .unset, .unset] [(.int (2 : Int32))])) _
    refine XS.istore X36.here hx rfl (hb hby at_153) rfl (l' := #[.val (.int p1), .val (.int p2), .val (.int p3), .val (.int p4), .val (.int (own_md p1)), .val (.int (own_pk p2)), .val (.int (own_pk p3)), .val (.int (own_pk p4)), .val (.ref b9), .val (.int (2 : Int32)), .unset, .unset]) rfl ?_
    show Steps p.tables e below (T36.setTop (mkF m 155 #[.val (.int p1), .val (.int p2), .val (.int p3), .val (.int p4), .val (.int (own_md p1)), .val (.int (own_pk p2)), .val (.int (own_pk p3)), .val (.int (own_pk p4)), .val (.ref b9), .val (.int (2 : Int32)), .unset, .unset] [])) _
    refine XS.aconstNull X36.here hx rfl (hb hby at_155) ?_
    show Steps p.tables e below (T36.setTop (mkF m 156 #[.val (.int p1), .val (.int p2), .val (.int p3), .val (.int p4), .val (.int (own_md p1)), .val (.int (own_pk p2)), .val (.int (own_pk p3)), .val (.int (own_pk p4)), .val (.ref b9), .val (.int (2 : Int32)), .unset, .unset] [.null])) _
    refine XS.astore X36.here hx rfl (hb hby at_156) rfl rfl (l' := #[.val (.int p1), .val (.int p2), .val (.int p3), .val (.int p4), .val (.int (own_md p1)), .val (.int (own_pk p2)), .val (.int (own_pk p3)), .val (.int (own_pk p4)), .val (.ref b9), .val (.int (2 : Int32)), .val .null, .unset]) rfl ?_
    show Steps p.tables e below (T36.setTop (mkF m 158 #[.val (.int p1), .val (.int p2), .val (.int p3), .val (.int p4), .val (.int (own_md p1)), .val (.int (own_pk p2)), .val (.int (own_pk p3)), .val (.int (own_pk p4)), .val (.ref b9), .val (.int (2 : Int32)), .val .null, .unset] [])) _
    refine XS.aload X36.here hx rfl (hb hby at_158) rfl rfl ?_
    show Steps p.tables e below (T36.setTop (mkF m 160 #[.val (.int p1), .val (.int p2), .val (.int p3), .val (.int p4), .val (.int (own_md p1)), .val (.int (own_pk p2)), .val (.int (own_pk p3)), .val (.int (own_pk p4)), .val (.ref b9), .val (.int (2 : Int32)), .val .null, .unset] [(.ref b9)])) _
    refine XS.ifnullNo X36.here hx rfl (hb hby at_160) rfl ?_
    show Steps p.tables e below (T36.setTop (mkF m 163 #[.val (.int p1), .val (.int p2), .val (.int p3), .val (.int p4), .val (.int (own_md p1)), .val (.int (own_pk p2)), .val (.int (own_pk p3)), .val (.int (own_pk p4)), .val (.ref b9), .val (.int (2 : Int32)), .val .null, .unset] [])) _
    refine XS.iload X36.here hx rfl (hb hby at_163) rfl ?_
    show Steps p.tables e below (T36.setTop (mkF m 165 #[.val (.int p1), .val (.int p2), .val (.int p3), .val (.int p4), .val (.int (own_md p1)), .val (.int (own_pk p2)), .val (.int (own_pk p3)), .val (.int (own_pk p4)), .val (.ref b9), .val (.int (2 : Int32)), .val .null, .unset] [(.int (2 : Int32))])) _
    refine XS.iconst X36.here hx rfl (hb hby at_165) ?_
    show Steps p.tables e below (T36.setTop (mkF m 166 #[.val (.int p1), .val (.int p2), .val (.int p3), .val (.int p4), .val (.int (own_md p1)), .val (.int (own_pk p2)), .val (.int (own_pk p3)), .val (.int (own_pk p4)), .val (.ref b9), .val (.int (2 : Int32)), .val .null, .unset] [(.int (2 : Int32)), (.int (2 : Int32))])) _
    refine XS.icmpNo X36.here hx rfl (hb hby at_166) rfl (teq (rfl : (2 : Int32) = (2 : Int32))).2 ?_
    show Steps p.tables e below (T36.setTop (mkF m 169 #[.val (.int p1), .val (.int p2), .val (.int p3), .val (.int p4), .val (.int (own_md p1)), .val (.int (own_pk p2)), .val (.int (own_pk p3)), .val (.int (own_pk p4)), .val (.ref b9), .val (.int (2 : Int32)), .val .null, .unset] [])) _
    refine XS.iload X36.here hx rfl (hb hby at_169) rfl ?_
    show Steps p.tables e below (T36.setTop (mkF m 171 #[.val (.int p1), .val (.int p2), .val (.int p3), .val (.int p4), .val (.int (own_md p1)), .val (.int (own_pk p2)), .val (.int (own_pk p3)), .val (.int (own_pk p4)), .val (.ref b9), .val (.int (2 : Int32)), .val .null, .unset] [(.int (own_pk p2))])) _
    refine XS.bipush X36.here hx rfl (hb hby at_171) ?_
    show Steps p.tables e below (T36.setTop (mkF m 173 #[.val (.int p1), .val (.int p2), .val (.int p3), .val (.int p4), .val (.int (own_md p1)), .val (.int (own_pk p2)), .val (.int (own_pk p3)), .val (.int (own_pk p4)), .val (.ref b9), .val (.int (2 : Int32)), .val .null, .unset] [(.int (101 : Int32)), (.int (own_pk p2))])) _
    refine XS.icmpYes X36.here hx rfl (pc0 := 173) (pc' := 191) rfl (hb hby at_173) rfl (feq hc1).2 (by decide) (by decide) ?_
    show Steps p.tables e below (T36.setTop (mkF m 191 #[.val (.int p1), .val (.int p2), .val (.int p3), .val (.int p4), .val (.int (own_md p1)), .val (.int (own_pk p2)), .val (.int (own_pk p3)), .val (.int (own_pk p4)), .val (.ref b9), .val (.int (2 : Int32)), .val .null, .unset] [])) _
    refine XS.iload X36.here hx rfl (hb hby at_191) rfl ?_
    show Steps p.tables e below (T36.setTop (mkF m 193 #[.val (.int p1), .val (.int p2), .val (.int p3), .val (.int p4), .val (.int (own_md p1)), .val (.int (own_pk p2)), .val (.int (own_pk p3)), .val (.int (own_pk p4)), .val (.ref b9), .val (.int (2 : Int32)), .val .null, .unset] [(.int (own_pk p2))])) _
    refine XS.bipush X36.here hx rfl (hb hby at_193) ?_
    show Steps p.tables e below (T36.setTop (mkF m 195 #[.val (.int p1), .val (.int p2), .val (.int p3), .val (.int p4), .val (.int (own_md p1)), .val (.int (own_pk p2)), .val (.int (own_pk p3)), .val (.int (own_pk p4)), .val (.ref b9), .val (.int (2 : Int32)), .val .null, .unset] [(.int (106 : Int32)), (.int (own_pk p2))])) _
    refine XS.icmpYes X36.here hx rfl (pc0 := 195) (pc' := 213) rfl (hb hby at_195) rfl (feq hc2).2 (by decide) (by decide) ?_
    show Steps p.tables e below (T36.setTop (mkF m 213 #[.val (.int p1), .val (.int p2), .val (.int p3), .val (.int p4), .val (.int (own_md p1)), .val (.int (own_pk p2)), .val (.int (own_pk p3)), .val (.int (own_pk p4)), .val (.ref b9), .val (.int (2 : Int32)), .val .null, .unset] [])) _
    refine XS.iload X36.here hx rfl (hb hby at_213) rfl ?_
    show Steps p.tables e below (T36.setTop (mkF m 215 #[.val (.int p1), .val (.int p2), .val (.int p3), .val (.int p4), .val (.int (own_md p1)), .val (.int (own_pk p2)), .val (.int (own_pk p3)), .val (.int (own_pk p4)), .val (.ref b9), .val (.int (2 : Int32)), .val .null, .unset] [(.int (own_pk p2))])) _
    refine XS.bipush X36.here hx rfl (hb hby at_215) ?_
    show Steps p.tables e below (T36.setTop (mkF m 217 #[.val (.int p1), .val (.int p2), .val (.int p3), .val (.int p4), .val (.int (own_md p1)), .val (.int (own_pk p2)), .val (.int (own_pk p3)), .val (.int (own_pk p4)), .val (.ref b9), .val (.int (2 : Int32)), .val .null, .unset] [(.int (122 : Int32)), (.int (own_pk p2))])) _
    refine XS.icmpNo X36.here hx rfl (hb hby at_217) rfl (teq hc3).2 ?_
    show Steps p.tables e below (T36.setTop (mkF m 220 #[.val (.int p1), .val (.int p2), .val (.int p3), .val (.int p4), .val (.int (own_md p1)), .val (.int (own_pk p2)), .val (.int (own_pk p3)), .val (.int (own_pk p4)), .val (.ref b9), .val (.int (2 : Int32)), .val .null, .unset] [])) _
    refine XS.iload X36.here hx rfl (hb hby at_220) rfl ?_
    show Steps p.tables e below (T36.setTop (mkF m 222 #[.val (.int p1), .val (.int p2), .val (.int p3), .val (.int p4), .val (.int (own_md p1)), .val (.int (own_pk p2)), .val (.int (own_pk p3)), .val (.int (own_pk p4)), .val (.ref b9), .val (.int (2 : Int32)), .val .null, .unset] [(.int (own_pk p3))])) _
    refine XS.bipush X36.here hx rfl (hb hby at_222) ?_
    show Steps p.tables e below (T36.setTop (mkF m 224 #[.val (.int p1), .val (.int p2), .val (.int p3), .val (.int p4), .val (.int (own_md p1)), .val (.int (own_pk p2)), .val (.int (own_pk p3)), .val (.int (own_pk p4)), .val (.ref b9), .val (.int (2 : Int32)), .val .null, .unset] [(.int (104 : Int32)), (.int (own_pk p3))])) _
    refine XS.icmpNo X36.here hx rfl (hb hby at_224) rfl (teq hc4).2 ?_
    show Steps p.tables e below (T36.setTop (mkF m 227 #[.val (.int p1), .val (.int p2), .val (.int p3), .val (.int p4), .val (.int (own_md p1)), .val (.int (own_pk p2)), .val (.int (own_pk p3)), .val (.int (own_pk p4)), .val (.ref b9), .val (.int (2 : Int32)), .val .null, .unset] [])) _
    refine st39 _ ?_
    show Steps p.tables e below (T39.setTop (mkF m 230 #[.val (.int p1), .val (.int p2), .val (.int p3), .val (.int p4), .val (.int (own_md p1)), .val (.int (own_pk p2)), .val (.int (own_pk p3)), .val (.int (own_pk p4)), .val (.ref b9), .val (.int (2 : Int32)), .val .null, .unset] [(.ref k_CHINESE)])) _
    refine XS.astore X39.here hx rfl (hb hby at_230) rfl rfl (l' := #[.val (.int p1), .val (.int p2), .val (.int p3), .val (.int p4), .val (.int (own_md p1)), .val (.int (own_pk p2)), .val (.int (own_pk p3)), .val (.int (own_pk p4)), .val (.ref b9), .val (.int (2 : Int32)), .val (.ref k_CHINESE), .unset]) rfl ?_
    show Steps p.tables e below (T39.setTop (mkF m 232 #[.val (.int p1), .val (.int p2), .val (.int p3), .val (.int p4), .val (.int (own_md p1)), .val (.int (own_pk p2)), .val (.int (own_pk p3)), .val (.int (own_pk p4)), .val (.ref b9), .val (.int (2 : Int32)), .val (.ref k_CHINESE), .unset] [])) _
    refine XS.aload X39.here hx rfl (hb hby at_232) rfl rfl ?_
    show Steps p.tables e below (T39.setTop (mkF m 234 #[.val (.int p1), .val (.int p2), .val (.int p3), .val (.int p4), .val (.int (own_md p1)), .val (.int (own_pk p2)), .val (.int (own_pk p3)), .val (.int (own_pk p4)), .val (.ref b9), .val (.int (2 : Int32)), .val (.ref k_CHINESE), .unset] [(.ref b9)])) _
    refine st40 _ ?_
    show Steps p.tables e below (T40.setTop (mkF m 237 #[.val (.int p1), .val (.int p2), .val (.int p3), .val (.int p4), .val (.int (own_md p1)), .val (.int (own_pk p2)), .val (.int (own_pk p3)), .val (.int (own_pk p4)), .val (.ref b9), .val (.int (2 : Int32)), .val (.ref k_CHINESE), .unset] [(.ref b1_27_40)])) _
    refine XS.aconstNull X40.here hx rfl (hb hby at_237) ?_
    show Steps p.tables e below (T40.setTop (mkF m 238 #[.val (.int p1), .val (.int p2), .val (.int p3), .val (.int p4), .val (.int (own_md p1)), .val (.int (own_pk p2)), .val (.int (own_pk p3)), .val (.int (own_pk p4)), .val (.ref b9), .val (.int (2 : Int32)), .val (.ref k_CHINESE), .unset] [.null, (.ref b1_27_40)])) _
    refine st42.trans ?_
    show Steps p.tables e below (T42.setTop (mkF m 241 #[.val (.int p1), .val (.int p2), .val (.int p3), .val (.int p4), .val (.int (own_md p1)), .val (.int (own_pk p2)), .val (.int (own_pk p3)), .val (.int (own_pk p4)), .val (.ref b9), .val (.int (2 : Int32)), .val (.ref k_CHINESE), .unset] [(.ref k_CHINESE)])) _
    refine st44 _ ?_
    show Steps p.tables e below (T44.setTop (mkF m 244 #[.val (.int p1), .val (.int p2), .val (.int p3), .val (.int p4), .val (.int (own_md p1)), .val (.int (own_pk p2)), .val (.int (own_pk p3)), .val (.int (own_pk p4)), .val (.ref b9), .val (.int (2 : Int32)), .val (.ref k_CHINESE), .unset] [(.ref k_CHINESE)])) _
    refine XS.astore X44.here hx rfl (hb hby at_244) rfl rfl (l' := #[.val (.int p1), .val (.int p2), .val (.int p3), .val (.int p4), .val (.int (own_md p1)), .val (.int (own_pk p2)), .val (.int (own_pk p3)), .val (.int (own_pk p4)), .val (.ref b9), .val (.int (2 : Int32)), .val (.ref k_CHINESE), .val (.ref k_CHINESE)]) rfl ?_
    show Steps p.tables e below (T44.setTop (mkF m 246 #[.val (.int p1), .val (.int p2), .val (.int p3), .val (.int p4), .val (.int (own_md p1)), .val (.int (own_pk p2)), .val (.int (own_pk p3)), .val (.int (own_pk p4)), .val (.ref b9), .val (.int (2 : Int32)), .val (.ref k_CHINESE), .val (.ref k_CHINESE)] [])) _
    refine XS.aload X44.here hx rfl (hb hby at_246) rfl rfl ?_
    show Steps p.tables e below (T44.setTop (mkF m 248 #[.val (.int p1), .val (.int p2), .val (.int p3), .val (.int p4), .val (.int (own_md p1)), .val (.int (own_pk p2)), .val (.int (own_pk p3)), .val (.int (own_pk p4)), .val (.ref b9), .val (.int (2 : Int32)), .val (.ref k_CHINESE), .val (.ref k_CHINESE)] [(.ref k_CHINESE)])) _
    refine XS.aload X44.here hx rfl (hb hby at_248) rfl rfl ?_
    show Steps p.tables e below (T44.setTop (mkF m 250 #[.val (.int p1), .val (.int p2), .val (.int p3), .val (.int p4), .val (.int (own_md p1)), .val (.int (own_pk p2)), .val (.int (own_pk p3)), .val (.int (own_pk p4)), .val (.ref b9), .val (.int (2 : Int32)), .val (.ref k_CHINESE), .val (.ref k_CHINESE)] [(.ref k_CHINESE), (.ref k_CHINESE)])) _
    refine Jvm.RoadKit.acmp (g := (mkF m 250 #[.val (.int p1), .val (.int p2), .val (.int p3), .val (.int p4), .val (.int (own_md p1)), .val (.int (own_pk p2)), .val (.int (own_pk p3)), .val (.int (own_pk p4)), .val (.ref b9), .val (.int (2 : Int32)), .val (.ref k_CHINESE), .val (.ref k_CHINESE)] [(.ref k_CHINESE), (.ref k_CHINESE)])) X44 hx rfl rfl rfl (pc0 := 250) (pc' := 253) (same := true) rfl (hb hby at_250) rfl (decide_eq_true rfl) (by decide) (by decide) ?_
    show Steps p.tables e below (T44.setTop (mkF m 253 #[.val (.int p1), .val (.int p2), .val (.int p3), .val (.int p4), .val (.int (own_md p1)), .val (.int (own_pk p2)), .val (.int (own_pk p3)), .val (.int (own_pk p4)), .val (.ref b9), .val (.int (2 : Int32)), .val (.ref k_CHINESE), .val (.ref k_CHINESE)] [])) _
    refine XS.iconst X44.here hx rfl (hb hby at_253) ?_
    show Steps p.tables e below (T44.setTop (mkF m 254 #[.val (.int p1), .val (.int p2), .val (.int p3), .val (.int p4), .val (.int (own_md p1)), .val (.int (own_pk p2)), .val (.int (own_pk p3)), .val (.int (own_pk p4)), .val (.ref b9), .val (.int (2 : Int32)), .val (.ref k_CHINESE), .val (.ref k_CHINESE)] [(.int (1 : Int32))])) _
    refine XS.goto X44.here hx rfl (pc0 := 254) (pc' := 258) rfl (hb hby at_254) (by decide) (by decide) ?_
    show Steps p.tables e below (T44.setTop (mkF m 258 #[.val (.int p1), .val (.int p2), .val (.int p3), .val (.int p4), .val (.int (own_md p1)), .val (.int (own_pk p2)), .val (.int (own_pk p3)), .val (.int (own_pk p4)), .val (.ref b9), .val (.int (2 : Int32)), .val (.ref k_CHINESE), .val (.ref k_CHINESE)] [(.int (1 : Int32))])) _
    exact retN X44 hx (t := .boolean) Bd.returns (by simp) (hb hby at_258) hr
  · show own_Qlaw h0 n0 _ T44.heap _
    exact ⟨rfl, N42⟩
theorem own_eflaw2tft (m : MethodId) (p1 : Int32) (p2 : Int32) (p3 : Int32) (p4 : Int32) : entryFrame m #[(.int p1), (.int p2), (.int p3), (.int p4)] maxLocals = mkF m 0 #[.val (.int p1), .val (.int p2), .val (.int p3), .val (.int p4), .unset, .unset, .unset, .unset, .unset, .unset, .unset, .unset] [] := by first | (simp [entryFrame, mkF, argsToLocals, Value.category, maxLocals]; done) | rfl
set_option maxRecDepth 65536 in
set_option maxHeartbeats 40000000 in
theorem own_law2tft (l : Launch) (Z : State) (a0 : Array Value) (hw : ∀ d ∈ tables_1, d.before a0 Z = true) (ws : List Jvm.Cond) (G1 : Int32) (G3 : Value) (k_EMPTY : Addr) (k_ENGLISH : Addr) (s_ENGLISH : Addr) (t_ENGLISH : Addr) (kb_ENGLISH : ClassId) (k_JAPANESE : Addr) (s_JAPANESE : Addr) (t_JAPANESE : Addr) (kb_JAPANESE : ClassId) (k_CHINESE : Addr) (s_CHINESE : Addr) (t_CHINESE : Addr) (kb_CHINESE : ClassId) (k_VALUES : Addr) (kv_VALUES : ClassId) (gl : own_Glob Z G1 G3 k_EMPTY k_ENGLISH s_ENGLISH t_ENGLISH kb_ENGLISH k_JAPANESE s_JAPANESE t_JAPANESE kb_JAPANESE k_CHINESE s_CHINESE t_CHINESE kb_CHINESE k_VALUES kv_VALUES) (p1 : Int32) (p2 : Int32) (p3 : Int32) (p4 : Int32) (h0 : Heap) (n0 : Nat) (Z0 : n0 ≤ h0.size) (X00 : Old Z n0 h0) (hc1 : ¬ ((own_pk p2) = (101 : Int32))) (hc2 : (own_pk p2) = (106 : Int32)) (hc3 : ¬ ((own_pk p3) = (97 : Int32))) (hk : ¬ own_md p1 = 4 ∧ ¬ own_md p1 = 0 ∧ ¬ own_md p1 = 1 ∧ ¬ own_md p1 = 3) :
    MetFree l x (head1 (Jvm.Cond.code x code maxLocals ret :: ws) room_1) (fun a U => a = #[(.int p1), (.int p2), (.int p3), (.int p4)] ∧ Z.Warmed39 U.vm ∧ U.heap = h0 ∧ CHv Z consts_1 U.vm h0) (fun _ _ _ _ _ => True) (fun _ U o U' => ∃ v L, o = .returned v ∧ own_Qlaw h0 n0 v U'.heap L ∧ ReturnedEndW U o U' L room_1.cells room_1.slots) := by
  refine MetFree.of_bodySF (plainFor_of_name own_pn8) hisR ?_
  intro p e s m args below meth c s₁ Bd hml0 hP hK
  obtain ⟨rfl, hZ, hh, hCH⟩ := hP
  obtain ⟨O_CS, P_CS, O_SI, P_SI, O_EMPTY, E_EMPTY, F_EMPTY, O_ENGLISH, E_ENGLISH, Fs_ENGLISH, Es_ENGLISH, Fc_ENGLISH, Fv_ENGLISH, V_ENGLISH, O_JAPANESE, E_JAPANESE, Fs_JAPANESE, Es_JAPANESE, Fc_JAPANESE, Fv_JAPANESE, V_JAPANESE, O_CHINESE, E_CHINESE, Fs_CHINESE, Es_CHINESE, Fc_CHINESE, Fv_CHINESE, V_CHINESE, O_VALUES, E_VALUES, V_VALUES⟩ := id gl
  have hx := Bd.exec
  have hby := Bd.bytes
  have hml : c.maxLocals = 12 := hml0
  have hown : s.vm.findClass "com/example/dragoman/dragoman/core/LanguageForCodePinLaw" = some m.cls := findClass_of_methodNamed Bd.named
  have hnm := (name_of_methodNamed Bd.named Bd.method).1
  have X0 : Stand p l e room_1 s m #[(.int p1), (.int p2), (.int p3), (.int p4)] below meth c s₁ [] 0 0 := Stand.of_body Bd
  have e0 : s₁.heap = h0 := by rw [← hh, Bd.state]; rfl
  have N0 := Fr.nil n0
  have pre0 : ∀ t, Steps p.tables e below (s₁.setTop (mkF m 0 #[.val (.int p1), .val (.int p2), .val (.int p3), .val (.int p4), .unset, .unset, .unset, .unset, .unset, .unset, .unset, .unset] [])) t → Steps p.tables e below (s₁.setTop (entryFrame m #[(.int p1), (.int p2), (.int p3), (.int p4)] maxLocals)) t := fun t k => castTop (own_eflaw2tft m p1 p2 p3 p4) k
  obtain ⟨_, _, ⟨T1, L1, k1, n1⟩, -, X1, hSq1, hgr1, ⟨Lc1, hQ1, l1, y1, z1, hCr1⟩, st1⟩ := callSS X0 hx (y := (⟨"com/example/dragoman/dragoman/core/LanguageForCodePinLaw", "pick", "(I)C"⟩ : MethodName)) hown (mvT hZ (hw _ (List.mem_of_getElem? (i := 0) rfl))) (mvT hZ (hw _ (List.mem_of_getElem? (i := 1) rfl))) (mvT hZ (hw _ (List.mem_of_getElem? (i := 2) rfl))) (mvT hZ (hw _ (List.mem_of_getElem? (i := 3) rfl))) (by decide) (backOfSH (s := s) (vm0 := s.vm) (W := 0) (own_rm_pk l Z a0 hw [] G1 G3 k_EMPTY k_ENGLISH s_ENGLISH t_ENGLISH kb_ENGLISH k_JAPANESE s_JAPANESE t_JAPANESE kb_JAPANESE k_CHINESE s_CHINESE t_CHINESE kb_CHINESE k_VALUES kv_VALUES gl p2 h0 n0 Z0 X00 ) hZ (hw _ (List.mem_of_getElem? (i := 3) rfl)) (hw _ (List.mem_of_getElem? (i := 2) rfl)) (by decide) (by decide) (own_EW hw) hCH) (g := (mkF m 7 #[.val (.int p1), .val (.int p2), .val (.int p3), .val (.int p4), .val (.int (own_md p1)), .unset, .unset, .unset, .unset, .unset, .unset, .unset] [(.int p2)])) rfl (by rw [hml]; rfl) (argsL := [(.int p2)]) (rest := []) (lenOf own_pd7 rfl) rfl (by show 2 * 0 + _ ≤ _; exact Nat.le_of_eq rfl) (hb hby at_7) (fun _ _ => ⟨rfl, e0, (by decide : 0 + 2 ≤ _), (by decide : 0 + 28 ≤ _)⟩)
  dsimp only [Pt.U, Pt.locs, Pt.cells, Pt.slots] at X1 l1 y1 z1 st1 hQ1 hSq1 hgr1 hCr1
  subst y1 z1
  obtain ⟨Xw1, hS1, hZ1, hown1⟩ := rebS (vm0 := s.vm) ((State.WarmedH.refl s).since 0) (by rw [e0]; exact (Nat.zero_le _)) X1 hSq1 hgr1 hZ hown
  obtain ⟨rfl, Nq1, Kq1⟩ := hQ1
  have N1 : Fr n0 L1 := by rw [l1]; exact Fr.app N0 Nq1
  have Kp2 : Keep h0 T1.heap [] := (Keep.refl h0 []).trans Kq1 all0
  have Old3 : Old Z n0 T1.heap := X00.keep Kq1 all0
  obtain ⟨_, _, ⟨T4, L4, k4, n4⟩, -, X4, hSq4, hgr4, ⟨Lc4, hQ4, l4, y4, z4, hCr4⟩, st4⟩ := callSS Xw1 hx (y := (⟨"com/example/dragoman/dragoman/core/LanguageForCodePinLaw", "pick", "(I)C"⟩ : MethodName)) hown1 (mvT hZ1 (hw _ (List.mem_of_getElem? (i := 0) rfl))) (mvT hZ1 (hw _ (List.mem_of_getElem? (i := 1) rfl))) (mvT hZ1 (hw _ (List.mem_of_getElem? (i := 2) rfl))) (mvT hZ1 (hw _ (List.mem_of_getElem? (i := 3) rfl))) (by decide) (backOfSH (s := s) (vm0 := T1.vm) (W := 0) (own_rm_pk l Z a0 hw [] G1 G3 k_EMPTY k_ENGLISH s_ENGLISH t_ENGLISH kb_ENGLISH k_JAPANESE s_JAPANESE t_JAPANESE kb_JAPANESE k_CHINESE s_CHINESE t_CHINESE kb_CHINESE k_VALUES kv_VALUES gl p3 T1.heap n0 (Nat.le_trans Z0 Kp2.1) Old3 ) hZ1 (hw _ (List.mem_of_getElem? (i := 3) rfl)) (hw _ (List.mem_of_getElem? (i := 2) rfl)) (by decide) (by decide) (own_EW hw) hCr1.1) (g := (mkF m 13 #[.val (.int p1), .val (.int p2), .val (.int p3), .val (.int p4), .val (.int (own_md p1)), .val (.int (own_pk p2)), .unset, .unset, .unset, .unset, .unset, .unset] [(.int p3)])) rfl (by rw [hml]; rfl) (argsL := [(.int p3)]) (rest := []) (lenOf own_pd7 rfl) rfl (by show 2 * 0 + _ ≤ _; exact Nat.le_of_eq rfl) (hb hby at_13) (fun _ _ => ⟨rfl, rfl, (by decide : 2 + 2 ≤ _), (by decide : 28 + 28 ≤ _)⟩)
  dsimp only [Pt.U, Pt.locs, Pt.cells, Pt.slots] at X4 l4 y4 z4 st4 hQ4 hSq4 hgr4 hCr4
  subst y4 z4
  obtain ⟨Xw4, hS4, hZ4, hown4⟩ := rebS (vm0 := T1.vm) hS1 (Nat.le_refl _) X4 hSq4 hgr4 hZ1 hown1
  obtain ⟨rfl, Nq4, Kq4⟩ := hQ4
  have N4 : Fr n0 L4 := by rw [l4]; exact Fr.app N1 Nq4
  have Kp5 : Keep h0 T4.heap [] := Kp2.trans Kq4 all0
  have Old6 : Old Z n0 T4.heap := Old3.keep Kq4 all0
  obtain ⟨_, _, ⟨T7, L7, k7, n7⟩, -, X7, hSq7, hgr7, ⟨Lc7, hQ7, l7, y7, z7, hCr7⟩, st7⟩ := callSS Xw4 hx (y := (⟨"com/example/dragoman/dragoman/core/LanguageForCodePinLaw", "pick", "(I)C"⟩ : MethodName)) hown4 (mvT hZ4 (hw _ (List.mem_of_getElem? (i := 0) rfl))) (mvT hZ4 (hw _ (List.mem_of_getElem? (i := 1) rfl))) (mvT hZ4 (hw _ (List.mem_of_getElem? (i := 2) rfl))) (mvT hZ4 (hw _ (List.mem_of_getElem? (i := 3) rfl))) (by decide) (backOfSH (s := s) (vm0 := T4.vm) (W := 0) (own_rm_pk l Z a0 hw [] G1 G3 k_EMPTY k_ENGLISH s_ENGLISH t_ENGLISH kb_ENGLISH k_JAPANESE s_JAPANESE t_JAPANESE kb_JAPANESE k_CHINESE s_CHINESE t_CHINESE kb_CHINESE k_VALUES kv_VALUES gl p4 T4.heap n0 (Nat.le_trans Z0 Kp5.1) Old6 ) hZ4 (hw _ (List.mem_of_getElem? (i := 3) rfl)) (hw _ (List.mem_of_getElem? (i := 2) rfl)) (by decide) (by decide) (own_EW hw) hCr4.1) (g := (mkF m 19 #[.val (.int p1), .val (.int p2), .val (.int p3), .val (.int p4), .val (.int (own_md p1)), .val (.int (own_pk p2)), .val (.int (own_pk p3)), .unset, .unset, .unset, .unset, .unset] [(.int p4)])) rfl (by rw [hml]; rfl) (argsL := [(.int p4)]) (rest := []) (lenOf own_pd7 rfl) rfl (by show 2 * 0 + _ ≤ _; exact Nat.le_of_eq rfl) (hb hby at_19) (fun _ _ => ⟨rfl, rfl, (by decide : 4 + 2 ≤ _), (by decide : 56 + 28 ≤ _)⟩)
  dsimp only [Pt.U, Pt.locs, Pt.cells, Pt.slots] at X7 l7 y7 z7 st7 hQ7 hSq7 hgr7 hCr7
  subst y7 z7
  obtain ⟨Xw7, hS7, hZ7, hown7⟩ := rebS (vm0 := T4.vm) hS4 (Nat.le_refl _) X7 hSq7 hgr7 hZ4 hown4
  obtain ⟨rfl, Nq7, Kq7⟩ := hQ7
  have N7 : Fr n0 L7 := by rw [l7]; exact Fr.app N4 Nq7
  have Kp8 : Keep h0 T7.heap [] := Kp5.trans Kq7 all0
  obtain ⟨T9, h9, X9, e9, E9, A9, D9, U9, st9⟩ := newO Xw7 hx hZ7 hown7 (hw _ (List.mem_of_getElem? (i := 4) rfl)) (hw _ (List.mem_of_getElem? (i := 5) rfl)) (hw _ (List.mem_of_getElem? (i := 6) rfl)) rfl (g := (mkF m 130 #[.val (.int p1), .val (.int p2), .val (.int p3), .val (.int p4), .val (.int (own_md p1)), .val (.int (own_pk p2)), .val (.int (own_pk p3)), .val (.int (own_pk p4)), .unset, .unset, .unset, .unset] [])) rfl (hb hby at_130) (by decide) (by decide)
  obtain ⟨b9, g9⟩ : ∃ z, z = T7.heap.size := ⟨_, rfl⟩
  rw [← g9] at A9 D9 U9 st9
  have Kp10 : Keep h0 h9 [] := Kp8.ext E9
  obtain ⟨T11, h11, k11, X11, e11, E11, A11, st11⟩ := newP X9 hx hZ7 (hw _ (List.mem_of_getElem? (i := 7) rfl)) e9 (g := (mkF m 135 #[.val (.int p1), .val (.int p2), .val (.int p3), .val (.int p4), .val (.int (own_md p1)), .val (.int (own_pk p2)), .val (.int (own_pk p3)), .val (.int (own_pk p4)), .unset, .unset, .unset, .unset] [(.int (2 : Int32)), (.ref b9), (.ref b9)])) rfl (hb hby at_135) rfl (by decide) (cap := 2) (by decide) (by decide) (by decide) (by decide)
  obtain ⟨b11, g11⟩ : ∃ z, z = h9.size := ⟨_, rfl⟩
  rw [← g11] at A11 st11
  have Kp12 : Keep h0 h11 [] := Kp10.ext E11
  have Vh13 : Arv Z h11 b11 k11 .char (2 : Int32) [(.int (0 : Int32)), (.int (0 : Int32))] (.int (0 : Int32)) := (Arv.new A11 (by decide)).pad (pad_rep [] (.int (0 : Int32)) 2)
  obtain ⟨cl14, Ar14, qc14, Sz14, Ng14, Hs14, Gs14⟩ := id Vh13
  have hin14 : ¬ ((0 : Int32) < 0 ∨ cl14.slots.size ≤ ((0 : Int32)).toNatClampNeg) := inb_of Sz14 ⟨(by decide), (by decide)⟩
  obtain ⟨T15, h15, X15, e15, W15, st15⟩ := stC X11 hx hZ7 e11 Ar14 (j := (0 : Int32)) hin14 (g := (mkF m 141 #[.val (.int p1), .val (.int p2), .val (.int p3), .val (.int p4), .val (.int (own_md p1)), .val (.int (own_pk p2)), .val (.int (own_pk p3)), .val (.int (own_pk p4)), .unset, .unset, .unset, .unset] [(.int (own_pk p2)), (.int (0 : Int32)), (.ref b11), (.ref b11), (.ref b9), (.ref b9)])) rfl rfl (hb hby at_141)
  have Kp16 : Keep h0 h15 [] := Kp12.wr W15 (Or.inr (Nat.le_trans Kp10.1 (Nat.le_of_eq g11.symm)))
  have gh17 : n0 ≤ b11 := Nat.le_trans (Nat.le_trans Z0 Kp10.1) (Nat.le_of_eq g11.symm)
  obtain ⟨Lp15, X15, N15⟩ := own_pack X15 (Fr.snoc X15 N7 gh17)
  have Vh18 : Arv Z h15 b11 k11 .char (2 : Int32) [(.int (own_q p2)), (.int (0 : Int32))] (.int (0 : Int32)) := (Arv.set Ar14 qc14 Sz14 Ng14 Hs14 Gs14 (fits_nar_char _) W15 0 rfl (Nat.le_of_ble_eq_true rfl))
  obtain ⟨cl19, Ar19, qc19, Sz19, Ng19, Hs19, Gs19⟩ := id Vh18
  have hin19 : ¬ ((1 : Int32) < 0 ∨ cl19.slots.size ≤ ((1 : Int32)).toNatClampNeg) := inb_of Sz19 ⟨(by decide), (by decide)⟩
  obtain ⟨T20, h20, X20, e20, W20, st20⟩ := stC X15 hx hZ7 e15 Ar19 (j := (1 : Int32)) hin19 (g := (mkF m 146 #[.val (.int p1), .val (.int p2), .val (.int p3), .val (.int p4), .val (.int (own_md p1)), .val (.int (own_pk p2)), .val (.int (own_pk p3)), .val (.int (own_pk p4)), .unset, .unset, .unset, .unset] [(.int (own_pk p3)), (.int (1 : Int32)), (.ref b11), (.ref b11), (.ref b9), (.ref b9)])) rfl rfl (hb hby at_146)
  have Kp21 : Keep h0 h20 [] := Kp16.wr W20 (Or.inr (Nat.le_trans Kp10.1 (Nat.le_of_eq g11.symm)))
  obtain ⟨Lp20, X20, N20⟩ := own_pack X20 (Fr.snoc X20 N15 gh17)
  have Vh22 : Arv Z h20 b11 k11 .char (2 : Int32) [(.int (own_q p2)), (.int (own_q p3))] (.int (0 : Int32)) := (Arv.set Ar19 qc19 Sz19 Ng19 Hs19 Gs19 (fits_nar_char _) W20 1 rfl (Nat.le_of_ble_eq_true rfl))
  have Eh23 : Exa Z h20 b9 "java/lang/String" := (((A9.ext E11).wr W15).wr W20)
  have Fh24 : Fld Z h9 b9 "java/lang/String" "value" "[B" .null := (D9 (Or.inr (hw _ (List.mem_of_getElem? (i := 20) rfl))) (ty := (.array .byte)) (by decide))
  have Fh25 : Fld Z h20 b9 "java/lang/String" "value" "[B" .null := (((Fh24.ext E11).other W15 (Or.inl (Nat.ne_of_lt (Nat.lt_of_lt_of_le A9.lt (Nat.le_of_eq g11.symm))))).other W20 (Or.inl (Nat.ne_of_lt (Nat.lt_of_lt_of_le A9.lt (Nat.le_of_eq g11.symm)))))
  have Fh26 : Fld Z h9 b9 "java/lang/String" "coder" "B" (.int (0 : Int32)) := (D9 (Or.inr (hw _ (List.mem_of_getElem? (i := 21) rfl))) (ty := .byte) (by decide))
  have Fh27 : Fld Z h20 b9 "java/lang/String" "coder" "B" (.int (0 : Int32)) := (((Fh26.ext E11).other W15 (Or.inl (Nat.ne_of_lt (Nat.lt_of_lt_of_le A9.lt (Nat.le_of_eq g11.symm))))).other W20 (Or.inl (Nat.ne_of_lt (Nat.lt_of_lt_of_le A9.lt (Nat.le_of_eq g11.symm)))))
  have hph28 : ∀ c ∈ ([(own_q p2), (own_q p3)] : List Int32), ¬ c < 0 ∧ ¬ (255 : Int32) < c := (own_cS (own_rng_q p2) (own_cS (own_rng_q p3) own_c0))
  have hws_words : ∀ d ∈ StrChars.Road.words, d.before a0 Z = true := fun d hd => hw d (own_hws_words d hd)
  have Zh29 : n0 ≤ h20.size := (Nat.le_trans Z0 Kp21.1)
  have gh30 : n0 ≤ b9 := Nat.le_trans (Nat.le_trans Z0 Kp8.1) (Nat.le_of_eq g9.symm)
  have Old31 : Old Z n0 T7.heap := Old6.keep Kq7 all0
  have Old32 : Old Z n0 h9 := Old31.ext E9
  have Old33 : Old Z n0 h11 := Old32.ext E11
  have Old34 : Old Z n0 h15 := Old33.wr W15 gh17
  have Old35 : Old Z n0 h20 := Old34.wr W20 gh17
  obtain ⟨_, _, ⟨T36, L36, k36, n36⟩, -, X36, ⟨Lc36, hQ36, l36, y36, z36⟩, st36⟩ := X20.specialBack hx (y := (⟨"java/lang/String", "<init>", "([C)V"⟩ : MethodName)) rfl hown7 (mvT hZ7 (hw _ (List.mem_of_getElem? (i := 8) rfl))) (mvT hZ7 (hw _ (List.mem_of_getElem? (i := 9) rfl))) (mvT hZ7 (hw _ (List.mem_of_getElem? (i := 10) rfl))) (by decide) (StrChars.Road.backV (W := 1) hZ7 hws_words (kI := 4) (hw _ (List.mem_of_getElem? (i := 5) rfl)) (cs := ([(own_q p2), (own_q p3)] : List Int32)) (bs := ([(own_q p2), (own_q p3)] : List Int32).map (fun c => c.toInt8.toInt32)) (n := 2) gh30 Zh29 Eh23 Fh25 Fh27 Vh22 (O_CS.ext Old35.2) P_CS rfl rfl (by decide) (by decide) hph28 rfl (by decide) (by decide)) (g := (mkF m 147 #[.val (.int p1), .val (.int p2), .val (.int p3), .val (.int p4), .val (.int (own_md p1)), .val (.int (own_pk p2)), .val (.int (own_pk p3)), .val (.int (own_pk p4)), .unset, .unset, .unset, .unset] [(.ref b11), (.ref b9), (.ref b9)])) rfl (by rw [hml]; rfl) (Steps.refl _) (a := b9) (argsL := [(.ref b11)]) (rest := [(.ref b9)]) (lenOf own_pd14 rfl) rfl (by show 2 * 0 + _ ≤ _; exact Nat.le_of_eq rfl) (hb hby at_147) (fun _ _ => ⟨rfl, e20, (by decide : 8 + 1 ≤ _), (by decide : 90 + 2 ≤ _)⟩)
  dsimp only [Pt.U, Pt.locs, Pt.cells, Pt.slots] at X36 l36 y36 z36 st36 hQ36
  subst y36 z36
  obtain ⟨rfl, Nq36, Kq36, Eq36, Cq36, t36, kb36, gt36, szt36, nt36, Vq36, Bq36⟩ := hQ36
  have N36 : Fr n0 L36 := by rw [l36]; exact Fr.app N20 Nq36
  have Kp37 : Keep h0 T36.heap [] := Kp21.trans Kq36 (allS (Or.inr (Nat.le_trans Kp8.1 (Nat.le_of_eq g9.symm))) all0)
  have Old38 : Old Z n0 T36.heap := Old35.keep Kq36 (allS gh30 all0)
  obtain ⟨_, _, ⟨T39, L39, k39, n39⟩, -, X39, ⟨Lc39, hQ39, l39, y39, z39⟩, st39⟩ := Jvm.LawKit.callS X36 hx (y := (⟨"com/example/dragoman/dragoman/core/Language", "forCode", "(Ljava/lang/String;)Ljava/util/Optional;"⟩ : MethodName)) hown7 (mvT hZ7 (hw _ (List.mem_of_getElem? (i := 26) rfl))) (mvT hZ7 (hw _ (List.mem_of_getElem? (i := 27) rfl))) (mvT hZ7 (hw _ (List.mem_of_getElem? (i := 28) rfl))) (mvT hZ7 (hw _ (List.mem_of_getElem? (i := 29) rfl))) (by decide) (backOf (W := 0) (own_rm_fcO l Z a0 hw [] G1 G3 k_EMPTY k_ENGLISH s_ENGLISH t_ENGLISH kb_ENGLISH k_JAPANESE s_JAPANESE t_JAPANESE kb_JAPANESE k_CHINESE s_CHINESE t_CHINESE kb_CHINESE k_VALUES kv_VALUES gl b9 ([(own_q p2), (own_q p3)] : List Int32) t36 (kb36) T36.heap n0 (Nat.le_trans Z0 Kp37.1) Old38 Eq36 Vq36 Cq36 Bq36 hph28 (Nat.le_of_ble_eq_true rfl) (own_na hc1) (own_nb hc3) (own_na (own_cx hc2 (by decide)))) hZ7 (hw _ (List.mem_of_getElem? (i := 29) rfl)) (hw _ (List.mem_of_getElem? (i := 28) rfl)) (by decide) (by decide)) (g := (mkF m 234 #[.val (.int p1), .val (.int p2), .val (.int p3), .val (.int p4), .val (.int (own_md p1)), .val (.int (own_pk p2)), .val (.int (own_pk p3)), .val (.int (own_pk p4)), .val (.ref b9), .val (.int (2 : Int32)), .val .null, .unset] [(.ref b9)])) rfl (by rw [hml]; rfl) (argsL := [(.ref b9)]) (rest := []) (lenOf own_pd13 rfl) rfl (by show 2 * 0 + _ ≤ _; exact Nat.le_of_eq rfl) (hb hby at_234) (fun _ _ => ⟨rfl, rfl, (by decide : 9 + 1 ≤ _), (by decide : 92 + 3 ≤ _)⟩)
  dsimp only [Pt.U, Pt.locs, Pt.cells, Pt.slots] at X39 l39 y39 z39 st39 hQ39
  subst y39 z39
  obtain ⟨rfl, Nq39, Kq39⟩ := hQ39
  have N39 : Fr n0 L39 := by rw [l39]; exact Fr.app N36 Nq39
  have Kp40 : Keep h0 T39.heap [] := Kp37.trans Kq39 all0
  have Old41 : Old Z n0 T39.heap := Old38.keep Kq39 all0
  obtain ⟨cq42, kq42, q42a, q42b, q42c⟩ := isOf hZ7 rfl (E_EMPTY.ext Old41.2)
  obtain ⟨_, _, ⟨T42, L42, k42, n42⟩, -, X42, ⟨Lc42, hQ42, l42, y42, z42⟩, st42⟩ := X39.virtualBack hx (y := (⟨"java/util/Optional", "orElse", "(Ljava/lang/Object;)Ljava/lang/Object;"⟩ : MethodName)) (z := (⟨"java/util/Optional", "orElse", "(Ljava/lang/Object;)Ljava/lang/Object;"⟩ : MethodName)) hown7 (mvT hZ7 (hw _ (List.mem_of_getElem? (i := 66) rfl))) (mvT hZ7 (hw _ (List.mem_of_getElem? (i := 67) rfl))) (notFace_of_selects (args := #[]) (mvT hZ7 (hw _ (List.mem_of_getElem? (i := 69) rfl)))) (mvT hZ7 (hw _ (List.mem_of_getElem? (i := 69) rfl))) (mvT hZ7 (hw _ (List.mem_of_getElem? (i := 68) rfl))) (by decide) (backOf (W := 0) (own_rm_oeN l Z a0 hw [] G1 G3 k_EMPTY k_ENGLISH s_ENGLISH t_ENGLISH kb_ENGLISH k_JAPANESE s_JAPANESE t_JAPANESE kb_JAPANESE k_CHINESE s_CHINESE t_CHINESE kb_CHINESE k_VALUES kv_VALUES gl k_EMPTY T39.heap n0 (Nat.le_trans Z0 Kp40.1) (F_EMPTY.ext Old41.2)) hZ7 (hw _ (List.mem_of_getElem? (i := 70) rfl)) (hw _ (List.mem_of_getElem? (i := 63) rfl)) (by decide) (by decide)) q42a q42c (g := (mkF m 238 #[.val (.int p1), .val (.int p2), .val (.int p3), .val (.int p4), .val (.int (own_md p1)), .val (.int (own_pk p2)), .val (.int (own_pk p3)), .val (.int (own_pk p4)), .val (.ref b9), .val (.int (2 : Int32)), .val .null, .unset] [.null, (.ref k_EMPTY)])) rfl (by rw [hml]; rfl) (Steps.refl _) (argsL := [.null]) (rest := []) (lenOf own_pd4 rfl) rfl (by show 2 * 0 + _ ≤ _; exact Nat.le_of_eq rfl) (hb hby at_238) (fun _ _ => ⟨rfl, rfl, (by decide : 10 + 0 ≤ _), (by decide : 95 + 0 ≤ _)⟩)
  dsimp only [Pt.U, Pt.locs, Pt.cells, Pt.slots] at X42 l42 y42 z42 st42 hQ42
  subst y42 z42
  obtain ⟨rfl, Nq42, e42⟩ := hQ42
  have N42 : Fr n0 L42 := by rw [l42]; exact Fr.app N39 Nq42
  obtain ⟨fs, hr, hrun, hended, hREW⟩ := X42.leaveW hS7 (by rw [e42]; exact (Nat.le_trans (Nat.le_refl _) (Nat.le_trans (Nat.le_trans (Nat.le_trans (Nat.le_trans (Nat.le_trans E9.1 E11.1) (Keep.of_wr W15).1) (Keep.of_wr W20).1) Kq36.1) Kq39.1))) (v := some (.int (1 : Int32))) (fun h => by rw [Bd.returns] at h; cases h)
  refine ⟨_, _, pre0 _ ?_, hrun, hended, _, _, rfl, ?_, hREW.1, hREW.2.1, hREW.2.2.1, hREW.2.2.2.mono (by decide) (by decide)⟩
  · show Steps p.tables e below (s₁.setTop (mkF m 0 #[.val (.int p1), .val (.int p2), .val (.int p3), .val (.int p4), .unset, .unset, .unset, .unset, .unset, .unset, .unset, .unset] [])) _
    refine XS.iloadN X0.here hx rfl (hb hby at_0) rfl ?_
    show Steps p.tables e below (s₁.setTop (mkF m 1 #[.val (.int p1), .val (.int p2), .val (.int p3), .val (.int p4), .unset, .unset, .unset, .unset, .unset, .unset, .unset, .unset] [(.int p1)])) _
    refine XS.bipush X0.here hx rfl (hb hby at_1) ?_
    show Steps p.tables e below (s₁.setTop (mkF m 3 #[.val (.int p1), .val (.int p2), .val (.int p3), .val (.int p4), .unset, .unset, .unset, .unset, .unset, .unset, .unset, .unset] [(.int (7 : Int32)), (.int p1)])) _
    refine XS.iand X0.here hx rfl (hb hby at_3) rfl ?_
    show Steps p.tables e below (s₁.setTop (mkF m 4 #[.val (.int p1), .val (.int p2), .val (.int p3), .val (.int p4), .unset, .unset, .unset, .unset, .unset, .unset, .unset, .unset] [(.int (own_md p1))])) _
    refine XS.istore X0.here hx rfl (hb hby at_4) rfl (l' := #[.val (.int p1), .val (.int p2), .val (.int p3), .val (.int p4), .val (.int (own_md p1)), .unset, .unset, .unset, .unset, .unset, .unset, .unset]) rfl ?_
    show Steps p.tables e below (s₁.setTop (mkF m 6 #[.val (.int p1), .val (.int p2), .val (.int p3), .val (.int p4), .val (.int (own_md p1)), .unset, .unset, .unset, .unset, .unset, .unset, .unset] [])) _
    refine XS.iloadN X0.here hx rfl (hb hby at_6) rfl ?_
    show Steps p.tables e below (s₁.setTop (mkF m 7 #[.val (.int p1), .val (.int p2), .val (.int p3), .val (.int p4), .val (.int (own_md p1)), .unset, .unset, .unset, .unset, .unset, .unset, .unset] [(.int p2)])) _
    refine st1.trans ?_
    show Steps p.tables e below (T1.setTop (mkF m 10 #[.val (.int p1), .val (.int p2), .val (.int p3), .val (.int p4), .val (.int (own_md p1)), .unset, .unset, .unset, .unset, .unset, .unset, .unset] [(.int (own_pk p2))])) _
    refine XS.istore Xw1.here hx rfl (hb hby at_10) rfl (l' := #[.val (.int p1), .val (.int p2), .val (.int p3), .val (.int p4), .val (.int (own_md p1)), .val (.int (own_pk p2)), .unset, .unset, .unset, .unset, .unset, .unset]) rfl ?_
    show Steps p.tables e below (T1.setTop (mkF m 12 #[.val (.int p1), .val (.int p2), .val (.int p3), .val (.int p4), .val (.int (own_md p1)), .val (.int (own_pk p2)), .unset, .unset, .unset, .unset, .unset, .unset] [])) _
    refine XS.iloadN Xw1.here hx rfl (hb hby at_12) rfl ?_
    show Steps p.tables e below (T1.setTop (mkF m 13 #[.val (.int p1), .val (.int p2), .val (.int p3), .val (.int p4), .val (.int (own_md p1)), .val (.int (own_pk p2)), .unset, .unset, .unset, .unset, .unset, .unset] [(.int p3)])) _
    refine st4.trans ?_
    show Steps p.tables e below (T4.setTop (mkF m 16 #[.val (.int p1), .val (.int p2), .val (.int p3), .val (.int p4), .val (.int (own_md p1)), .val (.int (own_pk p2)), .unset, .unset, .unset, .unset, .unset, .unset] [(.int (own_pk p3))])) _
    refine XS.istore Xw4.here hx rfl (hb hby at_16) rfl (l' := #[.val (.int p1), .val (.int p2), .val (.int p3), .val (.int p4), .val (.int (own_md p1)), .val (.int (own_pk p2)), .val (.int (own_pk p3)), .unset, .unset, .unset, .unset, .unset]) rfl ?_
    show Steps p.tables e below (T4.setTop (mkF m 18 #[.val (.int p1), .val (.int p2), .val (.int p3), .val (.int p4), .val (.int (own_md p1)), .val (.int (own_pk p2)), .val (.int (own_pk p3)), .unset, .unset, .unset, .unset, .unset] [])) _
    refine XS.iloadN Xw4.here hx rfl (hb hby at_18) rfl ?_
    show Steps p.tables e below (T4.setTop (mkF m 19 #[.val (.int p1), .val (.int p2), .val (.int p3), .val (.int p4), .val (.int (own_md p1)), .val (.int (own_pk p2)), .val (.int (own_pk p3)), .unset, .unset, .unset, .unset, .unset] [(.int p4)])) _
    refine st7.trans ?_
    show Steps p.tables e below (T7.setTop (mkF m 22 #[.val (.int p1), .val (.int p2), .val (.int p3), .val (.int p4), .val (.int (own_md p1)), .val (.int (own_pk p2)), .val (.int (own_pk p3)), .unset, .unset, .unset, .unset, .unset] [(.int (own_pk p4))])) _
    refine XS.istore Xw7.here hx rfl (hb hby at_22) rfl (l' := #[.val (.int p1), .val (.int p2), .val (.int p3), .val (.int p4), .val (.int (own_md p1)), .val (.int (own_pk p2)), .val (.int (own_pk p3)), .val (.int (own_pk p4)), .unset, .unset, .unset, .unset]) rfl ?_
    show Steps p.tables e below (T7.setTop (mkF m 24 #[.val (.int p1), .val (.int p2), .val (.int p3), .val (.int p4), .val (.int (own_md p1)), .val (.int (own_pk p2)), .val (.int (own_pk p3)), .val (.int (own_pk p4)), .unset, .unset, .unset, .unset] [])) _
    refine XS.iload Xw7.here hx rfl (hb hby at_24) rfl ?_
    show Steps p.tables e below (T7.setTop (mkF m 26 #[.val (.int p1), .val (.int p2), .val (.int p3), .val (.int p4), .val (.int (own_md p1)), .val (.int (own_pk p2)), .val (.int (own_pk p3)), .val (.int (own_pk p4)), .unset, .unset, .unset, .unset] [(.int (own_md p1))])) _
    refine XS.iconst Xw7.here hx rfl (hb hby at_26) ?_
    show Steps p.tables e below (T7.setTop (mkF m 27 #[.val (.int p1), .val (.int p2), .val (.int p3), .val (.int p4), .val (.int (own_md p1)), .val (.int (own_pk p2)), .val (.int (own_pk p3)), .val (.int (own_pk p4)), .unset, .unset, .unset, .unset] [(.int (4 : Int32)), (.int (own_md p1))])) _
    refine XS.icmpYes Xw7.here hx rfl (pc0 := 27) (pc' := 39) rfl (hb hby at_27) rfl (feq (hk.1 : ¬ ((own_md p1) = (4 : Int32)))).2 (by decide) (by decide) ?_
    show Steps p.tables e below (T7.setTop (mkF m 39 #[.val (.int p1), .val (.int p2), .val (.int p3), .val (.int p4), .val (.int (own_md p1)), .val (.int (own_pk p2)), .val (.int (own_pk p3)), .val (.int (own_pk p4)), .unset, .unset, .unset, .unset] [])) _
    refine XS.iload Xw7.here hx rfl (hb hby at_39) rfl ?_
    show Steps p.tables e below (T7.setTop (mkF m 41 #[.val (.int p1), .val (.int p2), .val (.int p3), .val (.int p4), .val (.int (own_md p1)), .val (.int (own_pk p2)), .val (.int (own_pk p3)), .val (.int (own_pk p4)), .unset, .unset, .unset, .unset] [(.int (own_md p1))])) _
    refine XS.ifYes Xw7.here hx rfl (pc0 := 41) (pc' := 62) rfl (hb hby at_41) rfl ((if0 _ _).trans (feq (hk.2.1 : ¬ ((own_md p1) = (0 : Int32)))).2) (by decide) (by decide) ?_
    show Steps p.tables e below (T7.setTop (mkF m 62 #[.val (.int p1), .val (.int p2), .val (.int p3), .val (.int p4), .val (.int (own_md p1)), .val (.int (own_pk p2)), .val (.int (own_pk p3)), .val (.int (own_pk p4)), .unset, .unset, .unset, .unset] [])) _
    refine XS.iload Xw7.here hx rfl (hb hby at_62) rfl ?_
    show Steps p.tables e below (T7.setTop (mkF m 64 #[.val (.int p1), .val (.int p2), .val (.int p3), .val (.int p4), .val (.int (own_md p1)), .val (.int (own_pk p2)), .val (.int (own_pk p3)), .val (.int (own_pk p4)), .unset, .unset, .unset, .unset] [(.int (own_md p1))])) _
    refine XS.iconst Xw7.here hx rfl (hb hby at_64) ?_
    show Steps p.tables e below (T7.setTop (mkF m 65 #[.val (.int p1), .val (.int p2), .val (.int p3), .val (.int p4), .val (.int (own_md p1)), .val (.int (own_pk p2)), .val (.int (own_pk p3)), .val (.int (own_pk p4)), .unset, .unset, .unset, .unset] [(.int (1 : Int32)), (.int (own_md p1))])) _
    refine XS.icmpYes Xw7.here hx rfl (pc0 := 65) (pc' := 91) rfl (hb hby at_65) rfl (feq (hk.2.2.1 : ¬ ((own_md p1) = (1 : Int32)))).2 (by decide) (by decide) ?_
    show Steps p.tables e below (T7.setTop (mkF m 91 #[.val (.int p1), .val (.int p2), .val (.int p3), .val (.int p4), .val (.int (own_md p1)), .val (.int (own_pk p2)), .val (.int (own_pk p3)), .val (.int (own_pk p4)), .unset, .unset, .unset, .unset] [])) _
    refine XS.iload Xw7.here hx rfl (hb hby at_91) rfl ?_
    show Steps p.tables e below (T7.setTop (mkF m 93 #[.val (.int p1), .val (.int p2), .val (.int p3), .val (.int p4), .val (.int (own_md p1)), .val (.int (own_pk p2)), .val (.int (own_pk p3)), .val (.int (own_pk p4)), .unset, .unset, .unset, .unset] [(.int (own_md p1))])) _
    refine XS.iconst Xw7.here hx rfl (hb hby at_93) ?_
    show Steps p.tables e below (T7.setTop (mkF m 94 #[.val (.int p1), .val (.int p2), .val (.int p3), .val (.int p4), .val (.int (own_md p1)), .val (.int (own_pk p2)), .val (.int (own_pk p3)), .val (.int (own_pk p4)), .unset, .unset, .unset, .unset] [(.int (3 : Int32)), (.int (own_md p1))])) _
    refine XS.icmpYes Xw7.here hx rfl (pc0 := 94) (pc' := 130) rfl (hb hby at_94) rfl (feq (hk.2.2.2 : ¬ ((own_md p1) = (3 : Int32)))).2 (by decide) (by decide) ?_
    show Steps p.tables e below (T7.setTop (mkF m 130 #[.val (.int p1), .val (.int p2), .val (.int p3), .val (.int p4), .val (.int (own_md p1)), .val (.int (own_pk p2)), .val (.int (own_pk p3)), .val (.int (own_pk p4)), .unset, .unset, .unset, .unset] [])) _
    refine st9 _ ?_
    show Steps p.tables e below (T9.setTop (mkF m 133 #[.val (.int p1), .val (.int p2), .val (.int p3), .val (.int p4), .val (.int (own_md p1)), .val (.int (own_pk p2)), .val (.int (own_pk p3)), .val (.int (own_pk p4)), .unset, .unset, .unset, .unset] [(.ref b9)])) _
    refine XS.dup X9.here hx rfl (hb hby at_133) rfl rfl ?_
    show Steps p.tables e below (T9.setTop (mkF m 134 #[.val (.int p1), .val (.int p2), .val (.int p3), .val (.int p4), .val (.int (own_md p1)), .val (.int (own_pk p2)), .val (.int (own_pk p3)), .val (.int (own_pk p4)), .unset, .unset, .unset, .unset] [(.ref b9), (.ref b9)])) _
    refine XS.iconst X9.here hx rfl (hb hby at_134) ?_
    show Steps p.tables e below (T9.setTop (mkF m 135 #[.val (.int p1), .val (.int p2), .val (.int p3), .val (.int p4), .val (.int (own_md p1)), .val (.int (own_pk p2)), .val (.int (own_pk p3)), .val (.int (own_pk p4)), .unset, .unset, .unset, .unset] [(.int (2 : Int32)), (.ref b9), (.ref b9)])) _
    refine st11 _ ?_
    show Steps p.tables e below (T11.setTop (mkF m 137 #[.val (.int p1), .val (.int p2), .val (.int p3), .val (.int p4), .val (.int (own_md p1)), .val (.int (own_pk p2)), .val (.int (own_pk p3)), .val (.int (own_pk p4)), .unset, .unset, .unset, .unset] [(.ref b11), (.ref b9), (.ref b9)])) _
    refine XS.dup X11.here hx rfl (hb hby at_137) rfl rfl ?_
    show Steps p.tables e below (T11.setTop (mkF m 138 #[.val (.int p1), .val (.int p2), .val (.int p3), .val (.int p4), .val (.int (own_md p1)), .val (.int (own_pk p2)), .val (.int (own_pk p3)), .val (.int (own_pk p4)), .unset, .unset, .unset, .unset] [(.ref b11), (.ref b11), (.ref b9), (.ref b9)])) _
    refine XS.iconst X11.here hx rfl (hb hby at_138) ?_
    show Steps p.tables e below (T11.setTop (mkF m 139 #[.val (.int p1), .val (.int p2), .val (.int p3), .val (.int p4), .val (.int (own_md p1)), .val (.int (own_pk p2)), .val (.int (own_pk p3)), .val (.int (own_pk p4)), .unset, .unset, .unset, .unset] [(.int (0 : Int32)), (.ref b11), (.ref b11), (.ref b9), (.ref b9)])) _
    refine XS.iload X11.here hx rfl (hb hby at_139) rfl ?_
    show Steps p.tables e below (T11.setTop (mkF m 141 #[.val (.int p1), .val (.int p2), .val (.int p3), .val (.int p4), .val (.int (own_md p1)), .val (.int (own_pk p2)), .val (.int (own_pk p3)), .val (.int (own_pk p4)), .unset, .unset, .unset, .unset] [(.int (own_pk p2)), (.int (0 : Int32)), (.ref b11), (.ref b11), (.ref b9), (.ref b9)])) _
    refine st15 _ ?_
    show Steps p.tables e below (T15.setTop (mkF m 142 #[.val (.int p1), .val (.int p2), .val (.int p3), .val (.int p4), .val (.int (own_md p1)), .val (.int (own_pk p2)), .val (.int (own_pk p3)), .val (.int (own_pk p4)), .unset, .unset, .unset, .unset] [(.ref b11), (.ref b9), (.ref b9)])) _
    refine XS.dup X15.here hx rfl (hb hby at_142) rfl rfl ?_
    show Steps p.tables e below (T15.setTop (mkF m 143 #[.val (.int p1), .val (.int p2), .val (.int p3), .val (.int p4), .val (.int (own_md p1)), .val (.int (own_pk p2)), .val (.int (own_pk p3)), .val (.int (own_pk p4)), .unset, .unset, .unset, .unset] [(.ref b11), (.ref b11), (.ref b9), (.ref b9)])) _
    refine XS.iconst X15.here hx rfl (hb hby at_143) ?_
    show Steps p.tables e below (T15.setTop (mkF m 144 #[.val (.int p1), .val (.int p2), .val (.int p3), .val (.int p4), .val (.int (own_md p1)), .val (.int (own_pk p2)), .val (.int (own_pk p3)), .val (.int (own_pk p4)), .unset, .unset, .unset, .unset] [(.int (1 : Int32)), (.ref b11), (.ref b11), (.ref b9), (.ref b9)])) _
    refine XS.iload X15.here hx rfl (hb hby at_144) rfl ?_
    show Steps p.tables e below (T15.setTop (mkF m 146 #[.val (.int p1), .val (.int p2), .val (.int p3), .val (.int p4), .val (.int (own_md p1)), .val (.int (own_pk p2)), .val (.int (own_pk p3)), .val (.int (own_pk p4)), .unset, .unset, .unset, .unset] [(.int (own_pk p3)), (.int (1 : Int32)), (.ref b11), (.ref b11), (.ref b9), (.ref b9)])) _
    refine st20 _ ?_
    show Steps p.tables e below (T20.setTop (mkF m 147 #[.val (.int p1), .val (.int p2), .val (.int p3), .val (.int p4), .val (.int (own_md p1)), .val (.int (own_pk p2)), .val (.int (own_pk p3)), .val (.int (own_pk p4)), .unset, .unset, .unset, .unset] [(.ref b11), (.ref b9), (.ref b9)])) _
    refine st36.trans ?_
    show Steps p.tables e below (T36.setTop (mkF m 150 #[.val (.int p1), .val (.int p2), .val (.int p3), .val (.int p4), .val (.int (own_md p1)), .val (.int (own_pk p2)), .val (.int (own_pk p3)), .val (.int (own_pk p4)), .unset, .unset, .unset, .unset] [(.ref b9)])) _
    refine XS.astore X36.here hx rfl (hb hby at_150) rfl rfl (l' := #[.val (.int p1), .val (.int p2), .val (.int p3), .val (.int p4), .val (.int (own_md p1)), .val (.int (own_pk p2)), .val (.int (own_pk p3)), .val (.int (own_pk p4)), .val (.ref b9), .unset, .unset, .unset]) rfl ?_
    show Steps p.tables e below (T36.setTop (mkF m 152 #[.val (.int p1), .val (.int p2), .val (.int p3), .val (.int p4), .val (.int (own_md p1)), .val (.int (own_pk p2)), .val (.int (own_pk p3)), .val (.int (own_pk p4)), .val (.ref b9), .unset, .unset, .unset] [])) _
    refine XS.iconst X36.here hx rfl (hb hby at_152) ?_
    show Steps p.tables e below (T36.setTop (mkF m 153 #[.val (.int p1), .val (.int p2), .val (.int p3), .val (.int p4), .val (.int (own_md p1)), .val (.int (own_pk p2)), .val (.int (own_pk p3)), .val (.int (own_pk p4)), .val (.ref b9), .unset, .unset, .unset] [(.int (2 : Int32))])) _
    refine XS.istore X36.here hx rfl (hb hby at_153) rfl (l' := #[.val (.int p1), .val (.int p2), .val (.int p3), .val (.int p4), .val (.int (own_md p1)), .val (.int (own_pk p2)), .val (.int (own_pk p3)), .val (.int (own_pk p4)), .val (.ref b9), .val (.int (2 : Int32)), .unset, .unset]) rfl ?_
    show Steps p.tables e below (T36.setTop (mkF m 155 #[.val (.int p1), .val (.int p2), .val (.int p3), .val (.int p4), .val (.int (own_md p1)), .val (.int (own_pk p2)), .val (.int (own_pk p3)), .val (.int (own_pk p4)), .val (.ref b9), .val (.int (2 : Int32)), .unset, .unset] [])) _
    refine XS.aconstNull X36.here hx rfl (hb hby at_155) ?_
    show Steps p.tables e below (T36.setTop (mkF m 156 #[.val (.int p1), .val (.int p2), .val (.int p3), .val (.int p4), .val (.int (own_md p1)), .val (.int (own_pk p2)), .val (.int (own_pk p3)), .val (.int (own_pk p4)), .val (.ref b9), .val (.int (2 : Int32)), .unset, .unset] [.null])) _
    refine XS.astore X36.here hx rfl (hb hby at_156) rfl rfl (l' := #[.val (.int p1), .val (.int p2), .val (.int p3), .val (.int p4), .val (.int (own_md p1)), .val (.int (own_pk p2)), .val (.int (own_pk p3)), .val (.int (own_pk p4)), .val (.ref b9), .val (.int (2 : Int32)), .val .null, .unset]) rfl ?_
    show Steps p.tables e below (T36.setTop (mkF m 158 #[.val (.int p1), .val (.int p2), .val (.int p3), .val (.int p4), .val (.int (own_md p1)), .val (.int (own_pk p2)), .val (.int (own_pk p3)), .val (.int (own_pk p4)), .val (.ref b9), .val (.int (2 : Int32)), .val .null, .unset] [])) _
    refine XS.aload X36.here hx rfl (hb hby at_158) rfl rfl ?_
    show Steps p.tables e below (T36.setTop (mkF m 160 #[.val (.int p1), .val (.int p2), .val (.int p3), .val (.int p4), .val (.int (own_md p1)), .val (.int (own_pk p2)), .val (.int (own_pk p3)), .val (.int (own_pk p4)), .val (.ref b9), .val (.int (2 : Int32)), .val .null, .unset] [(.ref b9)])) _
    refine XS.ifnullNo X36.here hx rfl (hb hby at_160) rfl ?_
    show Steps p.tables e below (T36.setTop (mkF m 163 #[.val (.int p1), .val (.int p2), .val (.int p3), .val (.int p4), .val (.int (own_md p1)), .val (.int (own_pk p2)), .val (.int (own_pk p3)), .val (.int (own_pk p4)), .val (.ref b9), .val (.int (2 : Int32)), .val .null, .unset] [])) _
    refine XS.iload X36.here hx rfl (hb hby at_163) rfl ?_
    show Steps p.tables e below (T36.setTop (mkF m 165 #[.val (.int p1), .val (.int p2), .val (.int p3), .val (.int p4), .val (.int (own_md p1)), .val (.int (own_pk p2)), .val (.int (own_pk p3)), .val (.int (own_pk p4)), .val (.ref b9), .val (.int (2 : Int32)), .val .null, .unset] [(.int (2 : Int32))])) _
    refine XS.iconst X36.here hx rfl (hb hby at_165) ?_
    show Steps p.tables e below (T36.setTop (mkF m 166 #[.val (.int p1), .val (.int p2), .val (.int p3), .val (.int p4), .val (.int (own_md p1)), .val (.int (own_pk p2)), .val (.int (own_pk p3)), .val (.int (own_pk p4)), .val (.ref b9), .val (.int (2 : Int32)), .val .null, .unset] [(.int (2 : Int32)), (.int (2 : Int32))])) _
    refine XS.icmpNo X36.here hx rfl (hb hby at_166) rfl (teq (rfl : (2 : Int32) = (2 : Int32))).2 ?_
    show Steps p.tables e below (T36.setTop (mkF m 169 #[.val (.int p1), .val (.int p2), .val (.int p3), .val (.int p4), .val (.int (own_md p1)), .val (.int (own_pk p2)), .val (.int (own_pk p3)), .val (.int (own_pk p4)), .val (.ref b9), .val (.int (2 : Int32)), .val .null, .unset] [])) _
    refine XS.iload X36.here hx rfl (hb hby at_169) rfl ?_
    show Steps p.tables e below (T36.setTop (mkF m 171 #[.val (.int p1), .val (.int p2), .val (.int p3), .val (.int p4), .val (.int (own_md p1)), .val (.int (own_pk p2)), .val (.int (own_pk p3)), .val (.int (own_pk p4)), .val (.ref b9), .val (.int (2 : Int32)), .val .null, .unset] [(.int (own_pk p2))])) _
    refine XS.bipush X36.here hx rfl (hb hby at_171) ?_
    show Steps p.tables e below (T36.setTop (mkF m 173 #[.val (.int p1), .val (.int p2), .val (.int p3), .val (.int p4), .val (.int (own_md p1)), .val (.int (own_pk p2)), .val (.int (own_pk p3)), .val (.int (own_pk p4)), .val (.ref b9), .val (.int (2 : Int32)), .val .null, .unset] [(.int (101 : Int32)), (.int (own_pk p2))])) _
    refine XS.icmpYes X36.here hx rfl (pc0 := 173) (pc' := 191) rfl (hb hby at_173) rfl (feq hc1).2 (by decide) (by decide) ?_
    show Steps p.tables e below (T36.setTop (mkF m 191 #[.val (.int p1), .val (.int p2), .val (.int p3), .val (.int p4), .val (.int (own_md p1)), .val (.int (own_pk p2)), .val (.int (own_pk p3)), .val (.int (own_pk p4)), .val (.ref b9), .val (.int (2 : Int32)), .val .null, .unset] [])) _
    refine XS.iload X36.here hx rfl (hb hby at_191) rfl ?_
    show Steps p.tables e below (T36.setTop (mkF m 193 #[.val (.int p1), .val (.int p2), .val (.int p3), .val (.int p4), .val (.int (own_md p1)), .val (.int (own_pk p2)), .val (.int (own_pk p3)), .val (.int (own_pk p4)), .val (.ref b9), .val (.int (2 : Int32)), .val .null, .unset] [(.int (own_pk p2))])) _
    refine XS.bipush X36.here hx rfl (hb hby at_193) ?_
    show Steps p.tables e below (T36.setTop (mkF m 195 #[.val (.int p1), .val (.int p2), .val (.int p3), .val (.int p4), .val (.int (own_md p1)), .val (.int (own_pk p2)), .val (.int (own_pk p3)), .val (.int (own_pk p4)), .val (.ref b9), .val (.int (2 : Int32)), .val .null, .unset] [(.int (106 : Int32)), (.int (own_pk p2))])) _
    refine XS.icmpNo X36.here hx rfl (hb hby at_195) rfl (teq hc2).2 ?_
    show Steps p.tables e below (T36.setTop (mkF m 198 #[.val (.int p1), .val (.int p2), .val (.int p3), .val (.int p4), .val (.int (own_md p1)), .val (.int (own_pk p2)), .val (.int (own_pk p3)), .val (.int (own_pk p4)), .val (.ref b9), .val (.int (2 : Int32)), .val .null, .unset] [])) _
    refine XS.iload X36.here hx rfl (hb hby at_198) rfl ?_
    show Steps p.tables e below (T36.setTop (mkF m 200 #[.val (.int p1), .val (.int p2), .val (.int p3), .val (.int p4), .val (.int (own_md p1)), .val (.int (own_pk p2)), .val (.int (own_pk p3)), .val (.int (own_pk p4)), .val (.ref b9), .val (.int (2 : Int32)), .val .null, .unset] [(.int (own_pk p3))])) _
    refine XS.bipush X36.here hx rfl (hb hby at_200) ?_
    show Steps p.tables e below (T36.setTop (mkF m 202 #[.val (.int p1), .val (.int p2), .val (.int p3), .val (.int p4), .val (.int (own_md p1)), .val (.int (own_pk p2)), .val (.int (own_pk p3)), .val (.int (own_pk p4)), .val (.ref b9), .val (.int (2 : Int32)), .val .null, .unset] [(.int (97 : Int32)), (.int (own_pk p3))])) _
    refine XS.icmpYes X36.here hx rfl (pc0 := 202) (pc' := 213) rfl (hb hby at_202) rfl (feq hc3).2 (by decide) (by decide) ?_
    show Steps p.tables e below (T36.setTop (mkF m 213 #[.val (.int p1), .val (.int p2), .val (.int p3), .val (.int p4), .val (.int (own_md p1)), .val (.int (own_pk p2)), .val (.int (own_pk p3)), .val (.int (own_pk p4)), .val (.ref b9), .val (.int (2 : Int32)), .val .null, .unset] [])) _
    refine XS.iload X36.here hx rfl (hb hby at_213) rfl ?_
    show Steps p.tables e below (T36.setTop (mkF m 215 #[.val (.int p1), .val (.int p2), .val (.int p3), .val (.int p4), .val (.int (own_md p1)), .val (.int (own_pk p2)), .val (.int (own_pk p3)), .val (.int (own_pk p4)), .val (.ref b9), .val (.int (2 : Int32)), .val .null, .unset] [(.int (own_pk p2))])) _
    refine XS.bipush X36.here hx rfl (hb hby at_215) ?_
    show Steps p.tables e below (T36.setTop (mkF m 217 #[.val (.int p1), .val (.int p2), .val (.int p3), .val (.int p4), .val (.int (own_md p1)), .val (.int (own_pk p2)), .val (.int (own_pk p3)), .val (.int (own_pk p4)), .val (.ref b9), .val (.int (2 : Int32)), .val .null, .unset] [(.int (122 : Int32)), (.int (own_pk p2))])) _
    refine XS.icmpYes X36.here hx rfl (pc0 := 217) (pc' := 232) rfl (hb hby at_217) rfl (feq (own_cx hc2 (by decide))).2 (by decide) (by decide) ?_
    show Steps p.tables e below (T36.setTop (mkF m 232 #[.val (.int p1), .val (.int p2), .val (.int p3), .val (.int p4), .val (.int (own_md p1)), .val (.int (own_pk p2)), .val (.int (own_pk p3)), .val (.int (own_pk p4)), .val (.ref b9), .val (.int (2 : Int32)), .val .null, .unset] [])) _
    refine XS.aload X36.here hx rfl (hb hby at_232) rfl rfl ?_
    show Steps p.tables e below (T36.setTop (mkF m 234 #[.val (.int p1), .val (.int p2), .val (.int p3), .val (.int p4), .val (.int (own_md p1)), .val (.int (own_pk p2)), .val (.int (own_pk p3)), .val (.int (own_pk p4)), .val (.ref b9), .val (.int (2 : Int32)), .val .null, .unset] [(.ref b9)])) _
    refine st39 _ ?_
    show Steps p.tables e below (T39.setTop (mkF m 237 #[.val (.int p1), .val (.int p2), .val (.int p3), .val (.int p4), .val (.int (own_md p1)), .val (.int (own_pk p2)), .val (.int (own_pk p3)), .val (.int (own_pk p4)), .val (.ref b9), .val (.int (2 : Int32)), .val .null, .unset] [(.ref k_EMPTY)])) _
    refine XS.aconstNull X39.here hx rfl (hb hby at_237) ?_
    show Steps p.tables e below (T39.setTop (mkF m 238 #[.val (.int p1), .val (.int p2), .val (.int p3), .val (.int p4), .val (.int (own_md p1)), .val (.int (own_pk p2)), .val (.int (own_pk p3)), .val (.int (own_pk p4)), .val (.ref b9), .val (.int (2 : Int32)), .val .null, .unset] [.null, (.ref k_EMPTY)])) _
    refine st42.trans ?_
    show Steps p.tables e below (T42.setTop (mkF m 241 #[.val (.int p1), .val (.int p2), .val (.int p3), .val (.int p4), .val (.int (own_md p1)), .val (.int (own_pk p2)), .val (.int (own_pk p3)), .val (.int (own_pk p4)), .val (.ref b9), .val (.int (2 : Int32)), .val .null, .unset] [.null])) _
    refine X42.checkcastNull hx (g := (mkF m 241 #[.val (.int p1), .val (.int p2), .val (.int p3), .val (.int p4), .val (.int (own_md p1)), .val (.int (own_pk p2)), .val (.int (own_pk p3)), .val (.int (own_pk p4)), .val (.ref b9), .val (.int (2 : Int32)), .val .null, .unset] [.null])) rfl rfl (hb hby at_241) _ ?_
    show Steps p.tables e below (T42.setTop (mkF m 244 #[.val (.int p1), .val (.int p2), .val (.int p3), .val (.int p4), .val (.int (own_md p1)), .val (.int (own_pk p2)), .val (.int (own_pk p3)), .val (.int (own_pk p4)), .val (.ref b9), .val (.int (2 : Int32)), .val .null, .unset] [.null])) _
    refine XS.astore X42.here hx rfl (hb hby at_244) rfl rfl (l' := #[.val (.int p1), .val (.int p2), .val (.int p3), .val (.int p4), .val (.int (own_md p1)), .val (.int (own_pk p2)), .val (.int (own_pk p3)), .val (.int (own_pk p4)), .val (.ref b9), .val (.int (2 : Int32)), .val .null, .val .null]) rfl ?_
    show Steps p.tables e below (T42.setTop (mkF m 246 #[.val (.int p1), .val (.int p2), .val (.int p3), .val (.int p4), .val (.int (own_md p1)), .val (.int (own_pk p2)), .val (.int (own_pk p3)), .val (.int (own_pk p4)), .val (.ref b9), .val (.int (2 : Int32)), .val .null, .val .null] [])) _
    refine XS.aload X42.here hx rfl (hb hby at_246) rfl rfl ?_
    show Steps p.tables e below (T42.setTop (mkF m 248 #[.val (.int p1), .val (.int p2), .val (.int p3), .val (.int p4), .val (.int (own_md p1)), .val (.int (own_pk p2)), .val (.int (own_pk p3)), .val (.int (own_pk p4)), .val (.ref b9), .val (.int (2 : Int32)), .val .null, .val .null] [.null])) _
    refine XS.aload X42.here hx rfl (hb hby at_248) rfl rfl ?_
    show Steps p.tables e below (T42.setTop (mkF m 250 #[.val (.int p1), .val (.int p2), .val (.int p3), .val (.int p4), .val (.int (own_md p1)), .val (.int (own_pk p2)), .val (.int (own_pk p3)), .val (.int (own_pk p4)), .val (.ref b9), .val (.int (2 : Int32)), .val .null, .val .null] [.null, .null])) _
    refine Jvm.RoadKit.acmp (g := (mkF m 250 #[.val (.int p1), .val (.int p2), .val (.int p3), .val (.int p4), .val (.int (own_md p1)), .val (.int (own_pk p2)), .val (.int (own_pk p3)), .val (.int (own_pk p4)), .val (.ref b9), .val (.int (2 : Int32)), .val .null, .val .null] [.null, .null])) X42 hx rfl rfl rfl (pc0 := 250) (pc' := 253) (same := true) rfl (hb hby at_250) rfl (decide_eq_true rfl) (by decide) (by decide) ?_
    show Steps p.tables e below (T42.setTop (mkF m 253 #[.val (.int p1), .val (.int p2), .val (.int p3), .val (.int p4), .val (.int (own_md p1)), .val (.int (own_pk p2)), .val (.int (own_pk p3)), .val (.int (own_pk p4)), .val (.ref b9), .val (.int (2 : Int32)), .val .null, .val .null] [])) _
    refine XS.iconst X42.here hx rfl (hb hby at_253) ?_
    show Steps p.tables e below (T42.setTop (mkF m 254 #[.val (.int p1), .val (.int p2), .val (.int p3), .val (.int p4), .val (.int (own_md p1)), .val (.int (own_pk p2)), .val (.int (own_pk p3)), .val (.int (own_pk p4)), .val (.ref b9), .val (.int (2 : Int32)), .val .null, .val .null] [(.int (1 : Int32))])) _
    refine XS.goto X42.here hx rfl (pc0 := 254) (pc' := 258) rfl (hb hby at_254) (by decide) (by decide) ?_
    show Steps p.tables e below (T42.setTop (mkF m 258 #[.val (.int p1), .val (.int p2), .val (.int p3), .val (.int p4), .val (.int (own_md p1)), .val (.int (own_pk p2)), .val (.int (own_pk p3)), .val (.int (own_pk p4)), .val (.ref b9), .val (.int (2 : Int32)), .val .null, .val .null] [(.int (1 : Int32))])) _
    exact retN X42 hx (t := .boolean) Bd.returns (by simp) (hb hby at_258) hr
  · show own_Qlaw h0 n0 _ T42.heap _
    exact ⟨rfl, N42⟩
theorem own_eflaw2tff (m : MethodId) (p1 : Int32) (p2 : Int32) (p3 : Int32) (p4 : Int32) : entryFrame m #[(.int p1), (.int p2), (.int p3), (.int p4)] maxLocals = mkF m 0 #[.val (.int p1), .val (.int p2), .val (.int p3), .val (.int p4), .unset, .unset, .unset, .unset, .unset, .unset, .unset, .unset] [] := by first | (simp [entryFrame, mkF, argsToLocals, Value.category, maxLocals]; done) | rfl
set_option maxRecDepth 65536 in
set_option maxHeartbeats 40000000 in
theorem own_law2tff (l : Launch) (Z : State) (a0 : Array Value) (hw : ∀ d ∈ tables_1, d.before a0 Z = true) (ws : List Jvm.Cond) (G1 : Int32) (G3 : Value) (k_EMPTY : Addr) (k_ENGLISH : Addr) (s_ENGLISH : Addr) (t_ENGLISH : Addr) (kb_ENGLISH : ClassId) (k_JAPANESE : Addr) (s_JAPANESE : Addr) (t_JAPANESE : Addr) (kb_JAPANESE : ClassId) (k_CHINESE : Addr) (s_CHINESE : Addr) (t_CHINESE : Addr) (kb_CHINESE : ClassId) (k_VALUES : Addr) (kv_VALUES : ClassId) (gl : own_Glob Z G1 G3 k_EMPTY k_ENGLISH s_ENGLISH t_ENGLISH kb_ENGLISH k_JAPANESE s_JAPANESE t_JAPANESE kb_JAPANESE k_CHINESE s_CHINESE t_CHINESE kb_CHINESE k_VALUES kv_VALUES) (p1 : Int32) (p2 : Int32) (p3 : Int32) (p4 : Int32) (h0 : Heap) (n0 : Nat) (Z0 : n0 ≤ h0.size) (X00 : Old Z n0 h0) (hc1 : ¬ ((own_pk p2) = (101 : Int32))) (hc2 : (own_pk p2) = (106 : Int32)) (hc3 : (own_pk p3) = (97 : Int32)) (hk : ¬ own_md p1 = 4 ∧ ¬ own_md p1 = 0 ∧ ¬ own_md p1 = 1 ∧ ¬ own_md p1 = 3) :
    MetFree l x (head1 (Jvm.Cond.code x code maxLocals ret :: ws) room_1) (fun a U => a = #[(.int p1), (.int p2), (.int p3), (.int p4)] ∧ Z.Warmed39 U.vm ∧ U.heap = h0 ∧ CHv Z consts_1 U.vm h0) (fun _ _ _ _ _ => True) (fun _ U o U' => ∃ v L, o = .returned v ∧ own_Qlaw h0 n0 v U'.heap L ∧ ReturnedEndW U o U' L room_1.cells room_1.slots) := by
  refine MetFree.of_bodySF (plainFor_of_name own_pn8) hisR ?_
  intro p e s m args below meth c s₁ Bd hml0 hP hK
  obtain ⟨rfl, hZ, hh, hCH⟩ := hP
  obtain ⟨O_CS, P_CS, O_SI, P_SI, O_EMPTY, E_EMPTY, F_EMPTY, O_ENGLISH, E_ENGLISH, Fs_ENGLISH, Es_ENGLISH, Fc_ENGLISH, Fv_ENGLISH, V_ENGLISH, O_JAPANESE, E_JAPANESE, Fs_JAPANESE, Es_JAPANESE, Fc_JAPANESE, Fv_JAPANESE, V_JAPANESE, O_CHINESE, E_CHINESE, Fs_CHINESE, Es_CHINESE, Fc_CHINESE, Fv_CHINESE, V_CHINESE, O_VALUES, E_VALUES, V_VALUES⟩ := id gl
  have hx := Bd.exec
  have hby := Bd.bytes
  have hml : c.maxLocals = 12 := hml0
  have hown : s.vm.findClass "com/example/dragoman/dragoman/core/LanguageForCodePinLaw" = some m.cls := findClass_of_methodNamed Bd.named
  have hnm := (name_of_methodNamed Bd.named Bd.method).1
  have X0 : Stand p l e room_1 s m #[(.int p1), (.int p2), (.int p3), (.int p4)] below meth c s₁ [] 0 0 := Stand.of_body Bd
  have e0 : s₁.heap = h0 := by rw [← hh, Bd.state]; rfl
  have N0 := Fr.nil n0
  have pre0 : ∀ t, Steps p.tables e below (s₁.setTop (mkF m 0 #[.val (.int p1), .val (.int p2), .val (.int p3), .val (.int p4), .unset, .unset, .unset, .unset, .unset, .unset, .unset, .unset] [])) t → Steps p.tables e below (s₁.setTop (entryFrame m #[(.int p1), (.int p2), (.int p3), (.int p4)] maxLocals)) t := fun t k => castTop (own_eflaw2tff m p1 p2 p3 p4) k
  obtain ⟨_, _, ⟨T1, L1, k1, n1⟩, -, X1, hSq1, hgr1, ⟨Lc1, hQ1, l1, y1, z1, hCr1⟩, st1⟩ := callSS X0 hx (y := (⟨"com/example/dragoman/dragoman/core/LanguageForCodePinLaw", "pick", "(I)C"⟩ : MethodName)) hown (mvT hZ (hw _ (List.mem_of_getElem? (i := 0) rfl))) (mvT hZ (hw _ (List.mem_of_getElem? (i := 1) rfl))) (mvT hZ (hw _ (List.mem_of_getElem? (i := 2) rfl))) (mvT hZ (hw _ (List.mem_of_getElem? (i := 3) rfl))) (by decide) (backOfSH (s := s) (vm0 := s.vm) (W := 0) (own_rm_pk l Z a0 hw [] G1 G3 k_EMPTY k_ENGLISH s_ENGLISH t_ENGLISH kb_ENGLISH k_JAPANESE s_JAPANESE t_JAPANESE kb_JAPANESE k_CHINESE s_CHINESE t_CHINESE kb_CHINESE k_VALUES kv_VALUES gl p2 h0 n0 Z0 X00 ) hZ (hw _ (List.mem_of_getElem? (i := 3) rfl)) (hw _ (List.mem_of_getElem? (i := 2) rfl)) (by decide) (by decide) (own_EW hw) hCH) (g := (mkF m 7 #[.val (.int p1), .val (.int p2), .val (.int p3), .val (.int p4), .val (.int (own_md p1)), .unset, .unset, .unset, .unset, .unset, .unset, .unset] [(.int p2)])) rfl (by rw [hml]; rfl) (argsL := [(.int p2)]) (rest := []) (lenOf own_pd7 rfl) rfl (by show 2 * 0 + _ ≤ _; exact Nat.le_of_eq rfl) (hb hby at_7) (fun _ _ => ⟨rfl, e0, (by decide : 0 + 2 ≤ _), (by decide : 0 + 28 ≤ _)⟩)
  dsimp only [Pt.U, Pt.locs, Pt.cells, Pt.slots] at X1 l1 y1 z1 st1 hQ1 hSq1 hgr1 hCr1
  subst y1 z1
  obtain ⟨Xw1, hS1, hZ1, hown1⟩ := rebS (vm0 := s.vm) ((State.WarmedH.refl s).since 0) (by rw [e0]; exact (Nat.zero_le _)) X1 hSq1 hgr1 hZ hown
  obtain ⟨rfl, Nq1, Kq1⟩ := hQ1
  have N1 : Fr n0 L1 := by rw [l1]; exact Fr.app N0 Nq1
  have Kp2 : Keep h0 T1.heap [] := (Keep.refl h0 []).trans Kq1 all0
  have Old3 : Old Z n0 T1.heap := X00.keep Kq1 all0
  obtain ⟨_, _, ⟨T4, L4, k4, n4⟩, -, X4, hSq4, hgr4, ⟨Lc4, hQ4, l4, y4, z4, hCr4⟩, st4⟩ := callSS Xw1 hx (y := (⟨"com/example/dragoman/dragoman/core/LanguageForCodePinLaw", "pick", "(I)C"⟩ : MethodName)) hown1 (mvT hZ1 (hw _ (List.mem_of_getElem? (i := 0) rfl))) (mvT hZ1 (hw _ (List.mem_of_getElem? (i := 1) rfl))) (mvT hZ1 (hw _ (List.mem_of_getElem? (i := 2) rfl))) (mvT hZ1 (hw _ (List.mem_of_getElem? (i := 3) rfl))) (by decide) (backOfSH (s := s) (vm0 := T1.vm) (W := 0) (own_rm_pk l Z a0 hw [] G1 G3 k_EMPTY k_ENGLISH s_ENGLISH t_ENGLISH kb_ENGLISH k_JAPANESE s_JAPANESE t_JAPANESE kb_JAPANESE k_CHINESE s_CHINESE t_CHINESE kb_CHINESE k_VALUES kv_VALUES gl p3 T1.heap n0 (Nat.le_trans Z0 Kp2.1) Old3 ) hZ1 (hw _ (List.mem_of_getElem? (i := 3) rfl)) (hw _ (List.mem_of_getElem? (i := 2) rfl)) (by decide) (by decide) (own_EW hw) hCr1.1) (g := (mkF m 13 #[.val (.int p1), .val (.int p2), .val (.int p3), .val (.int p4), .val (.int (own_md p1)), .val (.int (own_pk p2)), .unset, .unset, .unset, .unset, .unset, .unset] [(.int p3)])) rfl (by rw [hml]; rfl) (argsL := [(.int p3)]) (rest := []) (lenOf own_pd7 rfl) rfl (by show 2 * 0 + _ ≤ _; exact Nat.le_of_eq rfl) (hb hby at_13) (fun _ _ => ⟨rfl, rfl, (by decide : 2 + 2 ≤ _), (by decide : 28 + 28 ≤ _)⟩)
  dsimp only [Pt.U, Pt.locs, Pt.cells, Pt.slots] at X4 l4 y4 z4 st4 hQ4 hSq4 hgr4 hCr4
  subst y4 z4
  obtain ⟨Xw4, hS4, hZ4, hown4⟩ := rebS (vm0 := T1.vm) hS1 (Nat.le_refl _) X4 hSq4 hgr4 hZ1 hown1
  obtain ⟨rfl, Nq4, Kq4⟩ := hQ4
  have N4 : Fr n0 L4 := by rw [l4]; exact Fr.app N1 Nq4
  have Kp5 : Keep h0 T4.heap [] := Kp2.trans Kq4 all0
  have Old6 : Old Z n0 T4.heap := Old3.keep Kq4 all0
  obtain ⟨_, _, ⟨T7, L7, k7, n7⟩, -, X7, hSq7, hgr7, ⟨Lc7, hQ7, l7, y7, z7, hCr7⟩, st7⟩ := callSS Xw4 hx (y := (⟨"com/example/dragoman/dragoman/core/LanguageForCodePinLaw", "pick", "(I)C"⟩ : MethodName)) hown4 (mvT hZ4 (hw _ (List.mem_of_getElem? (i := 0) rfl))) (mvT hZ4 (hw _ (List.mem_of_getElem? (i := 1) rfl))) (mvT hZ4 (hw _ (List.mem_of_getElem? (i := 2) rfl))) (mvT hZ4 (hw _ (List.mem_of_getElem? (i := 3) rfl))) (by decide) (backOfSH (s := s) (vm0 := T4.vm) (W := 0) (own_rm_pk l Z a0 hw [] G1 G3 k_EMPTY k_ENGLISH s_ENGLISH t_ENGLISH kb_ENGLISH k_JAPANESE s_JAPANESE t_JAPANESE kb_JAPANESE k_CHINESE s_CHINESE t_CHINESE kb_CHINESE k_VALUES kv_VALUES gl p4 T4.heap n0 (Nat.le_trans Z0 Kp5.1) Old6 ) hZ4 (hw _ (List.mem_of_getElem? (i := 3) rfl)) (hw _ (List.mem_of_getElem? (i := 2) rfl)) (by decide) (by decide) (own_EW hw) hCr4.1) (g := (mkF m 19 #[.val (.int p1), .val (.int p2), .val (.int p3), .val (.int p4), .val (.int (own_md p1)), .val (.int (own_pk p2)), .val (.int (own_pk p3)), .unset, .unset, .unset, .unset, .unset] [(.int p4)])) rfl (by rw [hml]; rfl) (argsL := [(.int p4)]) (rest := []) (lenOf own_pd7 rfl) rfl (by show 2 * 0 + _ ≤ _; exact Nat.le_of_eq rfl) (hb hby at_19) (fun _ _ => ⟨rfl, rfl, (by decide : 4 + 2 ≤ _), (by decide : 56 + 28 ≤ _)⟩)
  dsimp only [Pt.U, Pt.locs, Pt.cells, Pt.slots] at X7 l7 y7 z7 st7 hQ7 hSq7 hgr7 hCr7
  subst y7 z7
  obtain ⟨Xw7, hS7, hZ7, hown7⟩ := rebS (vm0 := T4.vm) hS4 (Nat.le_refl _) X7 hSq7 hgr7 hZ4 hown4
  obtain ⟨rfl, Nq7, Kq7⟩ := hQ7
  have N7 : Fr n0 L7 := by rw [l7]; exact Fr.app N4 Nq7
  have Kp8 : Keep h0 T7.heap [] := Kp5.trans Kq7 all0
  obtain ⟨T9, h9, X9, e9, E9, A9, D9, U9, st9⟩ := newO Xw7 hx hZ7 hown7 (hw _ (List.mem_of_getElem? (i := 4) rfl)) (hw _ (List.mem_of_getElem? (i := 5) rfl)) (hw _ (List.mem_of_getElem? (i := 6) rfl)) rfl (g := (mkF m 130 #[.val (.int p1), .val (.int p2), .val (.int p3), .val (.int p4), .val (.int (own_md p1)), .val (.int (own_pk p2)), .val (.int (own_pk p3)), .val (.int (own_pk p4)), .unset, .unset, .unset, .unset] [])) rfl (hb hby at_130) (by decide) (by decide)
  obtain ⟨b9, g9⟩ : ∃ z, z = T7.heap.size := ⟨_, rfl⟩
  rw [← g9] at A9 D9 U9 st9
  have Kp10 : Keep h0 h9 [] := Kp8.ext E9
  obtain ⟨T11, h11, k11, X11, e11, E11, A11, st11⟩ := newP X9 hx hZ7 (hw _ (List.mem_of_getElem? (i := 7) rfl)) e9 (g := (mkF m 135 #[.val (.int p1), .val (.int p2), .val (.int p3), .val (.int p4), .val (.int (own_md p1)), .val (.int (own_pk p2)), .val (.int (own_pk p3)), .val (.int (own_pk p4)), .unset, .unset, .unset, .unset] [(.int (2 : Int32)), (.ref b9), (.ref b9)])) rfl (hb hby at_135) rfl (by decide) (cap := 2) (by decide) (by decide) (by decide) (by decide)
  obtain ⟨b11, g11⟩ : ∃ z, z = h9.size := ⟨_, rfl⟩
  rw [← g11] at A11 st11
  have Kp12 : Keep h0 h11 [] := Kp10.ext E11
  have Vh13 : Arv Z h11 b11 k11 .char (2 : Int32) [(.int (0 : Int32)), (.int (0 : Int32))] (.int (0 : Int32)) := (Arv.new A11 (by decide)).pad (pad_rep [] (.int (0 : Int32)) 2)
  obtain ⟨cl14, Ar14, qc14, Sz14, Ng14, Hs14, Gs14⟩ := id Vh13
  have hin14 : ¬ ((0 : Int32) < 0 ∨ cl14.slots.size ≤ ((0 : Int32)).toNatClampNeg) := inb_of Sz14 ⟨(by decide), (by decide)⟩
  obtain ⟨T15, h15, X15, e15, W15, st15⟩ := stC X11 hx hZ7 e11 Ar14 (j := (0 : Int32)) hin14 (g := (mkF m 141 #[.val (.int p1), .val (.int p2), .val (.int p3), .val (.int p4), .val (.int (own_md p1)), .val (.int (own_pk p2)), .val (.int (own_pk p3)), .val (.int (own_pk p4)), .unset, .unset, .unset, .unset] [(.int (own_pk p2)), (.int (0 : Int32)), (.ref b11), (.ref b11), (.ref b9), (.ref b9)])) rfl rfl (hb hby at_141)
  have Kp16 : Keep h0 h15 [] := Kp12.wr W15 (Or.inr (Nat.le_trans Kp10.1 (Nat.le_of_eq g11.symm)))
  have gh17 : n0 ≤ b11 := Nat.le_trans (Nat.le_trans Z0 Kp10.1) (Nat.le_of_eq g11.symm)
  obtain ⟨Lp15, X15, N15⟩ := own_pack X15 (Fr.snoc X15 N7 gh17)
  have Vh18 : Arv Z h15 b11 k11 .char (2 : Int32) [(.int (own_q p2)), (.int (0 : Int32))] (.int (0 : Int32)) := (Arv.set Ar14 qc14 Sz14 Ng14 Hs14 Gs14 (fits_nar_char _) W15 0 rfl (Nat.le_of_ble_eq_true rfl))
  obtain ⟨cl19, Ar19, qc19, Sz19, Ng19, Hs19, Gs19⟩ := id Vh18
  have hin19 : ¬ ((1 : Int32) < 0 ∨ cl19.slots.size ≤ ((1 : Int32)).toNatClampNeg) := inb_of Sz19 ⟨(by decide), (by decide)⟩
  obtain ⟨T20, h20, X20, e20, W20, st20⟩ := stC X15 hx hZ7 e15 Ar19 (j := (1 : Int32)) hin19 (g := (mkF m 146 #[.val (.int p1), .val (.int p2), .val (.int p3), .val (.int p4), .val (.int (own_md p1)), .val (.int (own_pk p2)), .val (.int (own_pk p3)), .val (.int (own_pk p4)), .unset, .unset, .unset, .unset] [(.int (own_pk p3)), (.int (1 : Int32)), (.ref b11), (.ref b11), (.ref b9), (.ref b9)])) rfl rfl (hb hby at_146)
  have Kp21 : Keep h0 h20 [] := Kp16.wr W20 (Or.inr (Nat.le_trans Kp10.1 (Nat.le_of_eq g11.symm)))
  obtain ⟨Lp20, X20, N20⟩ := own_pack X20 (Fr.snoc X20 N15 gh17)
  have Vh22 : Arv Z h20 b11 k11 .char (2 : Int32) [(.int (own_q p2)), (.int (own_q p3))] (.int (0 : Int32)) := (Arv.set Ar19 qc19 Sz19 Ng19 Hs19 Gs19 (fits_nar_char _) W20 1 rfl (Nat.le_of_ble_eq_true rfl))
  have Eh23 : Exa Z h20 b9 "java/lang/String" := (((A9.ext E11).wr W15).wr W20)
  have Fh24 : Fld Z h9 b9 "java/lang/String" "value" "[B" .null := (D9 (Or.inr (hw _ (List.mem_of_getElem? (i := 20) rfl))) (ty := (.array .byte)) (by decide))
  have Fh25 : Fld Z h20 b9 "java/lang/String" "value" "[B" .null := (((Fh24.ext E11).other W15 (Or.inl (Nat.ne_of_lt (Nat.lt_of_lt_of_le A9.lt (Nat.le_of_eq g11.symm))))).other W20 (Or.inl (Nat.ne_of_lt (Nat.lt_of_lt_of_le A9.lt (Nat.le_of_eq g11.symm)))))
  have Fh26 : Fld Z h9 b9 "java/lang/String" "coder" "B" (.int (0 : Int32)) := (D9 (Or.inr (hw _ (List.mem_of_getElem? (i := 21) rfl))) (ty := .byte) (by decide))
  have Fh27 : Fld Z h20 b9 "java/lang/String" "coder" "B" (.int (0 : Int32)) := (((Fh26.ext E11).other W15 (Or.inl (Nat.ne_of_lt (Nat.lt_of_lt_of_le A9.lt (Nat.le_of_eq g11.symm))))).other W20 (Or.inl (Nat.ne_of_lt (Nat.lt_of_lt_of_le A9.lt (Nat.le_of_eq g11.symm)))))
  have hph28 : ∀ c ∈ ([(own_q p2), (own_q p3)] : List Int32), ¬ c < 0 ∧ ¬ (255 : Int32) < c := (own_cS (own_rng_q p2) (own_cS (own_rng_q p3) own_c0))
  have hws_words : ∀ d ∈ StrChars.Road.words, d.before a0 Z = true := fun d hd => hw d (own_hws_words d hd)
  have Zh29 : n0 ≤ h20.size := (Nat.le_trans Z0 Kp21.1)
  have gh30 : n0 ≤ b9 := Nat.le_trans (Nat.le_trans Z0 Kp8.1) (Nat.le_of_eq g9.symm)
  have Old31 : Old Z n0 T7.heap := Old6.keep Kq7 all0
  have Old32 : Old Z n0 h9 := Old31.ext E9
  have Old33 : Old Z n0 h11 := Old32.ext E11
  have Old34 : Old Z n0 h15 := Old33.wr W15 gh17
  have Old35 : Old Z n0 h20 := Old34.wr W20 gh17
  obtain ⟨_, _, ⟨T36, L36, k36, n36⟩, -, X36, ⟨Lc36, hQ36, l36, y36, z36⟩, st36⟩ := X20.specialBack hx (y := (⟨"java/lang/String", "<init>", "([C)V"⟩ : MethodName)) rfl hown7 (mvT hZ7 (hw _ (List.mem_of_getElem? (i := 8) rfl))) (mvT hZ7 (hw _ (List.mem_of_getElem? (i := 9) rfl))) (mvT hZ7 (hw _ (List.mem_of_getElem? (i := 10) rfl))) (by decide) (StrChars.Road.backV (W := 1) hZ7 hws_words (kI := 4) (hw _ (List.mem_of_getElem? (i := 5) rfl)) (cs := ([(own_q p2), (own_q p3)] : List Int32)) (bs := ([(own_q p2), (own_q p3)] : List Int32).map (fun c => c.toInt8.toInt32)) (n := 2) gh30 Zh29 Eh23 Fh25 Fh27 Vh22 (O_CS.ext Old35.2) P_CS rfl rfl (by decide) (by decide) hph28 rfl (by decide) (by decide)) (g := (mkF m 147 #[.val (.int p1), .val (.int p2), .val (.int p3), .val (.int p4), .val (.int (own_md p1)), .val (.int (own_pk p2)), .val (.int (own_pk p3)), .val (.int (own_pk p4)), .unset, .unset, .unset, .unset] [(.ref b11), (.ref b9), (.ref b9)])) rfl (by rw [hml]; rfl) (Steps.refl _) (a := b9) (argsL := [(.ref b11)]) (rest := [(.ref b9)]) (lenOf own_pd14 rfl) rfl (by show 2 * 0 + _ ≤ _; exact Nat.le_of_eq rfl) (hb hby at_147) (fun _ _ => ⟨rfl, e20, (by decide : 8 + 1 ≤ _), (by decide : 90 + 2 ≤ _)⟩)
  dsimp only [Pt.U, Pt.locs, Pt.cells, Pt.slots] at X36 l36 y36 z36 st36 hQ36
  subst y36 z36
  obtain ⟨rfl, Nq36, Kq36, Eq36, Cq36, t36, kb36, gt36, szt36, nt36, Vq36, Bq36⟩ := hQ36
  have N36 : Fr n0 L36 := by rw [l36]; exact Fr.app N20 Nq36
  have Kp37 : Keep h0 T36.heap [] := Kp21.trans Kq36 (allS (Or.inr (Nat.le_trans Kp8.1 (Nat.le_of_eq g9.symm))) all0)
  have Old38 : Old Z n0 T36.heap := Old35.keep Kq36 (allS gh30 all0)
  obtain ⟨T39, X39, e39, st39⟩ := getS2 X36 hx hZ7 hown7 (host := "") (Or.inl (hw _ (List.mem_of_getElem? (i := 122) rfl))) Via.refl rfl (O_JAPANESE.ext Old38.2) (g := (mkF m 205 #[.val (.int p1), .val (.int p2), .val (.int p3), .val (.int p4), .val (.int (own_md p1)), .val (.int (own_pk p2)), .val (.int (own_pk p3)), .val (.int (own_pk p4)), .val (.ref b9), .val (.int (2 : Int32)), .val .null, .unset] [])) rfl (hb hby at_205)
  obtain ⟨_, _, ⟨T40, L40, k40, n40⟩, -, X40, ⟨Lc40, hQ40, l40, y40, z40⟩, st40⟩ := Jvm.LawKit.callS X39 hx (y := (⟨"com/example/dragoman/dragoman/core/Language", "forCode", "(Ljava/lang/String;)Ljava/util/Optional;"⟩ : MethodName)) hown7 (mvT hZ7 (hw _ (List.mem_of_getElem? (i := 26) rfl))) (mvT hZ7 (hw _ (List.mem_of_getElem? (i := 27) rfl))) (mvT hZ7 (hw _ (List.mem_of_getElem? (i := 28) rfl))) (mvT hZ7 (hw _ (List.mem_of_getElem? (i := 29) rfl))) (by decide) (backOf (W := 0) (own_rm_fcJ l Z a0 hw [] G1 G3 k_EMPTY k_ENGLISH s_ENGLISH t_ENGLISH kb_ENGLISH k_JAPANESE s_JAPANESE t_JAPANESE kb_JAPANESE k_CHINESE s_CHINESE t_CHINESE kb_CHINESE k_VALUES kv_VALUES gl b9 ([(own_q p2), (own_q p3)] : List Int32) t36 (kb36) T36.heap n0 (Nat.le_trans Z0 Kp37.1) Old38 Eq36 Vq36 Cq36 Bq36 hph28 (Nat.le_of_ble_eq_true rfl) (own_na hc1) (own_l2 hc2 hc3)) hZ7 (hw _ (List.mem_of_getElem? (i := 29) rfl)) (hw _ (List.mem_of_getElem? (i := 28) rfl)) (by decide) (by decide)) (g := (mkF m 234 #[.val (.int p1), .val (.int p2), .val (.int p3), .val (.int p4), .val (.int (own_md p1)), .val (.int (own_pk p2)), .val (.int (own_pk p3)), .val (.int (own_pk p4)), .val (.ref b9), .val (.int (2 : Int32)), .val (.ref k_JAPANESE), .unset] [(.ref b9)])) rfl (by rw [hml]; rfl) (argsL := [(.ref b9)]) (rest := []) (lenOf own_pd13 rfl) rfl (by show 2 * 0 + _ ≤ _; exact Nat.le_of_eq rfl) (hb hby at_234) (fun _ _ => ⟨rfl, e39, (by decide : 9 + 2 ≤ _), (by decide : 92 + 4 ≤ _)⟩)
  dsimp only [Pt.U, Pt.locs, Pt.cells, Pt.slots] at X40 l40 y40 z40 st40 hQ40
  subst y40 z40
  obtain ⟨b1_21_40, rfl, Nq40, Kq40, f40_0, f40_1, f40_2⟩ := hQ40
  have N40 : Fr n0 L40 := by rw [l40]; exact Fr.app N36 Nq40
  have Kp41 : Keep h0 T40.heap [] := Kp37.trans Kq40 all0
  obtain ⟨cq42, kq42, q42a, q42b, q42c⟩ := isOf hZ7 rfl f40_1
  obtain ⟨_, _, ⟨T42, L42, k42, n42⟩, -, X42, ⟨Lc42, hQ42, l42, y42, z42⟩, st42⟩ := X40.virtualBack hx (y := (⟨"java/util/Optional", "orElse", "(Ljava/lang/Object;)Ljava/lang/Object;"⟩ : MethodName)) (z := (⟨"java/util/Optional", "orElse", "(Ljava/lang/Object;)Ljava/lang/Object;"⟩ : MethodName)) hown7 (mvT hZ7 (hw _ (List.mem_of_getElem? (i := 66) rfl))) (mvT hZ7 (hw _ (List.mem_of_getElem? (i := 67) rfl))) (notFace_of_selects (args := #[]) (mvT hZ7 (hw _ (List.mem_of_getElem? (i := 69) rfl)))) (mvT hZ7 (hw _ (List.mem_of_getElem? (i := 69) rfl))) (mvT hZ7 (hw _ (List.mem_of_getElem? (i := 68) rfl))) (by decide) (backOf (W := 0) (own_rm_oeV l Z a0 hw [] G1 G3 k_EMPTY k_ENGLISH s_ENGLISH t_ENGLISH kb_ENGLISH k_JAPANESE s_JAPANESE t_JAPANESE kb_JAPANESE k_CHINESE s_CHINESE t_CHINESE kb_CHINESE k_VALUES kv_VALUES gl b1_21_40 k_JAPANESE T40.heap n0 (Nat.le_trans Z0 Kp41.1) f40_2) hZ7 (hw _ (List.mem_of_getElem? (i := 70) rfl)) (hw _ (List.mem_of_getElem? (i := 63) rfl)) (by decide) (by decide)) q42a q42c (g := (mkF m 238 #[.val (.int p1), .val (.int p2), .val (.int p3), .val (.int p4), .val (.int (own_md p1)), .val (.int (own_pk p2)), .val (.int (own_pk p3)), .val (.int (own_pk p4)), .val (.ref b9), .val (.int (2 : Int32)), .val (.ref k_JAPANESE), .unset] [.null, (.ref b1_21_40)])) rfl (by rw [hml]; rfl) (Steps.refl _) (argsL := [.null]) (rest := []) (lenOf own_pd4 rfl) rfl (by show 2 * 0 + _ ≤ _; exact Nat.le_of_eq rfl) (hb hby at_238) (fun _ _ => ⟨rfl, rfl, (by decide : 11 + 0 ≤ _), (by decide : 96 + 0 ≤ _)⟩)
  dsimp only [Pt.U, Pt.locs, Pt.cells, Pt.slots] at X42 l42 y42 z42 st42 hQ42
  subst y42 z42
  obtain ⟨rfl, Nq42, e42⟩ := hQ42
  have N42 : Fr n0 L42 := by rw [l42]; exact Fr.app N40 Nq42
  have Old43 : Old Z n0 T40.heap := Old38.keep Kq40 all0
  obtain ⟨T44, X44, e44, st44⟩ := castY X42 hx hZ7 hown7 (hw _ (List.mem_of_getElem? (i := 120) rfl)) e42 (Ins.self (E_JAPANESE.ext Old43.2)) (g := (mkF m 241 #[.val (.int p1), .val (.int p2), .val (.int p3), .val (.int p4), .val (.int (own_md p1)), .val (.int (own_pk p2)), .val (.int (own_pk p3)), .val (.int (own_pk p4)), .val (.ref b9), .val (.int (2 : Int32)), .val (.ref k_JAPANESE), .unset] [(.ref k_JAPANESE)])) rfl rfl (hb hby at_241)
  obtain ⟨fs, hr, hrun, hended, hREW⟩ := X44.leaveW hS7 (by rw [e44]; exact (Nat.le_trans (Nat.le_refl _) (Nat.le_trans (Nat.le_trans (Nat.le_trans (Nat.le_trans (Nat.le_trans E9.1 E11.1) (Keep.of_wr W15).1) (Keep.of_wr W20).1) Kq36.1) Kq40.1))) (v := some (.int (1 : Int32))) (fun h => by rw [Bd.returns] at h; cases h)
  refine ⟨_, _, pre0 _ ?_, hrun, hended, _, _, rfl, ?_, hREW.1, hREW.2.1, hREW.2.2.1, hREW.2.2.2.mono (by decide) (by decide)⟩
  · show Steps p.tables e below (s₁.setTop (mkF m 0 #[.val (.int p1), .val (.int p2), .val (.int p3), .val (.int p4), .unset, .unset, .unset, .unset, .unset, .unset, .unset, .unset] [])) _
    refine XS.iloadN X0.here hx rfl (hb hby at_0) rfl ?_
    show Steps p.tables e below (s₁.setTop (mkF m 1 #[.val (.int p1), .val (.int p2), .val (.int p3), .val (.int p4), .unset, .unset, .unset, .unset, .unset, .unset, .unset, .unset] [(.int p1)])) _
    refine XS.bipush X0.here hx rfl (hb hby at_1) ?_
    show Steps p.tables e below (s₁.setTop (mkF m 3 #[.val (.int p1), .val (.int p2), .val (.int p3), .val (.int p4), .unset, .unset, .unset, .unset, .unset, .unset, .unset, .unset] [(.int (7 : Int32)), (.int p1)])) _
    refine XS.iand X0.here hx rfl (hb hby at_3) rfl ?_
    show Steps p.tables e below (s₁.setTop (mkF m 4 #[.val (.int p1), .val (.int p2), .val (.int p3), .val (.int p4), .unset, .unset, .unset, .unset, .unset, .unset, .unset, .unset] [(.int (own_md p1))])) _
    refine XS.istore X0.here hx rfl (hb hby at_4) rfl (l' := #[.val (.int p1), .val (.int p2), .val (.int p3), .val (.int p4), .val (.int (own_md p1)), .unset, .unset, .unset, .unset, .unset, .unset, .unset]) rfl ?_
    show Steps p.tables e below (s₁.setTop (mkF m 6 #[.val (.int p1), .val (.int p2), .val (.int p3), .val (.int p4), .val (.int (own_md p1)), .unset, .unset, .unset, .unset, .unset, .unset, .unset] [])) _
    refine XS.iloadN X0.here hx rfl (hb hby at_6) rfl ?_
    show Steps p.tables e below (s₁.setTop (mkF m 7 #[.val (.int p1), .val (.int p2), .val (.int p3), .val (.int p4), .val (.int (own_md p1)), .unset, .unset, .unset, .unset, .unset, .unset, .unset] [(.int p2)])) _
    refine st1.trans ?_
    show Steps p.tables e below (T1.setTop (mkF m 10 #[.val (.int p1), .val (.int p2), .val (.int p3), .val (.int p4), .val (.int (own_md p1)), .unset, .unset, .unset, .unset, .unset, .unset, .unset] [(.int (own_pk p2))])) _
    refine XS.istore Xw1.here hx rfl (hb hby at_10) rfl (l' := #[.val (.int p1), .val (.int p2), .val (.int p3), .val (.int p4), .val (.int (own_md p1)), .val (.int (own_pk p2)), .unset, .unset, .unset, .unset, .unset, .unset]) rfl ?_
    show Steps p.tables e below (T1.setTop (mkF m 12 #[.val (.int p1), .val (.int p2), .val (.int p3), .val (.int p4), .val (.int (own_md p1)), .val (.int (own_pk p2)), .unset, .unset, .unset, .unset, .unset, .unset] [])) _
    refine XS.iloadN Xw1.here hx rfl (hb hby at_12) rfl ?_
    show Steps p.tables e below (T1.setTop (mkF m 13 #[.val (.int p1), .val (.int p2), .val (.int p3), .val (.int p4), .val (.int (own_md p1)), .val (.int (own_pk p2)), .unset, .unset, .unset, .unset, .unset, .unset] [(.int p3)])) _
    refine st4.trans ?_
    show Steps p.tables e below (T4.setTop (mkF m 16 #[.val (.int p1), .val (.int p2), .val (.int p3), .val (.int p4), .val (.int (own_md p1)), .val (.int (own_pk p2)), .unset, .unset, .unset, .unset, .unset, .unset] [(.int (own_pk p3))])) _
    refine XS.istore Xw4.here hx rfl (hb hby at_16) rfl (l' := #[.val (.int p1), .val (.int p2), .val (.int p3), .val (.int p4), .val (.int (own_md p1)), .val (.int (own_pk p2)), .val (.int (own_pk p3)), .unset, .unset, .unset, .unset, .unset]) rfl ?_
    show Steps p.tables e below (T4.setTop (mkF m 18 #[.val (.int p1), .val (.int p2), .val (.int p3), .val (.int p4), .val (.int (own_md p1)), .val (.int (own_pk p2)), .val (.int (own_pk p3)), .unset, .unset, .unset, .unset, .unset] [])) _
    refine XS.iloadN Xw4.here hx rfl (hb hby at_18) rfl ?_
    show Steps p.tables e below (T4.setTop (mkF m 19 #[.val (.int p1), .val (.int p2), .val (.int p3), .val (.int p4), .val (.int (own_md p1)), .val (.int (own_pk p2)), .val (.int (own_pk p3)), .unset, .unset, .unset, .unset, .unset] [(.int p4)])) _
    refine st7.trans ?_
    show Steps p.tables e below (T7.setTop (mkF m 22 #[.val (.int p1), .val (.int p2), .val (.int p3), .val (.int p4), .val (.int (own_md p1)), .val (.int (own_pk p2)), .val (.int (own_pk p3)), .unset, .unset, .unset, .unset, .unset] [(.int (own_pk p4))])) _
    refine XS.istore Xw7.here hx rfl (hb hby at_22) rfl (l' := #[.val (.int p1), .val (.int p2), .val (.int p3), .val (.int p4), .val (.int (own_md p1)), .val (.int (own_pk p2)), .val (.int (own_pk p3)), .val (.int (own_pk p4)), .unset, .unset, .unset, .unset]) rfl ?_
    show Steps p.tables e below (T7.setTop (mkF m 24 #[.val (.int p1), .val (.int p2), .val (.int p3), .val (.int p4), .val (.int (own_md p1)), .val (.int (own_pk p2)), .val (.int (own_pk p3)), .val (.int (own_pk p4)), .unset, .unset, .unset, .unset] [])) _
    refine XS.iload Xw7.here hx rfl (hb hby at_24) rfl ?_
    show Steps p.tables e below (T7.setTop (mkF m 26 #[.val (.int p1), .val (.int p2), .val (.int p3), .val (.int p4), .val (.int (own_md p1)), .val (.int (own_pk p2)), .val (.int (own_pk p3)), .val (.int (own_pk p4)), .unset, .unset, .unset, .unset] [(.int (own_md p1))])) _
    refine XS.iconst Xw7.here hx rfl (hb hby at_26) ?_
    show Steps p.tables e below (T7.setTop (mkF m 27 #[.val (.int p1), .val (.int p2), .val (.int p3), .val (.int p4), .val (.int (own_md p1)), .val (.int (own_pk p2)), .val (.int (own_pk p3)), .val (.int (own_pk p4)), .unset, .unset, .unset, .unset] [(.int (4 : Int32)), (.int (own_md p1))])) _
    refine XS.icmpYes Xw7.here hx rfl (pc0 := 27) (pc' := 39) rfl (hb hby at_27) rfl (feq (hk.1 : ¬ ((own_md p1) = (4 : Int32)))).2 (by decide) (by decide) ?_
    show Steps p.tables e below (T7.setTop (mkF m 39 #[.val (.int p1), .val (.int p2), .val (.int p3), .val (.int p4), .val (.int (own_md p1)), .val (.int (own_pk p2)), .val (.int (own_pk p3)), .val (.int (own_pk p4)), .unset, .unset, .unset, .unset] [])) _
    refine XS.iload Xw7.here hx rfl (hb hby at_39) rfl ?_
    show Steps p.tables e below (T7.setTop (mkF m 41 #[.val (.int p1), .val (.int p2), .val (.int p3), .val (.int p4), .val (.int (own_md p1)), .val (.int (own_pk p2)), .val (.int (own_pk p3)), .val (.int (own_pk p4)), .unset, .unset, .unset, .unset] [(.int (own_md p1))])) _
    refine XS.ifYes Xw7.here hx rfl (pc0 := 41) (pc' := 62) rfl (hb hby at_41) rfl ((if0 _ _).trans (feq (hk.2.1 : ¬ ((own_md p1) = (0 : Int32)))).2) (by decide) (by decide) ?_
    show Steps p.tables e below (T7.setTop (mkF m 62 #[.val (.int p1), .val (.int p2), .val (.int p3), .val (.int p4), .val (.int (own_md p1)), .val (.int (own_pk p2)), .val (.int (own_pk p3)), .val (.int (own_pk p4)), .unset, .unset, .unset, .unset] [])) _
    refine XS.iload Xw7.here hx rfl (hb hby at_62) rfl ?_
    show Steps p.tables e below (T7.setTop (mkF m 64 #[.val (.int p1), .val (.int p2), .val (.int p3), .val (.int p4), .val (.int (own_md p1)), .val (.int (own_pk p2)), .val (.int (own_pk p3)), .val (.int (own_pk p4)), .unset, .unset, .unset, .unset] [(.int (own_md p1))])) _
    refine XS.iconst Xw7.here hx rfl (hb hby at_64) ?_
    show Steps p.tables e below (T7.setTop (mkF m 65 #[.val (.int p1), .val (.int p2), .val (.int p3), .val (.int p4), .val (.int (own_md p1)), .val (.int (own_pk p2)), .val (.int (own_pk p3)), .val (.int (own_pk p4)), .unset, .unset, .unset, .unset] [(.int (1 : Int32)), (.int (own_md p1))])) _
    refine XS.icmpYes Xw7.here hx rfl (pc0 := 65) (pc' := 91) rfl (hb hby at_65) rfl (feq (hk.2.2.1 : ¬ ((own_md p1) = (1 : Int32)))).2 (by decide) (by decide) ?_
    show Steps p.tables e below (T7.setTop (mkF m 91 #[.val (.int p1), .val (.int p2), .val (.int p3), .val (.int p4), .val (.int (own_md p1)), .val (.int (own_pk p2)), .val (.int (own_pk p3)), .val (.int (own_pk p4)), .unset, .unset, .unset, .unset] [])) _
    refine XS.iload Xw7.here hx rfl (hb hby at_91) rfl ?_
    show Steps p.tables e below (T7.setTop (mkF m 93 #[.val (.int p1), .val (.int p2), .val (.int p3), .val (.int p4), .val (.int (own_md p1)), .val (.int (own_pk p2)), .val (.int (own_pk p3)), .val (.int (own_pk p4)), .unset, .unset, .unset, .unset] [(.int (own_md p1))])) _
    refine XS.iconst Xw7.here hx rfl (hb hby at_93) ?_
    show Steps p.tables e below (T7.setTop (mkF m 94 #[.val (.int p1), .val (.int p2), .val (.int p3), .val (.int p4), .val (.int (own_md p1)), .val (.int (own_pk p2)), .val (.int (own_pk p3)), .val (.int (own_pk p4)), .unset, .unset, .unset, .unset] [(.int (3 : Int32)), (.int (own_md p1))])) _
    refine XS.icmpYes Xw7.here hx rfl (pc0 := 94) (pc' := 130) rfl (hb hby at_94) rfl (feq (hk.2.2.2 : ¬ ((own_md p1) = (3 : Int32)))).2 (by decide) (by decide) ?_
    show Steps p.tables e below (T7.setTop (mkF m 130 #[.val (.int p1), .val (.int p2), .val (.int p3), .val (.int p4), .val (.int (own_md p1)), .val (.int (own_pk p2)), .val (.int (own_pk p3)), .val (.int (own_pk p4)), .unset, .unset, .unset, .unset] [])) _
    refine st9 _ ?_
    show Steps p.tables e below (T9.setTop (mkF m 133 #[.val (.int p1), .val (.int p2), .val (.int p3), .val (.int p4), .val (.int (own_md p1)), .val (.int (own_pk p2)), .val (.int (own_pk p3)), .val (.int (own_pk p4)), .unset, .unset, .unset, .unset] [(.ref b9)])) _
    refine XS.dup X9.here hx rfl (hb hby at_133) rfl rfl ?_
    show Steps p.tables e below (T9.setTop (mkF m 134 #[.val (.int p1), .val (.int p2), .val (.int p3), .val (.int p4), .val (.int (own_md p1)), .val (.int (own_pk p2)), .val (.int (own_pk p3)), .val (.int (own_pk p4)), .unset, .unset, .unset, .unset] [(.ref b9), (.ref b9)])) _
    refine XS.iconst X9.here hx rfl (hb hby at_134) ?_
    show Steps p.tables e below (T9.setTop (mkF m 135 #[.val (.int p1), .val (.int p2), .val (.int p3), .val (.int p4), .val (.int (own_md p1)), .val (.int (own_pk p2)), .val (.int (own_pk p3)), .val (.int (own_pk p4)), .unset, .unset, .unset, .unset] [(.int (2 : Int32)), (.ref b9), (.ref b9)])) _
    refine st11 _ ?_
    show Steps p.tables e below (T11.setTop (mkF m 137 #[.val (.int p1), .val (.int p2), .val (.int p3), .val (.int p4), .val (.int (own_md p1)), .val (.int (own_pk p2)), .val (.int (own_pk p3)), .val (.int (own_pk p4)), .unset, .unset, .unset, .unset] [(.ref b11), (.ref b9), (.ref b9)])) _
    refine XS.dup X11.here hx rfl (hb hby at_137) rfl rfl ?_
    show Steps p.tables e below (T11.setTop (mkF m 138 #[.val (.int p1), .val (.int p2), .val (.int p3), .val (.int p4), .val (.int (own_md p1)), .val (.int (own_pk p2)), .val (.int (own_pk p3)), .val (.int (own_pk p4)), .unset, .unset, .unset, .unset] [(.ref b11), (.ref b11), (.ref b9), (.ref b9)])) _
    refine XS.iconst X11.here hx rfl (hb hby at_138) ?_
    show Steps p.tables e below (T11.setTop (mkF m 139 #[.val (.int p1), .val (.int p2), .val (.int p3), .val (.int p4), .val (.int (own_md p1)), .val (.int (own_pk p2)), .val (.int (own_pk p3)), .val (.int (own_pk p4)), .unset, .unset, .unset, .unset] [(.int (0 : Int32)), (.ref b11), (.ref b11), (.ref b9), (.ref b9)])) _
    refine XS.iload X11.here hx rfl (hb hby at_139) rfl ?_
    show Steps p.tables e below (T11.setTop (mkF m 141 #[.val (.int p1), .val (.int p2), .val (.int p3), .val (.int p4), .val (.int (own_md p1)), .val (.int (own_pk p2)), .val (.int (own_pk p3)), .val (.int (own_pk p4)), .unset, .unset, .unset, .unset] [(.int (own_pk p2)), (.int (0 : Int32)), (.ref b11), (.ref b11), (.ref b9), (.ref b9)])) _
    refine st15 _ ?_
    show Steps p.tables e below (T15.setTop (mkF m 142 #[.val (.int p1), .val (.int p2), .val (.int p3), .val (.int p4), .val (.int (own_md p1)), .val (.int (own_pk p2)), .val (.int (own_pk p3)), .val (.int (own_pk p4)), .unset, .unset, .unset, .unset] [(.ref b11), (.ref b9), (.ref b9)])) _
    refine XS.dup X15.here hx rfl (hb hby at_142) rfl rfl ?_
    show Steps p.tables e below (T15.setTop (mkF m 143 #[.val (.int p1), .val (.int p2), .val (.int p3), .val (.int p4), .val (.int (own_md p1)), .val (.int (own_pk p2)), .val (.int (own_pk p3)), .val (.int (own_pk p4)), .unset, .unset, .unset, .unset] [(.ref b11), (.ref b11), (.ref b9), (.ref b9)])) _
    refine XS.iconst X15.here hx rfl (hb hby at_143) ?_
    show Steps p.tables e below (T15.setTop (mkF m 144 #[.val (.int p1), .val (.int p2), .val (.int p3), .val (.int p4), .val (.int (own_md p1)), .val (.int (own_pk p2)), .val (.int (own_pk p3)), .val (.int (own_pk p4)), .unset, .unset, .unset, .unset] [(.int (1 : Int32)), (.ref b11), (.ref b11), (.ref b9), (.ref b9)])) _
    refine XS.iload X15.here hx rfl (hb hby at_144) rfl ?_
    show Steps p.tables e below (T15.setTop (mkF m 146 #[.val (.int p1), .val (.int p2), .val (.int p3), .val (.int p4), .val (.int (own_md p1)), .val (.int (own_pk p2)), .val (.int (own_pk p3)), .val (.int (own_pk p4)), .unset, .unset, .unset, .unset] [(.int (own_pk p3)), (.int (1 : Int32)), (.ref b11), (.ref b11), (.ref b9), (.ref b9)])) _
    refine st20 _ ?_
    show Steps p.tables e below (T20.setTop (mkF m 147 #[.val (.int p1), .val (.int p2), .val (.int p3), .val (.int p4), .val (.int (own_md p1)), .val (.int (own_pk p2)), .val (.int (own_pk p3)), .val (.int (own_pk p4)), .unset, .unset, .unset, .unset] [(.ref b11), (.ref b9), (.ref b9)])) _
    refine st36.trans ?_
    show Steps p.tables e below (T36.setTop (mkF m 150 #[.val (.int p1), .val (.int p2), .val (.int p3), .val (.int p4), .val (.int (own_md p1)), .val (.int (own_pk p2)), .val (.int (own_pk p3)), .val (.int (own_pk p4)), .unset, .unset, .unset, .unset] [(.ref b9)])) _
    refine XS.astore X36.here hx rfl (hb hby at_150) rfl rfl (l' := #[.val (.int p1), .val (.int p2), .val (.int p3), .val (.int p4), .val (.int (own_md p1)), .val (.int (own_pk p2)), .val (.int (own_pk p3)), .val (.int (own_pk p4)), .val (.ref b9), .unset, .unset, .unset]) rfl ?_
    show Steps p.tables e below (T36.setTop (mkF m 152 #[.val (.int p1), .val (.int p2), .val (.int p3), .val (.int p4), .val (.int (own_md p1)), .val (.int (own_pk p2)), .val (.int (own_pk p3)), .val (.int (own_pk p4)), .val (.ref b9), .unset, .unset, .unset] [])) _
    refine XS.iconst X36.here hx rfl (hb hby at_152) ?_
    show Steps p.tables e below (T36.setTop (mkF m 153 #[.val (.int p1), .val (.int p2), .val (.int p3), .val (.int p4), .val (.int (own_md p1)), .val (.int (own_pk p2)), .val (.int (own_pk p3)), .val (.int (own_pk p4)), .val (.ref b9), .unset, .unset, .unset] [(.int (2 : Int32))])) _
    refine XS.istore X36.here hx rfl (hb hby at_153) rfl (l' := #[.val (.int p1), .val (.int p2), .val (.int p3), .val (.int p4), .val (.int (own_md p1)), .val (.int (own_pk p2)), .val (.int (own_pk p3)), .val (.int (own_pk p4)), .val (.ref b9), .val (.int (2 : Int32)), .unset, .unset]) rfl ?_
    show Steps p.tables e below (T36.setTop (mkF m 155 #[.val (.int p1), .val (.int p2), .val (.int p3), .val (.int p4), .val (.int (own_md p1)), .val (.int (own_pk p2)), .val (.int (own_pk p3)), .val (.int (own_pk p4)), .val (.ref b9), .val (.int (2 : Int32)), .unset, .unset] [])) _
    refine XS.aconstNull X36.here hx rfl (hb hby at_155) ?_
    show Steps p.tables e below (T36.setTop (mkF m 156 #[.val (.int p1), .val (.int p2), .val (.int p3), .val (.int p4), .val (.int (own_md p1)), .val (.int (own_pk p2)), .val (.int (own_pk p3)), .val (.int (own_pk p4)), .val (.ref b9), .val (.int (2 : Int32)), .unset, .unset] [.null])) _
    refine XS.astore X36.here hx rfl (hb hby at_156) rfl rfl (l' := #[.val (.int p1), .val (.int p2), .val (.int p3), .val (.int p4), .val (.int (own_md p1)), .val (.int (own_pk p2)), .val (.int (own_pk p3)), .val (.int (own_pk p4)), .val (.ref b9), .val (.int (2 : Int32)), .val .null, .unset]) rfl ?_
    show Steps p.tables e below (T36.setTop (mkF m 158 #[.val (.int p1), .val (.int p2), .val (.int p3), .val (.int p4), .val (.int (own_md p1)), .val (.int (own_pk p2)), .val (.int (own_pk p3)), .val (.int (own_pk p4)), .val (.ref b9), .val (.int (2 : Int32)), .val .null, .unset] [])) _
    refine XS.aload X36.here hx rfl (hb hby at_158) rfl rfl ?_
    show Steps p.tables e below (T36.setTop (mkF m 160 #[.val (.int p1), .val (.int p2), .val (.int p3), .val (.int p4), .val (.int (own_md p1)), .val (.int (own_pk p2)), .val (.int (own_pk p3)), .val (.int (own_pk p4)), .val (.ref b9), .val (.int (2 : Int32)), .val .null, .unset] [(.ref b9)])) _
    refine XS.ifnullNo X36.here hx rfl (hb hby at_160) rfl ?_
    show Steps p.tables e below (T36.setTop (mkF m 163 #[.val (.int p1), .val (.int p2), .val (.int p3), .val (.int p4), .val (.int (own_md p1)), .val (.int (own_pk p2)), .val (.int (own_pk p3)), .val (.int (own_pk p4)), .val (.ref b9), .val (.int (2 : Int32)), .val .null, .unset] [])) _
    refine XS.iload X36.here hx rfl (hb hby at_163) rfl ?_
    show Steps p.tables e below (T36.setTop (mkF m 165 #[.val (.int p1), .val (.int p2), .val (.int p3), .val (.int p4), .val (.int (own_md p1)), .val (.int (own_pk p2)), .val (.int (own_pk p3)), .val (.int (own_pk p4)), .val (.ref b9), .val (.int (2 : Int32)), .val .null, .unset] [(.int (2 : Int32))])) _
    refine XS.iconst X36.here hx rfl (hb hby at_165) ?_
    show Steps p.tables e below (T36.setTop (mkF m 166 #[.val (.int p1), .val (.int p2), .val (.int p3), .val (.int p4), .val (.int (own_md p1)), .val (.int (own_pk p2)), .val (.int (own_pk p3)), .val (.int (own_pk p4)), .val (.ref b9), .val (.int (2 : Int32)), .val .null, .unset] [(.int (2 : Int32)), (.int (2 : Int32))])) _
    refine XS.icmpNo X36.here hx rfl (hb hby at_166) rfl (teq (rfl : (2 : Int32) = (2 : Int32))).2 ?_
    show Steps p.tables e below (T36.setTop (mkF m 169 #[.val (.int p1), .val (.int p2), .val (.int p3), .val (.int p4), .val (.int (own_md p1)), .val (.int (own_pk p2)), .val (.int (own_pk p3)), .val (.int (own_pk p4)), .val (.ref b9), .val (.int (2 : Int32)), .val .null, .unset] [])) _
    refine XS.iload X36.here hx rfl (hb hby at_169) rfl ?_
    show Steps p.tables e below (T36.setTop (mkF m 171 #[.val (.int p1), .val (.int p2), .val (.int p3), .val (.int p4), .val (.int (own_md p1)), .val (.int (own_pk p2)), .val (.int (own_pk p3)), .val (.int (own_pk p4)), .val (.ref b9), .val (.int (2 : Int32)), .val .null, .unset] [(.int (own_pk p2))])) _
    refine XS.bipush X36.here hx rfl (hb hby at_171) ?_
    show Steps p.tables e below (T36.setTop (mkF m 173 #[.val (.int p1), .val (.int p2), .val (.int p3), .val (.int p4), .val (.int (own_md p1)), .val (.int (own_pk p2)), .val (.int (own_pk p3)), .val (.int (own_pk p4)), .val (.ref b9), .val (.int (2 : Int32)), .val .null, .unset] [(.int (101 : Int32)), (.int (own_pk p2))])) _
    refine XS.icmpYes X36.here hx rfl (pc0 := 173) (pc' := 191) rfl (hb hby at_173) rfl (feq hc1).2 (by decide) (by decide) ?_
    show Steps p.tables e below (T36.setTop (mkF m 191 #[.val (.int p1), .val (.int p2), .val (.int p3), .val (.int p4), .val (.int (own_md p1)), .val (.int (own_pk p2)), .val (.int (own_pk p3)), .val (.int (own_pk p4)), .val (.ref b9), .val (.int (2 : Int32)), .val .null, .unset] [])) _
    refine XS.iload X36.here hx rfl (hb hby at_191) rfl ?_
    show Steps p.tables e below (T36.setTop (mkF m 193 #[.val (.int p1), .val (.int p2), .val (.int p3), .val (.int p4), .val (.int (own_md p1)), .val (.int (own_pk p2)), .val (.int (own_pk p3)), .val (.int (own_pk p4)), .val (.ref b9), .val (.int (2 : Int32)), .val .null, .unset] [(.int (own_pk p2))])) _
    refine XS.bipush X36.here hx rfl (hb hby at_193) ?_
    show Steps p.tables e below (T36.setTop (mkF m 195 #[.val (.int p1), .val (.int p2), .val (.int p3), .val (.int p4), .val (.int (own_md p1)), .val (.int (own_pk p2)), .val (.int (own_pk p3)), .val (.int (own_pk p4)), .val (.ref b9), .val (.int (2 : Int32)), .val .null, .unset] [(.int (106 : Int32)), (.int (own_pk p2))])) _
    refine XS.icmpNo X36.here hx rfl (hb hby at_195) rfl (teq hc2).2 ?_
    show Steps p.tables e below (T36.setTop (mkF m 198 #[.val (.int p1), .val (.int p2), .val (.int p3), .val (.int p4), .val (.int (own_md p1)), .val (.int (own_pk p2)), .val (.int (own_pk p3)), .val (.int (own_pk p4)), .val (.ref b9), .val (.int (2 : Int32)), .val .null, .unset] [])) _
    refine XS.iload X36.here hx rfl (hb hby at_198) rfl ?_
    show Steps p.tables e below (T36.setTop (mkF m 200 #[.val (.int p1), .val (.int p2), .val (.int p3), .val (.int p4), .val (.int (own_md p1)), .val (.int (own_pk p2)), .val (.int (own_pk p3)), .val (.int (own_pk p4)), .val (.ref b9), .val (.int (2 : Int32)), .val .null, .unset] [(.int (own_pk p3))])) _
    refine XS.bipush X36.here hx rfl (hb hby at_200) ?_
    show Steps p.tables e below (T36.setTop (mkF m 202 #[.val (.int p1), .val (.int p2), .val (.int p3), .val (.int p4), .val (.int (own_md p1)), .val (.int (own_pk p2)), .val (.int (own_pk p3)), .val (.int (own_pk p4)), .val (.ref b9), .val (.int (2 : Int32)), .val .null, .unset] [(.int (97 : Int32)), (.int (own_pk p3))])) _
    refine XS.icmpNo X36.here hx rfl (hb hby at_202) rfl (teq hc3).2 ?_
    show Steps p.tables e below (T36.setTop (mkF m 205 #[.val (.int p1), .val (.int p2), .val (.int p3), .val (.int p4), .val (.int (own_md p1)), .val (.int (own_pk p2)), .val (.int (own_pk p3)), .val (.int (own_pk p4)), .val (.ref b9), .val (.int (2 : Int32)), .val .null, .unset] [])) _
    refine st39 _ ?_
    show Steps p.tables e below (T39.setTop (mkF m 208 #[.val (.int p1), .val (.int p2), .val (.int p3), .val (.int p4), .val (.int (own_md p1)), .val (.int (own_pk p2)), .val (.int (own_pk p3)), .val (.int (own_pk p4)), .val (.ref b9), .val (.int (2 : Int32)), .val .null, .unset] [(.ref k_JAPANESE)])) _
    refine XS.astore X39.here hx rfl (hb hby at_208) rfl rfl (l' := #[.val (.int p1), .val (.int p2), .val (.int p3), .val (.int p4), .val (.int (own_md p1)), .val (.int (own_pk p2)), .val (.int (own_pk p3)), .val (.int (own_pk p4)), .val (.ref b9), .val (.int (2 : Int32)), .val (.ref k_JAPANESE), .unset]) rfl ?_
    show Steps p.tables e below (T39.setTop (mkF m 210 #[.val (.int p1), .val (.int p2), .val (.int p3), .val (.int p4), .val (.int (own_md p1)), .val (.int (own_pk p2)), .val (.int (own_pk p3)), .val (.int (own_pk p4)), .val (.ref b9), .val (.int (2 : Int32)), .val (.ref k_JAPANESE), .unset] [])) _
    refine XS.goto X39.here hx rfl (pc0 := 210) (pc' := 232) rfl (hb hby at_210) (by decide) (by decide) ?_
    show Steps p.tables e below (T39.setTop (mkF m 232 #[.val (.int p1), .val (.int p2), .val (.int p3), .val (.int p4), .val (.int (own_md p1)), .val (.int (own_pk p2)), .val (.int (own_pk p3)), .val (.int (own_pk p4)), .val (.ref b9), .val (.int (2 : Int32)), .val (.ref k_JAPANESE), .unset] [])) _
    refine XS.aload X39.here hx rfl (hb hby at_232) rfl rfl ?_
    show Steps p.tables e below (T39.setTop (mkF m 234 #[.val (.int p1), .val (.int p2), .val (.int p3), .val (.int p4), .val (.int (own_md p1)), .val (.int (own_pk p2)), .val (.int (own_pk p3)), .val (.int (own_pk p4)), .val (.ref b9), .val (.int (2 : Int32)), .val (.ref k_JAPANESE), .unset] [(.ref b9)])) _
    refine st40 _ ?_
    show Steps p.tables e below (T40.setTop (mkF m 237 #[.val (.int p1), .val (.int p2), .val (.int p3), .val (.int p4), .val (.int (own_md p1)), .val (.int (own_pk p2)), .val (.int (own_pk p3)), .val (.int (own_pk p4)), .val (.ref b9), .val (.int (2 : Int32)), .val (.ref k_JAPANESE), .unset] [(.ref b1_21_40)])) _
    refine XS.aconstNull X40.here hx rfl (hb hby at_237) ?_
    show Steps p.tables e below (T40.setTop (mkF m 238 #[.val (.int p1), .val (.int p2), .val (.int p3), .val (.int p4), .val (.int (own_md p1)), .val (.int (own_pk p2)), .val (.int (own_pk p3)), .val (.int (own_pk p4)), .val (.ref b9), .val (.int (2 : Int32)), .val (.ref k_JAPANESE), .unset] [.null, (.ref b1_21_40)])) _
    refine st42.trans ?_
    show Steps p.tables e below (T42.setTop (mkF m 241 #[.val (.int p1), .val (.int p2), .val (.int p3), .val (.int p4), .val (.int (own_md p1)), .val (.int (own_pk p2)), .val (.int (own_pk p3)), .val (.int (own_pk p4)), .val (.ref b9), .val (.int (2 : Int32)), .val (.ref k_JAPANESE), .unset] [(.ref k_JAPANESE)])) _
    refine st44 _ ?_
    show Steps p.tables e below (T44.setTop (mkF m 244 #[.val (.int p1), .val (.int p2), .val (.int p3), .val (.int p4), .val (.int (own_md p1)), .val (.int (own_pk p2)), .val (.int (own_pk p3)), .val (.int (own_pk p4)), .val (.ref b9), .val (.int (2 : Int32)), .val (.ref k_JAPANESE), .unset] [(.ref k_JAPANESE)])) _
    refine XS.astore X44.here hx rfl (hb hby at_244) rfl rfl (l' := #[.val (.int p1), .val (.int p2), .val (.int p3), .val (.int p4), .val (.int (own_md p1)), .val (.int (own_pk p2)), .val (.int (own_pk p3)), .val (.int (own_pk p4)), .val (.ref b9), .val (.int (2 : Int32)), .val (.ref k_JAPANESE), .val (.ref k_JAPANESE)]) rfl ?_
    show Steps p.tables e below (T44.setTop (mkF m 246 #[.val (.int p1), .val (.int p2), .val (.int p3), .val (.int p4), .val (.int (own_md p1)), .val (.int (own_pk p2)), .val (.int (own_pk p3)), .val (.int (own_pk p4)), .val (.ref b9), .val (.int (2 : Int32)), .val (.ref k_JAPANESE), .val (.ref k_JAPANESE)] [])) _
    refine XS.aload X44.here hx rfl (hb hby at_246) rfl rfl ?_
    show Steps p.tables e below (T44.setTop (mkF m 248 #[.val (.int p1), .val (.int p2), .val (.int p3), .val (.int p4), .val (.int (own_md p1)), .val (.int (own_pk p2)), .val (.int (own_pk p3)), .val (.int (own_pk p4)), .val (.ref b9), .val (.int (2 : Int32)), .val (.ref k_JAPANESE), .val (.ref k_JAPANESE)] [(.ref k_JAPANESE)])) _
    refine XS.aload X44.here hx rfl (hb hby at_248) rfl rfl ?_
    show Steps p.tables e below (T44.setTop (mkF m 250 #[.val (.int p1), .val (.int p2), .val (.int p3), .val (.int p4), .val (.int (own_md p1)), .val (.int (own_pk p2)), .val (.int (own_pk p3)), .val (.int (own_pk p4)), .val (.ref b9), .val (.int (2 : Int32)), .val (.ref k_JAPANESE), .val (.ref k_JAPANESE)] [(.ref k_JAPANESE), (.ref k_JAPANESE)])) _
    refine Jvm.RoadKit.acmp (g := (mkF m 250 #[.val (.int p1), .val (.int p2), .val (.int p3), .val (.int p4), .val (.int (own_md p1)), .val (.int (own_pk p2)), .val (.int (own_pk p3)), .val (.int (own_pk p4)), .val (.ref b9), .val (.int (2 : Int32)), .val (.ref k_JAPANESE), .val (.ref k_JAPANESE)] [(.ref k_JAPANESE), (.ref k_JAPANESE)])) X44 hx rfl rfl rfl (pc0 := 250) (pc' := 253) (same := true) rfl (hb hby at_250) rfl (decide_eq_true rfl) (by decide) (by decide) ?_
    show Steps p.tables e below (T44.setTop (mkF m 253 #[.val (.int p1), .val (.int p2), .val (.int p3), .val (.int p4), .val (.int (own_md p1)), .val (.int (own_pk p2)), .val (.int (own_pk p3)), .val (.int (own_pk p4)), .val (.ref b9), .val (.int (2 : Int32)), .val (.ref k_JAPANESE), .val (.ref k_JAPANESE)] [])) _
    refine XS.iconst X44.here hx rfl (hb hby at_253) ?_
    show Steps p.tables e below (T44.setTop (mkF m 254 #[.val (.int p1), .val (.int p2), .val (.int p3), .val (.int p4), .val (.int (own_md p1)), .val (.int (own_pk p2)), .val (.int (own_pk p3)), .val (.int (own_pk p4)), .val (.ref b9), .val (.int (2 : Int32)), .val (.ref k_JAPANESE), .val (.ref k_JAPANESE)] [(.int (1 : Int32))])) _
    refine XS.goto X44.here hx rfl (pc0 := 254) (pc' := 258) rfl (hb hby at_254) (by decide) (by decide) ?_
    show Steps p.tables e below (T44.setTop (mkF m 258 #[.val (.int p1), .val (.int p2), .val (.int p3), .val (.int p4), .val (.int (own_md p1)), .val (.int (own_pk p2)), .val (.int (own_pk p3)), .val (.int (own_pk p4)), .val (.ref b9), .val (.int (2 : Int32)), .val (.ref k_JAPANESE), .val (.ref k_JAPANESE)] [(.int (1 : Int32))])) _
    exact retN X44 hx (t := .boolean) Bd.returns (by simp) (hb hby at_258) hr
  · show own_Qlaw h0 n0 _ T44.heap _
    exact ⟨rfl, N42⟩
theorem own_eflaw2ft (m : MethodId) (p1 : Int32) (p2 : Int32) (p3 : Int32) (p4 : Int32) : entryFrame m #[(.int p1), (.int p2), (.int p3), (.int p4)] maxLocals = mkF m 0 #[.val (.int p1), .val (.int p2), .val (.int p3), .val (.int p4), .unset, .unset, .unset, .unset, .unset, .unset, .unset, .unset] [] := by first | (simp [entryFrame, mkF, argsToLocals, Value.category, maxLocals]; done) | rfl
set_option maxRecDepth 65536 in
set_option maxHeartbeats 40000000 in
theorem own_law2ft (l : Launch) (Z : State) (a0 : Array Value) (hw : ∀ d ∈ tables_1, d.before a0 Z = true) (ws : List Jvm.Cond) (G1 : Int32) (G3 : Value) (k_EMPTY : Addr) (k_ENGLISH : Addr) (s_ENGLISH : Addr) (t_ENGLISH : Addr) (kb_ENGLISH : ClassId) (k_JAPANESE : Addr) (s_JAPANESE : Addr) (t_JAPANESE : Addr) (kb_JAPANESE : ClassId) (k_CHINESE : Addr) (s_CHINESE : Addr) (t_CHINESE : Addr) (kb_CHINESE : ClassId) (k_VALUES : Addr) (kv_VALUES : ClassId) (gl : own_Glob Z G1 G3 k_EMPTY k_ENGLISH s_ENGLISH t_ENGLISH kb_ENGLISH k_JAPANESE s_JAPANESE t_JAPANESE kb_JAPANESE k_CHINESE s_CHINESE t_CHINESE kb_CHINESE k_VALUES kv_VALUES) (p1 : Int32) (p2 : Int32) (p3 : Int32) (p4 : Int32) (h0 : Heap) (n0 : Nat) (Z0 : n0 ≤ h0.size) (X00 : Old Z n0 h0) (hc1 : (own_pk p2) = (101 : Int32)) (hc2 : ¬ ((own_pk p3) = (110 : Int32))) (hk : ¬ own_md p1 = 4 ∧ ¬ own_md p1 = 0 ∧ ¬ own_md p1 = 1 ∧ ¬ own_md p1 = 3) :
    MetFree l x (head1 (Jvm.Cond.code x code maxLocals ret :: ws) room_1) (fun a U => a = #[(.int p1), (.int p2), (.int p3), (.int p4)] ∧ Z.Warmed39 U.vm ∧ U.heap = h0 ∧ CHv Z consts_1 U.vm h0) (fun _ _ _ _ _ => True) (fun _ U o U' => ∃ v L, o = .returned v ∧ own_Qlaw h0 n0 v U'.heap L ∧ ReturnedEndW U o U' L room_1.cells room_1.slots) := by
  refine MetFree.of_bodySF (plainFor_of_name own_pn8) hisR ?_
  intro p e s m args below meth c s₁ Bd hml0 hP hK
  obtain ⟨rfl, hZ, hh, hCH⟩ := hP
  obtain ⟨O_CS, P_CS, O_SI, P_SI, O_EMPTY, E_EMPTY, F_EMPTY, O_ENGLISH, E_ENGLISH, Fs_ENGLISH, Es_ENGLISH, Fc_ENGLISH, Fv_ENGLISH, V_ENGLISH, O_JAPANESE, E_JAPANESE, Fs_JAPANESE, Es_JAPANESE, Fc_JAPANESE, Fv_JAPANESE, V_JAPANESE, O_CHINESE, E_CHINESE, Fs_CHINESE, Es_CHINESE, Fc_CHINESE, Fv_CHINESE, V_CHINESE, O_VALUES, E_VALUES, V_VALUES⟩ := id gl
  have hx := Bd.exec
  have hby := Bd.bytes
  have hml : c.maxLocals = 12 := hml0
  have hown : s.vm.findClass "com/example/dragoman/dragoman/core/LanguageForCodePinLaw" = some m.cls := findClass_of_methodNamed Bd.named
  have hnm := (name_of_methodNamed Bd.named Bd.method).1
  have X0 : Stand p l e room_1 s m #[(.int p1), (.int p2), (.int p3), (.int p4)] below meth c s₁ [] 0 0 := Stand.of_body Bd
  have e0 : s₁.heap = h0 := by rw [← hh, Bd.state]; rfl
  have N0 := Fr.nil n0
  have pre0 : ∀ t, Steps p.tables e below (s₁.setTop (mkF m 0 #[.val (.int p1), .val (.int p2), .val (.int p3), .val (.int p4), .unset, .unset, .unset, .unset, .unset, .unset, .unset, .unset] [])) t → Steps p.tables e below (s₁.setTop (entryFrame m #[(.int p1), (.int p2), (.int p3), (.int p4)] maxLocals)) t := fun t k => castTop (own_eflaw2ft m p1 p2 p3 p4) k
  obtain ⟨_, _, ⟨T1, L1, k1, n1⟩, -, X1, hSq1, hgr1, ⟨Lc1, hQ1, l1, y1, z1, hCr1⟩, st1⟩ := callSS X0 hx (y := (⟨"com/example/dragoman/dragoman/core/LanguageForCodePinLaw", "pick", "(I)C"⟩ : MethodName)) hown (mvT hZ (hw _ (List.mem_of_getElem? (i := 0) rfl))) (mvT hZ (hw _ (List.mem_of_getElem? (i := 1) rfl))) (mvT hZ (hw _ (List.mem_of_getElem? (i := 2) rfl))) (mvT hZ (hw _ (List.mem_of_getElem? (i := 3) rfl))) (by decide) (backOfSH (s := s) (vm0 := s.vm) (W := 0) (own_rm_pk l Z a0 hw [] G1 G3 k_EMPTY k_ENGLISH s_ENGLISH t_ENGLISH kb_ENGLISH k_JAPANESE s_JAPANESE t_JAPANESE kb_JAPANESE k_CHINESE s_CHINESE t_CHINESE kb_CHINESE k_VALUES kv_VALUES gl p2 h0 n0 Z0 X00 ) hZ (hw _ (List.mem_of_getElem? (i := 3) rfl)) (hw _ (List.mem_of_getElem? (i := 2) rfl)) (by decide) (by decide) (own_EW hw) hCH) (g := (mkF m 7 #[.val (.int p1), .val (.int p2), .val (.int p3), .val (.int p4), .val (.int (own_md p1)), .unset, .unset, .unset, .unset, .unset, .unset, .unset] [(.int p2)])) rfl (by rw [hml]; rfl) (argsL := [(.int p2)]) (rest := []) (lenOf own_pd7 rfl) rfl (by show 2 * 0 + _ ≤ _; exact Nat.le_of_eq rfl) (hb hby at_7) (fun _ _ => ⟨rfl, e0, (by decide : 0 + 2 ≤ _), (by decide : 0 + 28 ≤ _)⟩)
  dsimp only [Pt.U, Pt.locs, Pt.cells, Pt.slots] at X1 l1 y1 z1 st1 hQ1 hSq1 hgr1 hCr1
  subst y1 z1
  obtain ⟨Xw1, hS1, hZ1, hown1⟩ := rebS (vm0 := s.vm) ((State.WarmedH.refl s).since 0) (by rw [e0]; exact (Nat.zero_le _)) X1 hSq1 hgr1 hZ hown
  obtain ⟨rfl, Nq1, Kq1⟩ := hQ1
  have N1 : Fr n0 L1 := by rw [l1]; exact Fr.app N0 Nq1
  have Kp2 : Keep h0 T1.heap [] := (Keep.refl h0 []).trans Kq1 all0
  have Old3 : Old Z n0 T1.heap := X00.keep Kq1 all0
  obtain ⟨_, _, ⟨T4, L4, k4, n4⟩, -, X4, hSq4, hgr4, ⟨Lc4, hQ4, l4, y4, z4, hCr4⟩, st4⟩ := callSS Xw1 hx (y := (⟨"com/example/dragoman/dragoman/core/LanguageForCodePinLaw", "pick", "(I)C"⟩ : MethodName)) hown1 (mvT hZ1 (hw _ (List.mem_of_getElem? (i := 0) rfl))) (mvT hZ1 (hw _ (List.mem_of_getElem? (i := 1) rfl))) (mvT hZ1 (hw _ (List.mem_of_getElem? (i := 2) rfl))) (mvT hZ1 (hw _ (List.mem_of_getElem? (i := 3) rfl))) (by decide) (backOfSH (s := s) (vm0 := T1.vm) (W := 0) (own_rm_pk l Z a0 hw [] G1 G3 k_EMPTY k_ENGLISH s_ENGLISH t_ENGLISH kb_ENGLISH k_JAPANESE s_JAPANESE t_JAPANESE kb_JAPANESE k_CHINESE s_CHINESE t_CHINESE kb_CHINESE k_VALUES kv_VALUES gl p3 T1.heap n0 (Nat.le_trans Z0 Kp2.1) Old3 ) hZ1 (hw _ (List.mem_of_getElem? (i := 3) rfl)) (hw _ (List.mem_of_getElem? (i := 2) rfl)) (by decide) (by decide) (own_EW hw) hCr1.1) (g := (mkF m 13 #[.val (.int p1), .val (.int p2), .val (.int p3), .val (.int p4), .val (.int (own_md p1)), .val (.int (own_pk p2)), .unset, .unset, .unset, .unset, .unset, .unset] [(.int p3)])) rfl (by rw [hml]; rfl) (argsL := [(.int p3)]) (rest := []) (lenOf own_pd7 rfl) rfl (by show 2 * 0 + _ ≤ _; exact Nat.le_of_eq rfl) (hb hby at_13) (fun _ _ => ⟨rfl, rfl, (by decide : 2 + 2 ≤ _), (by decide : 28 + 28 ≤ _)⟩)
  dsimp only [Pt.U, Pt.locs, Pt.cells, Pt.slots] at X4 l4 y4 z4 st4 hQ4 hSq4 hgr4 hCr4
  subst y4 z4
  obtain ⟨Xw4, hS4, hZ4, hown4⟩ := rebS (vm0 := T1.vm) hS1 (Nat.le_refl _) X4 hSq4 hgr4 hZ1 hown1
  obtain ⟨rfl, Nq4, Kq4⟩ := hQ4
  have N4 : Fr n0 L4 := by rw [l4]; exact Fr.app N1 Nq4
  have Kp5 : Keep h0 T4.heap [] := Kp2.trans Kq4 all0
  have Old6 : Old Z n0 T4.heap := Old3.keep Kq4 all0
  obtain ⟨_, _, ⟨T7, L7, k7, n7⟩, -, X7, hSq7, hgr7, ⟨Lc7, hQ7, l7, y7, z7, hCr7⟩, st7⟩ := callSS Xw4 hx (y := (⟨"com/example/dragoman/dragoman/core/LanguageForCodePinLaw", "pick", "(I)C"⟩ : MethodName)) hown4 (mvT hZ4 (hw _ (List.mem_of_getElem? (i := 0) rfl))) (mvT hZ4 (hw _ (List.mem_of_getElem? (i := 1) rfl))) (mvT hZ4 (hw _ (List.mem_of_getElem? (i := 2) rfl))) (mvT hZ4 (hw _ (List.mem_of_getElem? (i := 3) rfl))) (by decide) (backOfSH (s := s) (vm0 := T4.vm) (W := 0) (own_rm_pk l Z a0 hw [] G1 G3 k_EMPTY k_ENGLISH s_ENGLISH t_ENGLISH kb_ENGLISH k_JAPANESE s_JAPANESE t_JAPANESE kb_JAPANESE k_CHINESE s_CHINESE t_CHINESE kb_CHINESE k_VALUES kv_VALUES gl p4 T4.heap n0 (Nat.le_trans Z0 Kp5.1) Old6 ) hZ4 (hw _ (List.mem_of_getElem? (i := 3) rfl)) (hw _ (List.mem_of_getElem? (i := 2) rfl)) (by decide) (by decide) (own_EW hw) hCr4.1) (g := (mkF m 19 #[.val (.int p1), .val (.int p2), .val (.int p3), .val (.int p4), .val (.int (own_md p1)), .val (.int (own_pk p2)), .val (.int (own_pk p3)), .unset, .unset, .unset, .unset, .unset] [(.int p4)])) rfl (by rw [hml]; rfl) (argsL := [(.int p4)]) (rest := []) (lenOf own_pd7 rfl) rfl (by show 2 * 0 + _ ≤ _; exact Nat.le_of_eq rfl) (hb hby at_19) (fun _ _ => ⟨rfl, rfl, (by decide : 4 + 2 ≤ _), (by decide : 56 + 28 ≤ _)⟩)
  dsimp only [Pt.U, Pt.locs, Pt.cells, Pt.slots] at X7 l7 y7 z7 st7 hQ7 hSq7 hgr7 hCr7
  subst y7 z7
  obtain ⟨Xw7, hS7, hZ7, hown7⟩ := rebS (vm0 := T4.vm) hS4 (Nat.le_refl _) X7 hSq7 hgr7 hZ4 hown4
  obtain ⟨rfl, Nq7, Kq7⟩ := hQ7
  have N7 : Fr n0 L7 := by rw [l7]; exact Fr.app N4 Nq7
  have Kp8 : Keep h0 T7.heap [] := Kp5.trans Kq7 all0
  obtain ⟨T9, h9, X9, e9, E9, A9, D9, U9, st9⟩ := newO Xw7 hx hZ7 hown7 (hw _ (List.mem_of_getElem? (i := 4) rfl)) (hw _ (List.mem_of_getElem? (i := 5) rfl)) (hw _ (List.mem_of_getElem? (i := 6) rfl)) rfl (g := (mkF m 130 #[.val (.int p1), .val (.int p2), .val (.int p3), .val (.int p4), .val (.int (own_md p1)), .val (.int (own_pk p2)), .val (.int (own_pk p3)), .val (.int (own_pk p4)), .unset, .unset, .unset, .unset] [])) rfl (hb hby at_130) (by decide) (by decide)
  obtain ⟨b9, g9⟩ : ∃ z, z = T7.heap.size := ⟨_, rfl⟩
  rw [← g9] at A9 D9 U9 st9
  have Kp10 : Keep h0 h9 [] := Kp8.ext E9
  obtain ⟨T11, h11, k11, X11, e11, E11, A11, st11⟩ := newP X9 hx hZ7 (hw _ (List.mem_of_getElem? (i := 7) rfl)) e9 (g := (mkF m 135 #[.val (.int p1), .val (.int p2), .val (.int p3), .val (.int p4), .val (.int (own_md p1)), .val (.int (own_pk p2)), .val (.int (own_pk p3)), .val (.int (own_pk p4)), .unset, .unset, .unset, .unset] [(.int (2 : Int32)), (.ref b9), (.ref b9)])) rfl (hb hby at_135) rfl (by decide) (cap := 2) (by decide) (by decide) (by decide) (by decide)
  obtain ⟨b11, g11⟩ : ∃ z, z = h9.size := ⟨_, rfl⟩
  rw [← g11] at A11 st11
  have Kp12 : Keep h0 h11 [] := Kp10.ext E11
  have Vh13 : Arv Z h11 b11 k11 .char (2 : Int32) [(.int (0 : Int32)), (.int (0 : Int32))] (.int (0 : Int32)) := (Arv.new A11 (by decide)).pad (pad_rep [] (.int (0 : Int32)) 2)
  obtain ⟨cl14, Ar14, qc14, Sz14, Ng14, Hs14, Gs14⟩ := id Vh13
  have hin14 : ¬ ((0 : Int32) < 0 ∨ cl14.slots.size ≤ ((0 : Int32)).toNatClampNeg) := inb_of Sz14 ⟨(by decide), (by decide)⟩
  obtain ⟨T15, h15, X15, e15, W15, st15⟩ := stC X11 hx hZ7 e11 Ar14 (j := (0 : Int32)) hin14 (g := (mkF m 141 #[.val (.int p1), .val (.int p2), .val (.int p3), .val (.int p4), .val (.int (own_md p1)), .val (.int (own_pk p2)), .val (.int (own_pk p3)), .val (.int (own_pk p4)), .unset, .unset, .unset, .unset] [(.int (own_pk p2)), (.int (0 : Int32)), (.ref b11), (.ref b11), (.ref b9), (.ref b9)])) rfl rfl (hb hby at_141)
  have Kp16 : Keep h0 h15 [] := Kp12.wr W15 (Or.inr (Nat.le_trans Kp10.1 (Nat.le_of_eq g11.symm)))
  have gh17 : n0 ≤ b11 := Nat.le_trans (Nat.le_trans Z0 Kp10.1) (Nat.le_of_eq g11.symm)
  obtain ⟨Lp15, X15, N15⟩ := own_pack X15 (Fr.snoc X15 N7 gh17)
  have Vh18 : Arv Z h15 b11 k11 .char (2 : Int32) [(.int (own_q p2)), (.int (0 : Int32))] (.int (0 : Int32)) := (Arv.set Ar14 qc14 Sz14 Ng14 Hs14 Gs14 (fits_nar_char _) W15 0 rfl (Nat.le_of_ble_eq_true rfl))
  obtain ⟨cl19, Ar19, qc19, Sz19, Ng19, Hs19, Gs19⟩ := id Vh18
  have hin19 : ¬ ((1 : Int32) < 0 ∨ cl19.slots.size ≤ ((1 : Int32)).toNatClampNeg) := inb_of Sz19 ⟨(by decide), (by decide)⟩
  obtain ⟨T20, h20, X20, e20, W20, st20⟩ := stC X15 hx hZ7 e15 Ar19 (j := (1 : Int32)) hin19 (g := (mkF m 146 #[.val (.int p1), .val (.int p2), .val (.int p3), .val (.int p4), .val (.int (own_md p1)), .val (.int (own_pk p2)), .val (.int (own_pk p3)), .val (.int (own_pk p4)), .unset, .unset, .unset, .unset] [(.int (own_pk p3)), (.int (1 : Int32)), (.ref b11), (.ref b11), (.ref b9), (.ref b9)])) rfl rfl (hb hby at_146)
  have Kp21 : Keep h0 h20 [] := Kp16.wr W20 (Or.inr (Nat.le_trans Kp10.1 (Nat.le_of_eq g11.symm)))
  obtain ⟨Lp20, X20, N20⟩ := own_pack X20 (Fr.snoc X20 N15 gh17)
  have Vh22 : Arv Z h20 b11 k11 .char (2 : Int32) [(.int (own_q p2)), (.int (own_q p3))] (.int (0 : Int32)) := (Arv.set Ar19 qc19 Sz19 Ng19 Hs19 Gs19 (fits_nar_char _) W20 1 rfl (Nat.le_of_ble_eq_true rfl))
  have Eh23 : Exa Z h20 b9 "java/lang/String" := (((A9.ext E11).wr W15).wr W20)
  have Fh24 : Fld Z h9 b9 "java/lang/String" "value" "[B" .null := (D9 (Or.inr (hw _ (List.mem_of_getElem? (i := 20) rfl))) (ty := (.array .byte)) (by decide))
  have Fh25 : Fld Z h20 b9 "java/lang/String" "value" "[B" .null := (((Fh24.ext E11).other W15 (Or.inl (Nat.ne_of_lt (Nat.lt_of_lt_of_le A9.lt (Nat.le_of_eq g11.symm))))).other W20 (Or.inl (Nat.ne_of_lt (Nat.lt_of_lt_of_le A9.lt (Nat.le_of_eq g11.symm)))))
  have Fh26 : Fld Z h9 b9 "java/lang/String" "coder" "B" (.int (0 : Int32)) := (D9 (Or.inr (hw _ (List.mem_of_getElem? (i := 21) rfl))) (ty := .byte) (by decide))
  have Fh27 : Fld Z h20 b9 "java/lang/String" "coder" "B" (.int (0 : Int32)) := (((Fh26.ext E11).other W15 (Or.inl (Nat.ne_of_lt (Nat.lt_of_lt_of_le A9.lt (Nat.le_of_eq g11.symm))))).other W20 (Or.inl (Nat.ne_of_lt (Nat.lt_of_lt_of_le A9.lt (Nat.le_of_eq g11.symm)))))
  have hph28 : ∀ c ∈ ([(own_q p2), (own_q p3)] : List Int32), ¬ c < 0 ∧ ¬ (255 : Int32) < c := (own_cS (own_rng_q p2) (own_cS (own_rng_q p3) own_c0))
  have hws_words : ∀ d ∈ StrChars.Road.words, d.before a0 Z = true := fun d hd => hw d (own_hws_words d hd)
  have Zh29 : n0 ≤ h20.size := (Nat.le_trans Z0 Kp21.1)
  have gh30 : n0 ≤ b9 := Nat.le_trans (Nat.le_trans Z0 Kp8.1) (Nat.le_of_eq g9.symm)
  have Old31 : Old Z n0 T7.heap := Old6.keep Kq7 all0
  have Old32 : Old Z n0 h9 := Old31.ext E9
  have Old33 : Old Z n0 h11 := Old32.ext E11
  have Old34 : Old Z n0 h15 := Old33.wr W15 gh17
  have Old35 : Old Z n0 h20 := Old34.wr W20 gh17
  obtain ⟨_, _, ⟨T36, L36, k36, n36⟩, -, X36, ⟨Lc36, hQ36, l36, y36, z36⟩, st36⟩ := X20.specialBack hx (y := (⟨"java/lang/String", "<init>", "([C)V"⟩ : MethodName)) rfl hown7 (mvT hZ7 (hw _ (List.mem_of_getElem? (i := 8) rfl))) (mvT hZ7 (hw _ (List.mem_of_getElem? (i := 9) rfl))) (mvT hZ7 (hw _ (List.mem_of_getElem? (i := 10) rfl))) (by decide) (StrChars.Road.backV (W := 1) hZ7 hws_words (kI := 4) (hw _ (List.mem_of_getElem? (i := 5) rfl)) (cs := ([(own_q p2), (own_q p3)] : List Int32)) (bs := ([(own_q p2), (own_q p3)] : List Int32).map (fun c => c.toInt8.toInt32)) (n := 2) gh30 Zh29 Eh23 Fh25 Fh27 Vh22 (O_CS.ext Old35.2) P_CS rfl rfl (by decide) (by decide) hph28 rfl (by decide) (by decide)) (g := (mkF m 147 #[.val (.int p1), .val (.int p2), .val (.int p3), .val (.int p4), .val (.int (own_md p1)), .val (.int (own_pk p2)), .val (.int (own_pk p3)), .val (.int (own_pk p4)), .unset, .unset, .unset, .unset] [(.ref b11), (.ref b9), (.ref b9)])) rfl (by rw [hml]; rfl) (Steps.refl _) (a := b9) (argsL := [(.ref b11)]) (rest := [(.ref b9)]) (lenOf own_pd14 rfl) rfl (by show 2 * 0 + _ ≤ _; exact Nat.le_of_eq rfl) (hb hby at_147) (fun _ _ => ⟨rfl, e20, (by decide : 8 + 1 ≤ _), (by decide : 90 + 2 ≤ _)⟩)
  dsimp only [Pt.U, Pt.locs, Pt.cells, Pt.slots] at X36 l36 y36 z36 st36 hQ36
  subst y36 z36
  obtain ⟨rfl, Nq36, Kq36, Eq36, Cq36, t36, kb36, gt36, szt36, nt36, Vq36, Bq36⟩ := hQ36
  have N36 : Fr n0 L36 := by rw [l36]; exact Fr.app N20 Nq36
  have Kp37 : Keep h0 T36.heap [] := Kp21.trans Kq36 (allS (Or.inr (Nat.le_trans Kp8.1 (Nat.le_of_eq g9.symm))) all0)
  have Old38 : Old Z n0 T36.heap := Old35.keep Kq36 (allS gh30 all0)
  obtain ⟨_, _, ⟨T39, L39, k39, n39⟩, -, X39, ⟨Lc39, hQ39, l39, y39, z39⟩, st39⟩ := Jvm.LawKit.callS X36 hx (y := (⟨"com/example/dragoman/dragoman/core/Language", "forCode", "(Ljava/lang/String;)Ljava/util/Optional;"⟩ : MethodName)) hown7 (mvT hZ7 (hw _ (List.mem_of_getElem? (i := 26) rfl))) (mvT hZ7 (hw _ (List.mem_of_getElem? (i := 27) rfl))) (mvT hZ7 (hw _ (List.mem_of_getElem? (i := 28) rfl))) (mvT hZ7 (hw _ (List.mem_of_getElem? (i := 29) rfl))) (by decide) (backOf (W := 0) (own_rm_fcO l Z a0 hw [] G1 G3 k_EMPTY k_ENGLISH s_ENGLISH t_ENGLISH kb_ENGLISH k_JAPANESE s_JAPANESE t_JAPANESE kb_JAPANESE k_CHINESE s_CHINESE t_CHINESE kb_CHINESE k_VALUES kv_VALUES gl b9 ([(own_q p2), (own_q p3)] : List Int32) t36 (kb36) T36.heap n0 (Nat.le_trans Z0 Kp37.1) Old38 Eq36 Vq36 Cq36 Bq36 hph28 (Nat.le_of_ble_eq_true rfl) (own_nb hc2) (own_na (own_cx hc1 (by decide))) (own_na (own_cx hc1 (by decide)))) hZ7 (hw _ (List.mem_of_getElem? (i := 29) rfl)) (hw _ (List.mem_of_getElem? (i := 28) rfl)) (by decide) (by decide)) (g := (mkF m 234 #[.val (.int p1), .val (.int p2), .val (.int p3), .val (.int p4), .val (.int (own_md p1)), .val (.int (own_pk p2)), .val (.int (own_pk p3)), .val (.int (own_pk p4)), .val (.ref b9), .val (.int (2 : Int32)), .val .null, .unset] [(.ref b9)])) rfl (by rw [hml]; rfl) (argsL := [(.ref b9)]) (rest := []) (lenOf own_pd13 rfl) rfl (by show 2 * 0 + _ ≤ _; exact Nat.le_of_eq rfl) (hb hby at_234) (fun _ _ => ⟨rfl, rfl, (by decide : 9 + 1 ≤ _), (by decide : 92 + 3 ≤ _)⟩)
  dsimp only [Pt.U, Pt.locs, Pt.cells, Pt.slots] at X39 l39 y39 z39 st39 hQ39
  subst y39 z39
  obtain ⟨rfl, Nq39, Kq39⟩ := hQ39
  have N39 : Fr n0 L39 := by rw [l39]; exact Fr.app N36 Nq39
  have Kp40 : Keep h0 T39.heap [] := Kp37.trans Kq39 all0
  have Old41 : Old Z n0 T39.heap := Old38.keep Kq39 all0
  obtain ⟨cq42, kq42, q42a, q42b, q42c⟩ := isOf hZ7 rfl (E_EMPTY.ext Old41.2)
  obtain ⟨_, _, ⟨T42, L42, k42, n42⟩, -, X42, ⟨Lc42, hQ42, l42, y42, z42⟩, st42⟩ := X39.virtualBack hx (y := (⟨"java/util/Optional", "orElse", "(Ljava/lang/Object;)Ljava/lang/Object;"⟩ : MethodName)) (z := (⟨"java/util/Optional", "orElse", "(Ljava/lang/Object;)Ljava/lang/Object;"⟩ : MethodName)) hown7 (mvT hZ7 (hw _ (List.mem_of_getElem? (i := 66) rfl))) (mvT hZ7 (hw _ (List.mem_of_getElem? (i := 67) rfl))) (notFace_of_selects (args := #[]) (mvT hZ7 (hw _ (List.mem_of_getElem? (i := 69) rfl)))) (mvT hZ7 (hw _ (List.mem_of_getElem? (i := 69) rfl))) (mvT hZ7 (hw _ (List.mem_of_getElem? (i := 68) rfl))) (by decide) (backOf (W := 0) (own_rm_oeN l Z a0 hw [] G1 G3 k_EMPTY k_ENGLISH s_ENGLISH t_ENGLISH kb_ENGLISH k_JAPANESE s_JAPANESE t_JAPANESE kb_JAPANESE k_CHINESE s_CHINESE t_CHINESE kb_CHINESE k_VALUES kv_VALUES gl k_EMPTY T39.heap n0 (Nat.le_trans Z0 Kp40.1) (F_EMPTY.ext Old41.2)) hZ7 (hw _ (List.mem_of_getElem? (i := 70) rfl)) (hw _ (List.mem_of_getElem? (i := 63) rfl)) (by decide) (by decide)) q42a q42c (g := (mkF m 238 #[.val (.int p1), .val (.int p2), .val (.int p3), .val (.int p4), .val (.int (own_md p1)), .val (.int (own_pk p2)), .val (.int (own_pk p3)), .val (.int (own_pk p4)), .val (.ref b9), .val (.int (2 : Int32)), .val .null, .unset] [.null, (.ref k_EMPTY)])) rfl (by rw [hml]; rfl) (Steps.refl _) (argsL := [.null]) (rest := []) (lenOf own_pd4 rfl) rfl (by show 2 * 0 + _ ≤ _; exact Nat.le_of_eq rfl) (hb hby at_238) (fun _ _ => ⟨rfl, rfl, (by decide : 10 + 0 ≤ _), (by decide : 95 + 0 ≤ _)⟩)
  dsimp only [Pt.U, Pt.locs, Pt.cells, Pt.slots] at X42 l42 y42 z42 st42 hQ42
  subst y42 z42
  obtain ⟨rfl, Nq42, e42⟩ := hQ42
  have N42 : Fr n0 L42 := by rw [l42]; exact Fr.app N39 Nq42
  obtain ⟨fs, hr, hrun, hended, hREW⟩ := X42.leaveW hS7 (by rw [e42]; exact (Nat.le_trans (Nat.le_refl _) (Nat.le_trans (Nat.le_trans (Nat.le_trans (Nat.le_trans (Nat.le_trans E9.1 E11.1) (Keep.of_wr W15).1) (Keep.of_wr W20).1) Kq36.1) Kq39.1))) (v := some (.int (1 : Int32))) (fun h => by rw [Bd.returns] at h; cases h)
  refine ⟨_, _, pre0 _ ?_, hrun, hended, _, _, rfl, ?_, hREW.1, hREW.2.1, hREW.2.2.1, hREW.2.2.2.mono (by decide) (by decide)⟩
  · show Steps p.tables e below (s₁.setTop (mkF m 0 #[.val (.int p1), .val (.int p2), .val (.int p3), .val (.int p4), .unset, .unset, .unset, .unset, .unset, .unset, .unset, .unset] [])) _
    refine XS.iloadN X0.here hx rfl (hb hby at_0) rfl ?_
    show Steps p.tables e below (s₁.setTop (mkF m 1 #[.val (.int p1), .val (.int p2), .val (.int p3), .val (.int p4), .unset, .unset, .unset, .unset, .unset, .unset, .unset, .unset] [(.int p1)])) _
    refine XS.bipush X0.here hx rfl (hb hby at_1) ?_
    show Steps p.tables e below (s₁.setTop (mkF m 3 #[.val (.int p1), .val (.int p2), .val (.int p3), .val (.int p4), .unset, .unset, .unset, .unset, .unset, .unset, .unset, .unset] [(.int (7 : Int32)), (.int p1)])) _
    refine XS.iand X0.here hx rfl (hb hby at_3) rfl ?_
    show Steps p.tables e below (s₁.setTop (mkF m 4 #[.val (.int p1), .val (.int p2), .val (.int p3), .val (.int p4), .unset, .unset, .unset, .unset, .unset, .unset, .unset, .unset] [(.int (own_md p1))])) _
    refine XS.istore X0.here hx rfl (hb hby at_4) rfl (l' := #[.val (.int p1), .val (.int p2), .val (.int p3), .val (.int p4), .val (.int (own_md p1)), .unset, .unset, .unset, .unset, .unset, .unset, .unset]) rfl ?_
    show Steps p.tables e below (s₁.setTop (mkF m 6 #[.val (.int p1), .val (.int p2), .val (.int p3), .val (.int p4), .val (.int (own_md p1)), .unset, .unset, .unset, .unset, .unset, .unset, .unset] [])) _
    refine XS.iloadN X0.here hx rfl (hb hby at_6) rfl ?_
    show Steps p.tables e below (s₁.setTop (mkF m 7 #[.val (.int p1), .val (.int p2), .val (.int p3), .val (.int p4), .val (.int (own_md p1)), .unset, .unset, .unset, .unset, .unset, .unset, .unset] [(.int p2)])) _
    refine st1.trans ?_
    show Steps p.tables e below (T1.setTop (mkF m 10 #[.val (.int p1), .val (.int p2), .val (.int p3), .val (.int p4), .val (.int (own_md p1)), .unset, .unset, .unset, .unset, .unset, .unset, .unset] [(.int (own_pk p2))])) _
    refine XS.istore Xw1.here hx rfl (hb hby at_10) rfl (l' := #[.val (.int p1), .val (.int p2), .val (.int p3), .val (.int p4), .val (.int (own_md p1)), .val (.int (own_pk p2)), .unset, .unset, .unset, .unset, .unset, .unset]) rfl ?_
    show Steps p.tables e below (T1.setTop (mkF m 12 #[.val (.int p1), .val (.int p2), .val (.int p3), .val (.int p4), .val (.int (own_md p1)), .val (.int (own_pk p2)), .unset, .unset, .unset, .unset, .unset, .unset] [])) _
    refine XS.iloadN Xw1.here hx rfl (hb hby at_12) rfl ?_
    show Steps p.tables e below (T1.setTop (mkF m 13 #[.val (.int p1), .val (.int p2), .val (.int p3), .val (.int p4), .val (.int (own_md p1)), .val (.int (own_pk p2)), .unset, .unset, .unset, .unset, .unset, .unset] [(.int p3)])) _
    refine st4.trans ?_
    show Steps p.tables e below (T4.setTop (mkF m 16 #[.val (.int p1), .val (.int p2), .val (.int p3), .val (.int p4), .val (.int (own_md p1)), .val (.int (own_pk p2)), .unset, .unset, .unset, .unset, .unset, .unset] [(.int (own_pk p3))])) _
    refine XS.istore Xw4.here hx rfl (hb hby at_16) rfl (l' := #[.val (.int p1), .val (.int p2), .val (.int p3), .val (.int p4), .val (.int (own_md p1)), .val (.int (own_pk p2)), .val (.int (own_pk p3)), .unset, .unset, .unset, .unset, .unset]) rfl ?_
    show Steps p.tables e below (T4.setTop (mkF m 18 #[.val (.int p1), .val (.int p2), .val (.int p3), .val (.int p4), .val (.int (own_md p1)), .val (.int (own_pk p2)), .val (.int (own_pk p3)), .unset, .unset, .unset, .unset, .unset] [])) _
    refine XS.iloadN Xw4.here hx rfl (hb hby at_18) rfl ?_
    show Steps p.tables e below (T4.setTop (mkF m 19 #[.val (.int p1), .val (.int p2), .val (.int p3), .val (.int p4), .val (.int (own_md p1)), .val (.int (own_pk p2)), .val (.int (own_pk p3)), .unset, .unset, .unset, .unset, .unset] [(.int p4)])) _
    refine st7.trans ?_
    show Steps p.tables e below (T7.setTop (mkF m 22 #[.val (.int p1), .val (.int p2), .val (.int p3), .val (.int p4), .val (.int (own_md p1)), .val (.int (own_pk p2)), .val (.int (own_pk p3)), .unset, .unset, .unset, .unset, .unset] [(.int (own_pk p4))])) _
    refine XS.istore Xw7.here hx rfl (hb hby at_22) rfl (l' := #[.val (.int p1), .val (.int p2), .val (.int p3), .val (.int p4), .val (.int (own_md p1)), .val (.int (own_pk p2)), .val (.int (own_pk p3)), .val (.int (own_pk p4)), .unset, .unset, .unset, .unset]) rfl ?_
    show Steps p.tables e below (T7.setTop (mkF m 24 #[.val (.int p1), .val (.int p2), .val (.int p3), .val (.int p4), .val (.int (own_md p1)), .val (.int (own_pk p2)), .val (.int (own_pk p3)), .val (.int (own_pk p4)), .unset, .unset, .unset, .unset] [])) _
    refine XS.iload Xw7.here hx rfl (hb hby at_24) rfl ?_
    show Steps p.tables e below (T7.setTop (mkF m 26 #[.val (.int p1), .val (.int p2), .val (.int p3), .val (.int p4), .val (.int (own_md p1)), .val (.int (own_pk p2)), .val (.int (own_pk p3)), .val (.int (own_pk p4)), .unset, .unset, .unset, .unset] [(.int (own_md p1))])) _
    refine XS.iconst Xw7.here hx rfl (hb hby at_26) ?_
    show Steps p.tables e below (T7.setTop (mkF m 27 #[.val (.int p1), .val (.int p2), .val (.int p3), .val (.int p4), .val (.int (own_md p1)), .val (.int (own_pk p2)), .val (.int (own_pk p3)), .val (.int (own_pk p4)), .unset, .unset, .unset, .unset] [(.int (4 : Int32)), (.int (own_md p1))])) _
    refine XS.icmpYes Xw7.here hx rfl (pc0 := 27) (pc' := 39) rfl (hb hby at_27) rfl (feq (hk.1 : ¬ ((own_md p1) = (4 : Int32)))).2 (by decide) (by decide) ?_
    show Steps p.tables e below (T7.setTop (mkF m 39 #[.val (.int p1), .val (.int p2), .val (.int p3), .val (.int p4), .val (.int (own_md p1)), .val (.int (own_pk p2)), .val (.int (own_pk p3)), .val (.int (own_pk p4)), .unset, .unset, .unset, .unset] [])) _
    refine XS.iload Xw7.here hx rfl (hb hby at_39) rfl ?_
    show Steps p.tables e below (T7.setTop (mkF m 41 #[.val (.int p1), .val (.int p2), .val (.int p3), .val (.int p4), .val (.int (own_md p1)), .val (.int (own_pk p2)), .val (.int (own_pk p3)), .val (.int (own_pk p4)), .unset, .unset, .unset, .unset] [(.int (own_md p1))])) _
    refine XS.ifYes Xw7.here hx rfl (pc0 := 41) (pc' := 62) rfl (hb hby at_41) rfl ((if0 _ _).trans (feq (hk.2.1 : ¬ ((own_md p1) = (0 : Int32)))).2) (by decide) (by decide) ?_
    show Steps p.tables e below (T7.setTop (mkF m 62 #[.val (.int p1), .val (.int p2), .val (.int p3), .val (.int p4), .val (.int (own_md p1)), .val (.int (own_pk p2)), .val (.int (own_pk p3)), .val (.int (own_pk p4)), .unset, .unset, .unset, .unset] [])) _
    refine XS.iload Xw7.here hx rfl (hb hby at_62) rfl ?_
    show Steps p.tables e below (T7.setTop (mkF m 64 #[.val (.int p1), .val (.int p2), .val (.int p3), .val (.int p4), .val (.int (own_md p1)), .val (.int (own_pk p2)), .val (.int (own_pk p3)), .val (.int (own_pk p4)), .unset, .unset, .unset, .unset] [(.int (own_md p1))])) _
    refine XS.iconst Xw7.here hx rfl (hb hby at_64) ?_
    show Steps p.tables e below (T7.setTop (mkF m 65 #[.val (.int p1), .val (.int p2), .val (.int p3), .val (.int p4), .val (.int (own_md p1)), .val (.int (own_pk p2)), .val (.int (own_pk p3)), .val (.int (own_pk p4)), .unset, .unset, .unset, .unset] [(.int (1 : Int32)), (.int (own_md p1))])) _
    refine XS.icmpYes Xw7.here hx rfl (pc0 := 65) (pc' := 91) rfl (hb hby at_65) rfl (feq (hk.2.2.1 : ¬ ((own_md p1) = (1 : Int32)))).2 (by decide) (by decide) ?_
    show Steps p.tables e below (T7.setTop (mkF m 91 #[.val (.int p1), .val (.int p2), .val (.int p3), .val (.int p4), .val (.int (own_md p1)), .val (.int (own_pk p2)), .val (.int (own_pk p3)), .val (.int (own_pk p4)), .unset, .unset, .unset, .unset] [])) _
    refine XS.iload Xw7.here hx rfl (hb hby at_91) rfl ?_
    show Steps p.tables e below (T7.setTop (mkF m 93 #[.val (.int p1), .val (.int p2), .val (.int p3), .val (.int p4), .val (.int (own_md p1)), .val (.int (own_pk p2)), .val (.int (own_pk p3)), .val (.int (own_pk p4)), .unset, .unset, .unset, .unset] [(.int (own_md p1))])) _
    refine XS.iconst Xw7.here hx rfl (hb hby at_93) ?_
    show Steps p.tables e below (T7.setTop (mkF m 94 #[.val (.int p1), .val (.int p2), .val (.int p3), .val (.int p4), .val (.int (own_md p1)), .val (.int (own_pk p2)), .val (.int (own_pk p3)), .val (.int (own_pk p4)), .unset, .unset, .unset, .unset] [(.int (3 : Int32)), (.int (own_md p1))])) _
    refine XS.icmpYes Xw7.here hx rfl (pc0 := 94) (pc' := 130) rfl (hb hby at_94) rfl (feq (hk.2.2.2 : ¬ ((own_md p1) = (3 : Int32)))).2 (by decide) (by decide) ?_
    show Steps p.tables e below (T7.setTop (mkF m 130 #[.val (.int p1), .val (.int p2), .val (.int p3), .val (.int p4), .val (.int (own_md p1)), .val (.int (own_pk p2)), .val (.int (own_pk p3)), .val (.int (own_pk p4)), .unset, .unset, .unset, .unset] [])) _
    refine st9 _ ?_
    show Steps p.tables e below (T9.setTop (mkF m 133 #[.val (.int p1), .val (.int p2), .val (.int p3), .val (.int p4), .val (.int (own_md p1)), .val (.int (own_pk p2)), .val (.int (own_pk p3)), .val (.int (own_pk p4)), .unset, .unset, .unset, .unset] [(.ref b9)])) _
    refine XS.dup X9.here hx rfl (hb hby at_133) rfl rfl ?_
    show Steps p.tables e below (T9.setTop (mkF m 134 #[.val (.int p1), .val (.int p2), .val (.int p3), .val (.int p4), .val (.int (own_md p1)), .val (.int (own_pk p2)), .val (.int (own_pk p3)), .val (.int (own_pk p4)), .unset, .unset, .unset, .unset] [(.ref b9), (.ref b9)])) _
    refine XS.iconst X9.here hx rfl (hb hby at_134) ?_
    show Steps p.tables e below (T9.setTop (mkF m 135 #[.val (.int p1), .val (.int p2), .val (.int p3), .val (.int p4), .val (.int (own_md p1)), .val (.int (own_pk p2)), .val (.int (own_pk p3)), .val (.int (own_pk p4)), .unset, .unset, .unset, .unset] [(.int (2 : Int32)), (.ref b9), (.ref b9)])) _
    refine st11 _ ?_
    show Steps p.tables e below (T11.setTop (mkF m 137 #[.val (.int p1), .val (.int p2), .val (.int p3), .val (.int p4), .val (.int (own_md p1)), .val (.int (own_pk p2)), .val (.int (own_pk p3)), .val (.int (own_pk p4)), .unset, .unset, .unset, .unset] [(.ref b11), (.ref b9), (.ref b9)])) _
    refine XS.dup X11.here hx rfl (hb hby at_137) rfl rfl ?_
    show Steps p.tables e below (T11.setTop (mkF m 138 #[.val (.int p1), .val (.int p2), .val (.int p3), .val (.int p4), .val (.int (own_md p1)), .val (.int (own_pk p2)), .val (.int (own_pk p3)), .val (.int (own_pk p4)), .unset, .unset, .unset, .unset] [(.ref b11), (.ref b11), (.ref b9), (.ref b9)])) _
    refine XS.iconst X11.here hx rfl (hb hby at_138) ?_
    show Steps p.tables e below (T11.setTop (mkF m 139 #[.val (.int p1), .val (.int p2), .val (.int p3), .val (.int p4), .val (.int (own_md p1)), .val (.int (own_pk p2)), .val (.int (own_pk p3)), .val (.int (own_pk p4)), .unset, .unset, .unset, .unset] [(.int (0 : Int32)), (.ref b11), (.ref b11), (.ref b9), (.ref b9)])) _
    refine XS.iload X11.here hx rfl (hb hby at_139) rfl ?_
    show Steps p.tables e below (T11.setTop (mkF m 141 #[.val (.int p1), .val (.int p2), .val (.int p3), .val (.int p4), .val (.int (own_md p1)), .val (.int (own_pk p2)), .val (.int (own_pk p3)), .val (.int (own_pk p4)), .unset, .unset, .unset, .unset] [(.int (own_pk p2)), (.int (0 : Int32)), (.ref b11), (.ref b11), (.ref b9), (.ref b9)])) _
    refine st15 _ ?_
    show Steps p.tables e below (T15.setTop (mkF m 142 #[.val (.int p1), .val (.int p2), .val (.int p3), .val (.int p4), .val (.int (own_md p1)), .val (.int (own_pk p2)), .val (.int (own_pk p3)), .val (.int (own_pk p4)), .unset, .unset, .unset, .unset] [(.ref b11), (.ref b9), (.ref b9)])) _
    refine XS.dup X15.here hx rfl (hb hby at_142) rfl rfl ?_
    show Steps p.tables e below (T15.setTop (mkF m 143 #[.val (.int p1), .val (.int p2), .val (.int p3), .val (.int p4), .val (.int (own_md p1)), .val (.int (own_pk p2)), .val (.int (own_pk p3)), .val (.int (own_pk p4)), .unset, .unset, .unset, .unset] [(.ref b11), (.ref b11), (.ref b9), (.ref b9)])) _
    refine XS.iconst X15.here hx rfl (hb hby at_143) ?_
    show Steps p.tables e below (T15.setTop (mkF m 144 #[.val (.int p1), .val (.int p2), .val (.int p3), .val (.int p4), .val (.int (own_md p1)), .val (.int (own_pk p2)), .val (.int (own_pk p3)), .val (.int (own_pk p4)), .unset, .unset, .unset, .unset] [(.int (1 : Int32)), (.ref b11), (.ref b11), (.ref b9), (.ref b9)])) _
    refine XS.iload X15.here hx rfl (hb hby at_144) rfl ?_
    show Steps p.tables e below (T15.setTop (mkF m 146 #[.val (.int p1), .val (.int p2), .val (.int p3), .val (.int p4), .val (.int (own_md p1)), .val (.int (own_pk p2)), .val (.int (own_pk p3)), .val (.int (own_pk p4)), .unset, .unset, .unset, .unset] [(.int (own_pk p3)), (.int (1 : Int32)), (.ref b11), (.ref b11), (.ref b9), (.ref b9)])) _
    refine st20 _ ?_
    show Steps p.tables e below (T20.setTop (mkF m 147 #[.val (.int p1), .val (.int p2), .val (.int p3), .val (.int p4), .val (.int (own_md p1)), .val (.int (own_pk p2)), .val (.int (own_pk p3)), .val (.int (own_pk p4)), .unset, .unset, .unset, .unset] [(.ref b11), (.ref b9), (.ref b9)])) _
    refine st36.trans ?_
    show Steps p.tables e below (T36.setTop (mkF m 150 #[.val (.int p1), .val (.int p2), .val (.int p3), .val (.int p4), .val (.int (own_md p1)), .val (.int (own_pk p2)), .val (.int (own_pk p3)), .val (.int (own_pk p4)), .unset, .unset, .unset, .unset] [(.ref b9)])) _
    refine XS.astore X36.here hx rfl (hb hby at_150) rfl rfl (l' := #[.val (.int p1), .val (.int p2), .val (.int p3), .val (.int p4), .val (.int (own_md p1)), .val (.int (own_pk p2)), .val (.int (own_pk p3)), .val (.int (own_pk p4)), .val (.ref b9), .unset, .unset, .unset]) rfl ?_
    show Steps p.tables e below (T36.setTop (mkF m 152 #[.val (.int p1), .val (.int p2), .val (.int p3), .val (.int p4), .val (.int (own_md p1)), .val (.int (own_pk p2)), .val (.int (own_pk p3)), .val (.int (own_pk p4)), .val (.ref b9), .unset, .unset, .unset] [])) _
    refine XS.iconst X36.here hx rfl (hb hby at_152) ?_
    show Steps p.tables e below (T36.setTop (mkF m 153 #[.val (.int p1), .val (.int p2), .val (.int p3), .val (.int p4), .val (.int (own_md p1)), .val (.int (own_pk p2)), .val (.int (own_pk p3)), .val (.int (own_pk p4)), .val (.ref b9), .unset, .unset, .unset] [(.int (2 : Int32))])) _
    refine XS.istore X36.here hx rfl (hb hby at_153) rfl (l' := #[.val (.int p1), .val (.int p2), .val (.int p3), .val (.int p4), .val (.int (own_md p1)), .val (.int (own_pk p2)), .val (.int (own_pk p3)), .val (.int (own_pk p4)), .val (.ref b9), .val (.int (2 : Int32)), .unset, .unset]) rfl ?_
    show Steps p.tables e below (T36.setTop (mkF m 155 #[.val (.int p1), .val (.int p2), .val (.int p3), .val (.int p4), .val (.int (own_md p1)), .val (.int (own_pk p2)), .val (.int (own_pk p3)), .val (.int (own_pk p4)), .val (.ref b9), .val (.int (2 : Int32)), .unset, .unset] [])) _
    refine XS.aconstNull X36.here hx rfl (hb hby at_155) ?_
    show Steps p.tables e below (T36.setTop (mkF m 156 #[.val (.int p1), .val (.int p2), .val (.int p3), .val (.int p4), .val (.int (own_md p1)), .val (.int (own_pk p2)), .val (.int (own_pk p3)), .val (.int (own_pk p4)), .val (.ref b9), .val (.int (2 : Int32)), .unset, .unset] [.null])) _
    refine XS.astore X36.here hx rfl (hb hby at_156) rfl rfl (l' := #[.val (.int p1), .val (.int p2), .val (.int p3), .val (.int p4), .val (.int (own_md p1)), .val (.int (own_pk p2)), .val (.int (own_pk p3)), .val (.int (own_pk p4)), .val (.ref b9), .val (.int (2 : Int32)), .val .null, .unset]) rfl ?_
    show Steps p.tables e below (T36.setTop (mkF m 158 #[.val (.int p1), .val (.int p2), .val (.int p3), .val (.int p4), .val (.int (own_md p1)), .val (.int (own_pk p2)), .val (.int (own_pk p3)), .val (.int (own_pk p4)), .val (.ref b9), .val (.int (2 : Int32)), .val .null, .unset] [])) _
    refine XS.aload X36.here hx rfl (hb hby at_158) rfl rfl ?_
    show Steps p.tables e below (T36.setTop (mkF m 160 #[.val (.int p1), .val (.int p2), .val (.int p3), .val (.int p4), .val (.int (own_md p1)), .val (.int (own_pk p2)), .val (.int (own_pk p3)), .val (.int (own_pk p4)), .val (.ref b9), .val (.int (2 : Int32)), .val .null, .unset] [(.ref b9)])) _
    refine XS.ifnullNo X36.here hx rfl (hb hby at_160) rfl ?_
    show Steps p.tables e below (T36.setTop (mkF m 163 #[.val (.int p1), .val (.int p2), .val (.int p3), .val (.int p4), .val (.int (own_md p1)), .val (.int (own_pk p2)), .val (.int (own_pk p3)), .val (.int (own_pk p4)), .val (.ref b9), .val (.int (2 : Int32)), .val .null, .unset] [])) _
    refine XS.iload X36.here hx rfl (hb hby at_163) rfl ?_
    show Steps p.tables e below (T36.setTop (mkF m 165 #[.val (.int p1), .val (.int p2), .val (.int p3), .val (.int p4), .val (.int (own_md p1)), .val (.int (own_pk p2)), .val (.int (own_pk p3)), .val (.int (own_pk p4)), .val (.ref b9), .val (.int (2 : Int32)), .val .null, .unset] [(.int (2 : Int32))])) _
    refine XS.iconst X36.here hx rfl (hb hby at_165) ?_
    show Steps p.tables e below (T36.setTop (mkF m 166 #[.val (.int p1), .val (.int p2), .val (.int p3), .val (.int p4), .val (.int (own_md p1)), .val (.int (own_pk p2)), .val (.int (own_pk p3)), .val (.int (own_pk p4)), .val (.ref b9), .val (.int (2 : Int32)), .val .null, .unset] [(.int (2 : Int32)), (.int (2 : Int32))])) _
    refine XS.icmpNo X36.here hx rfl (hb hby at_166) rfl (teq (rfl : (2 : Int32) = (2 : Int32))).2 ?_
    show Steps p.tables e below (T36.setTop (mkF m 169 #[.val (.int p1), .val (.int p2), .val (.int p3), .val (.int p4), .val (.int (own_md p1)), .val (.int (own_pk p2)), .val (.int (own_pk p3)), .val (.int (own_pk p4)), .val (.ref b9), .val (.int (2 : Int32)), .val .null, .unset] [])) _
    refine XS.iload X36.here hx rfl (hb hby at_169) rfl ?_
    show Steps p.tables e below (T36.setTop (mkF m 171 #[.val (.int p1), .val (.int p2), .val (.int p3), .val (.int p4), .val (.int (own_md p1)), .val (.int (own_pk p2)), .val (.int (own_pk p3)), .val (.int (own_pk p4)), .val (.ref b9), .val (.int (2 : Int32)), .val .null, .unset] [(.int (own_pk p2))])) _
    refine XS.bipush X36.here hx rfl (hb hby at_171) ?_
    show Steps p.tables e below (T36.setTop (mkF m 173 #[.val (.int p1), .val (.int p2), .val (.int p3), .val (.int p4), .val (.int (own_md p1)), .val (.int (own_pk p2)), .val (.int (own_pk p3)), .val (.int (own_pk p4)), .val (.ref b9), .val (.int (2 : Int32)), .val .null, .unset] [(.int (101 : Int32)), (.int (own_pk p2))])) _
    refine XS.icmpNo X36.here hx rfl (hb hby at_173) rfl (teq hc1).2 ?_
    show Steps p.tables e below (T36.setTop (mkF m 176 #[.val (.int p1), .val (.int p2), .val (.int p3), .val (.int p4), .val (.int (own_md p1)), .val (.int (own_pk p2)), .val (.int (own_pk p3)), .val (.int (own_pk p4)), .val (.ref b9), .val (.int (2 : Int32)), .val .null, .unset] [])) _
    refine XS.iload X36.here hx rfl (hb hby at_176) rfl ?_
    show Steps p.tables e below (T36.setTop (mkF m 178 #[.val (.int p1), .val (.int p2), .val (.int p3), .val (.int p4), .val (.int (own_md p1)), .val (.int (own_pk p2)), .val (.int (own_pk p3)), .val (.int (own_pk p4)), .val (.ref b9), .val (.int (2 : Int32)), .val .null, .unset] [(.int (own_pk p3))])) _
    refine XS.bipush X36.here hx rfl (hb hby at_178) ?_
    show Steps p.tables e below (T36.setTop (mkF m 180 #[.val (.int p1), .val (.int p2), .val (.int p3), .val (.int p4), .val (.int (own_md p1)), .val (.int (own_pk p2)), .val (.int (own_pk p3)), .val (.int (own_pk p4)), .val (.ref b9), .val (.int (2 : Int32)), .val .null, .unset] [(.int (110 : Int32)), (.int (own_pk p3))])) _
    refine XS.icmpYes X36.here hx rfl (pc0 := 180) (pc' := 191) rfl (hb hby at_180) rfl (feq hc2).2 (by decide) (by decide) ?_
    show Steps p.tables e below (T36.setTop (mkF m 191 #[.val (.int p1), .val (.int p2), .val (.int p3), .val (.int p4), .val (.int (own_md p1)), .val (.int (own_pk p2)), .val (.int (own_pk p3)), .val (.int (own_pk p4)), .val (.ref b9), .val (.int (2 : Int32)), .val .null, .unset] [])) _
    refine XS.iload X36.here hx rfl (hb hby at_191) rfl ?_
    show Steps p.tables e below (T36.setTop (mkF m 193 #[.val (.int p1), .val (.int p2), .val (.int p3), .val (.int p4), .val (.int (own_md p1)), .val (.int (own_pk p2)), .val (.int (own_pk p3)), .val (.int (own_pk p4)), .val (.ref b9), .val (.int (2 : Int32)), .val .null, .unset] [(.int (own_pk p2))])) _
    refine XS.bipush X36.here hx rfl (hb hby at_193) ?_
    show Steps p.tables e below (T36.setTop (mkF m 195 #[.val (.int p1), .val (.int p2), .val (.int p3), .val (.int p4), .val (.int (own_md p1)), .val (.int (own_pk p2)), .val (.int (own_pk p3)), .val (.int (own_pk p4)), .val (.ref b9), .val (.int (2 : Int32)), .val .null, .unset] [(.int (106 : Int32)), (.int (own_pk p2))])) _
    refine XS.icmpYes X36.here hx rfl (pc0 := 195) (pc' := 213) rfl (hb hby at_195) rfl (feq (own_cx hc1 (by decide))).2 (by decide) (by decide) ?_
    show Steps p.tables e below (T36.setTop (mkF m 213 #[.val (.int p1), .val (.int p2), .val (.int p3), .val (.int p4), .val (.int (own_md p1)), .val (.int (own_pk p2)), .val (.int (own_pk p3)), .val (.int (own_pk p4)), .val (.ref b9), .val (.int (2 : Int32)), .val .null, .unset] [])) _
    refine XS.iload X36.here hx rfl (hb hby at_213) rfl ?_
    show Steps p.tables e below (T36.setTop (mkF m 215 #[.val (.int p1), .val (.int p2), .val (.int p3), .val (.int p4), .val (.int (own_md p1)), .val (.int (own_pk p2)), .val (.int (own_pk p3)), .val (.int (own_pk p4)), .val (.ref b9), .val (.int (2 : Int32)), .val .null, .unset] [(.int (own_pk p2))])) _
    refine XS.bipush X36.here hx rfl (hb hby at_215) ?_
    show Steps p.tables e below (T36.setTop (mkF m 217 #[.val (.int p1), .val (.int p2), .val (.int p3), .val (.int p4), .val (.int (own_md p1)), .val (.int (own_pk p2)), .val (.int (own_pk p3)), .val (.int (own_pk p4)), .val (.ref b9), .val (.int (2 : Int32)), .val .null, .unset] [(.int (122 : Int32)), (.int (own_pk p2))])) _
    refine XS.icmpYes X36.here hx rfl (pc0 := 217) (pc' := 232) rfl (hb hby at_217) rfl (feq (own_cx hc1 (by decide))).2 (by decide) (by decide) ?_
    show Steps p.tables e below (T36.setTop (mkF m 232 #[.val (.int p1), .val (.int p2), .val (.int p3), .val (.int p4), .val (.int (own_md p1)), .val (.int (own_pk p2)), .val (.int (own_pk p3)), .val (.int (own_pk p4)), .val (.ref b9), .val (.int (2 : Int32)), .val .null, .unset] [])) _
    refine XS.aload X36.here hx rfl (hb hby at_232) rfl rfl ?_
    show Steps p.tables e below (T36.setTop (mkF m 234 #[.val (.int p1), .val (.int p2), .val (.int p3), .val (.int p4), .val (.int (own_md p1)), .val (.int (own_pk p2)), .val (.int (own_pk p3)), .val (.int (own_pk p4)), .val (.ref b9), .val (.int (2 : Int32)), .val .null, .unset] [(.ref b9)])) _
    refine st39 _ ?_
    show Steps p.tables e below (T39.setTop (mkF m 237 #[.val (.int p1), .val (.int p2), .val (.int p3), .val (.int p4), .val (.int (own_md p1)), .val (.int (own_pk p2)), .val (.int (own_pk p3)), .val (.int (own_pk p4)), .val (.ref b9), .val (.int (2 : Int32)), .val .null, .unset] [(.ref k_EMPTY)])) _
    refine XS.aconstNull X39.here hx rfl (hb hby at_237) ?_
    show Steps p.tables e below (T39.setTop (mkF m 238 #[.val (.int p1), .val (.int p2), .val (.int p3), .val (.int p4), .val (.int (own_md p1)), .val (.int (own_pk p2)), .val (.int (own_pk p3)), .val (.int (own_pk p4)), .val (.ref b9), .val (.int (2 : Int32)), .val .null, .unset] [.null, (.ref k_EMPTY)])) _
    refine st42.trans ?_
    show Steps p.tables e below (T42.setTop (mkF m 241 #[.val (.int p1), .val (.int p2), .val (.int p3), .val (.int p4), .val (.int (own_md p1)), .val (.int (own_pk p2)), .val (.int (own_pk p3)), .val (.int (own_pk p4)), .val (.ref b9), .val (.int (2 : Int32)), .val .null, .unset] [.null])) _
    refine X42.checkcastNull hx (g := (mkF m 241 #[.val (.int p1), .val (.int p2), .val (.int p3), .val (.int p4), .val (.int (own_md p1)), .val (.int (own_pk p2)), .val (.int (own_pk p3)), .val (.int (own_pk p4)), .val (.ref b9), .val (.int (2 : Int32)), .val .null, .unset] [.null])) rfl rfl (hb hby at_241) _ ?_
    show Steps p.tables e below (T42.setTop (mkF m 244 #[.val (.int p1), .val (.int p2), .val (.int p3), .val (.int p4), .val (.int (own_md p1)), .val (.int (own_pk p2)), .val (.int (own_pk p3)), .val (.int (own_pk p4)), .val (.ref b9), .val (.int (2 : Int32)), .val .null, .unset] [.null])) _
    refine XS.astore X42.here hx rfl (hb hby at_244) rfl rfl (l' := #[.val (.int p1), .val (.int p2), .val (.int p3), .val (.int p4), .val (.int (own_md p1)), .val (.int (own_pk p2)), .val (.int (own_pk p3)), .val (.int (own_pk p4)), .val (.ref b9), .val (.int (2 : Int32)), .val .null, .val .null]) rfl ?_
    show Steps p.tables e below (T42.setTop (mkF m 246 #[.val (.int p1), .val (.int p2), .val (.int p3), .val (.int p4), .val (.int (own_md p1)), .val (.int (own_pk p2)), .val (.int (own_pk p3)), .val (.int (own_pk p4)), .val (.ref b9), .val (.int (2 : Int32)), .val .null, .val .null] [])) _
    refine XS.aload X42.here hx rfl (hb hby at_246) rfl rfl ?_
    show Steps p.tables e below (T42.setTop (mkF m 248 #[.val (.int p1), .val (.int p2), .val (.int p3), .val (.int p4), .val (.int (own_md p1)), .val (.int (own_pk p2)), .val (.int (own_pk p3)), .val (.int (own_pk p4)), .val (.ref b9), .val (.int (2 : Int32)), .val .null, .val .null] [.null])) _
    refine XS.aload X42.here hx rfl (hb hby at_248) rfl rfl ?_
    show Steps p.tables e below (T42.setTop (mkF m 250 #[.val (.int p1), .val (.int p2), .val (.int p3), .val (.int p4), .val (.int (own_md p1)), .val (.int (own_pk p2)), .val (.int (own_pk p3)), .val (.int (own_pk p4)), .val (.ref b9), .val (.int (2 : Int32)), .val .null, .val .null] [.null, .null])) _
    refine Jvm.RoadKit.acmp (g := (mkF m 250 #[.val (.int p1), .val (.int p2), .val (.int p3), .val (.int p4), .val (.int (own_md p1)), .val (.int (own_pk p2)), .val (.int (own_pk p3)), .val (.int (own_pk p4)), .val (.ref b9), .val (.int (2 : Int32)), .val .null, .val .null] [.null, .null])) X42 hx rfl rfl rfl (pc0 := 250) (pc' := 253) (same := true) rfl (hb hby at_250) rfl (decide_eq_true rfl) (by decide) (by decide) ?_
    show Steps p.tables e below (T42.setTop (mkF m 253 #[.val (.int p1), .val (.int p2), .val (.int p3), .val (.int p4), .val (.int (own_md p1)), .val (.int (own_pk p2)), .val (.int (own_pk p3)), .val (.int (own_pk p4)), .val (.ref b9), .val (.int (2 : Int32)), .val .null, .val .null] [])) _
    refine XS.iconst X42.here hx rfl (hb hby at_253) ?_
    show Steps p.tables e below (T42.setTop (mkF m 254 #[.val (.int p1), .val (.int p2), .val (.int p3), .val (.int p4), .val (.int (own_md p1)), .val (.int (own_pk p2)), .val (.int (own_pk p3)), .val (.int (own_pk p4)), .val (.ref b9), .val (.int (2 : Int32)), .val .null, .val .null] [(.int (1 : Int32))])) _
    refine XS.goto X42.here hx rfl (pc0 := 254) (pc' := 258) rfl (hb hby at_254) (by decide) (by decide) ?_
    show Steps p.tables e below (T42.setTop (mkF m 258 #[.val (.int p1), .val (.int p2), .val (.int p3), .val (.int p4), .val (.int (own_md p1)), .val (.int (own_pk p2)), .val (.int (own_pk p3)), .val (.int (own_pk p4)), .val (.ref b9), .val (.int (2 : Int32)), .val .null, .val .null] [(.int (1 : Int32))])) _
    exact retN X42 hx (t := .boolean) Bd.returns (by simp) (hb hby at_258) hr
  · show own_Qlaw h0 n0 _ T42.heap _
    exact ⟨rfl, N42⟩
theorem own_eflaw2ff (m : MethodId) (p1 : Int32) (p2 : Int32) (p3 : Int32) (p4 : Int32) : entryFrame m #[(.int p1), (.int p2), (.int p3), (.int p4)] maxLocals = mkF m 0 #[.val (.int p1), .val (.int p2), .val (.int p3), .val (.int p4), .unset, .unset, .unset, .unset, .unset, .unset, .unset, .unset] [] := by first | (simp [entryFrame, mkF, argsToLocals, Value.category, maxLocals]; done) | rfl
set_option maxRecDepth 65536 in
set_option maxHeartbeats 40000000 in
theorem own_law2ff (l : Launch) (Z : State) (a0 : Array Value) (hw : ∀ d ∈ tables_1, d.before a0 Z = true) (ws : List Jvm.Cond) (G1 : Int32) (G3 : Value) (k_EMPTY : Addr) (k_ENGLISH : Addr) (s_ENGLISH : Addr) (t_ENGLISH : Addr) (kb_ENGLISH : ClassId) (k_JAPANESE : Addr) (s_JAPANESE : Addr) (t_JAPANESE : Addr) (kb_JAPANESE : ClassId) (k_CHINESE : Addr) (s_CHINESE : Addr) (t_CHINESE : Addr) (kb_CHINESE : ClassId) (k_VALUES : Addr) (kv_VALUES : ClassId) (gl : own_Glob Z G1 G3 k_EMPTY k_ENGLISH s_ENGLISH t_ENGLISH kb_ENGLISH k_JAPANESE s_JAPANESE t_JAPANESE kb_JAPANESE k_CHINESE s_CHINESE t_CHINESE kb_CHINESE k_VALUES kv_VALUES) (p1 : Int32) (p2 : Int32) (p3 : Int32) (p4 : Int32) (h0 : Heap) (n0 : Nat) (Z0 : n0 ≤ h0.size) (X00 : Old Z n0 h0) (hc1 : (own_pk p2) = (101 : Int32)) (hc2 : (own_pk p3) = (110 : Int32)) (hk : ¬ own_md p1 = 4 ∧ ¬ own_md p1 = 0 ∧ ¬ own_md p1 = 1 ∧ ¬ own_md p1 = 3) :
    MetFree l x (head1 (Jvm.Cond.code x code maxLocals ret :: ws) room_1) (fun a U => a = #[(.int p1), (.int p2), (.int p3), (.int p4)] ∧ Z.Warmed39 U.vm ∧ U.heap = h0 ∧ CHv Z consts_1 U.vm h0) (fun _ _ _ _ _ => True) (fun _ U o U' => ∃ v L, o = .returned v ∧ own_Qlaw h0 n0 v U'.heap L ∧ ReturnedEndW U o U' L room_1.cells room_1.slots) := by
  refine MetFree.of_bodySF (plainFor_of_name own_pn8) hisR ?_
  intro p e s m args below meth c s₁ Bd hml0 hP hK
  obtain ⟨rfl, hZ, hh, hCH⟩ := hP
  obtain ⟨O_CS, P_CS, O_SI, P_SI, O_EMPTY, E_EMPTY, F_EMPTY, O_ENGLISH, E_ENGLISH, Fs_ENGLISH, Es_ENGLISH, Fc_ENGLISH, Fv_ENGLISH, V_ENGLISH, O_JAPANESE, E_JAPANESE, Fs_JAPANESE, Es_JAPANESE, Fc_JAPANESE, Fv_JAPANESE, V_JAPANESE, O_CHINESE, E_CHINESE, Fs_CHINESE, Es_CHINESE, Fc_CHINESE, Fv_CHINESE, V_CHINESE, O_VALUES, E_VALUES, V_VALUES⟩ := id gl
  have hx := Bd.exec
  have hby := Bd.bytes
  have hml : c.maxLocals = 12 := hml0
  have hown : s.vm.findClass "com/example/dragoman/dragoman/core/LanguageForCodePinLaw" = some m.cls := findClass_of_methodNamed Bd.named
  have hnm := (name_of_methodNamed Bd.named Bd.method).1
  have X0 : Stand p l e room_1 s m #[(.int p1), (.int p2), (.int p3), (.int p4)] below meth c s₁ [] 0 0 := Stand.of_body Bd
  have e0 : s₁.heap = h0 := by rw [← hh, Bd.state]; rfl
  have N0 := Fr.nil n0
  have pre0 : ∀ t, Steps p.tables e below (s₁.setTop (mkF m 0 #[.val (.int p1), .val (.int p2), .val (.int p3), .val (.int p4), .unset, .unset, .unset, .unset, .unset, .unset, .unset, .unset] [])) t → Steps p.tables e below (s₁.setTop (entryFrame m #[(.int p1), (.int p2), (.int p3), (.int p4)] maxLocals)) t := fun t k => castTop (own_eflaw2ff m p1 p2 p3 p4) k
  obtain ⟨_, _, ⟨T1, L1, k1, n1⟩, -, X1, hSq1, hgr1, ⟨Lc1, hQ1, l1, y1, z1, hCr1⟩, st1⟩ := callSS X0 hx (y := (⟨"com/example/dragoman/dragoman/core/LanguageForCodePinLaw", "pick", "(I)C"⟩ : MethodName)) hown (mvT hZ (hw _ (List.mem_of_getElem? (i := 0) rfl))) (mvT hZ (hw _ (List.mem_of_getElem? (i := 1) rfl))) (mvT hZ (hw _ (List.mem_of_getElem? (i := 2) rfl))) (mvT hZ (hw _ (List.mem_of_getElem? (i := 3) rfl))) (by decide) (backOfSH (s := s) (vm0 := s.vm) (W := 0) (own_rm_pk l Z a0 hw [] G1 G3 k_EMPTY k_ENGLISH s_ENGLISH t_ENGLISH kb_ENGLISH k_JAPANESE s_JAPANESE t_JAPANESE kb_JAPANESE k_CHINESE s_CHINESE t_CHINESE kb_CHINESE k_VALUES kv_VALUES gl p2 h0 n0 Z0 X00 ) hZ (hw _ (List.mem_of_getElem? (i := 3) rfl)) (hw _ (List.mem_of_getElem? (i := 2) rfl)) (by decide) (by decide) (own_EW hw) hCH) (g := (mkF m 7 #[.val (.int p1), .val (.int p2), .val (.int p3), .val (.int p4), .val (.int (own_md p1)), .unset, .unset, .unset, .unset, .unset, .unset, .unset] [(.int p2)])) rfl (by rw [hml]; rfl) (argsL := [(.int p2)]) (rest := []) (lenOf own_pd7 rfl) rfl (by show 2 * 0 + _ ≤ _; exact Nat.le_of_eq rfl) (hb hby at_7) (fun _ _ => ⟨rfl, e0, (by decide : 0 + 2 ≤ _), (by decide : 0 + 28 ≤ _)⟩)
  dsimp only [Pt.U, Pt.locs, Pt.cells, Pt.slots] at X1 l1 y1 z1 st1 hQ1 hSq1 hgr1 hCr1
  subst y1 z1
  obtain ⟨Xw1, hS1, hZ1, hown1⟩ := rebS (vm0 := s.vm) ((State.WarmedH.refl s).since 0) (by rw [e0]; exact (Nat.zero_le _)) X1 hSq1 hgr1 hZ hown
  obtain ⟨rfl, Nq1, Kq1⟩ := hQ1
  have N1 : Fr n0 L1 := by rw [l1]; exact Fr.app N0 Nq1
  have Kp2 : Keep h0 T1.heap [] := (Keep.refl h0 []).trans Kq1 all0
  have Old3 : Old Z n0 T1.heap := X00.keep Kq1 all0
  obtain ⟨_, _, ⟨T4, L4, k4, n4⟩, -, X4, hSq4, hgr4, ⟨Lc4, hQ4, l4, y4, z4, hCr4⟩, st4⟩ := callSS Xw1 hx (y := (⟨"com/example/dragoman/dragoman/core/LanguageForCodePinLaw", "pick", "(I)C"⟩ : MethodName)) hown1 (mvT hZ1 (hw _ (List.mem_of_getElem? (i := 0) rfl))) (mvT hZ1 (hw _ (List.mem_of_getElem? (i := 1) rfl))) (mvT hZ1 (hw _ (List.mem_of_getElem? (i := 2) rfl))) (mvT hZ1 (hw _ (List.mem_of_getElem? (i := 3) rfl))) (by decide) (backOfSH (s := s) (vm0 := T1.vm) (W := 0) (own_rm_pk l Z a0 hw [] G1 G3 k_EMPTY k_ENGLISH s_ENGLISH t_ENGLISH kb_ENGLISH k_JAPANESE s_JAPANESE t_JAPANESE kb_JAPANESE k_CHINESE s_CHINESE t_CHINESE kb_CHINESE k_VALUES kv_VALUES gl p3 T1.heap n0 (Nat.le_trans Z0 Kp2.1) Old3 ) hZ1 (hw _ (List.mem_of_getElem? (i := 3) rfl)) (hw _ (List.mem_of_getElem? (i := 2) rfl)) (by decide) (by decide) (own_EW hw) hCr1.1) (g := (mkF m 13 #[.val (.int p1), .val (.int p2), .val (.int p3), .val (.int p4), .val (.int (own_md p1)), .val (.int (own_pk p2)), .unset, .unset, .unset, .unset, .unset, .unset] [(.int p3)])) rfl (by rw [hml]; rfl) (argsL := [(.int p3)]) (rest := []) (lenOf own_pd7 rfl) rfl (by show 2 * 0 + _ ≤ _; exact Nat.le_of_eq rfl) (hb hby at_13) (fun _ _ => ⟨rfl, rfl, (by decide : 2 + 2 ≤ _), (by decide : 28 + 28 ≤ _)⟩)
  dsimp only [Pt.U, Pt.locs, Pt.cells, Pt.slots] at X4 l4 y4 z4 st4 hQ4 hSq4 hgr4 hCr4
  subst y4 z4
  obtain ⟨Xw4, hS4, hZ4, hown4⟩ := rebS (vm0 := T1.vm) hS1 (Nat.le_refl _) X4 hSq4 hgr4 hZ1 hown1
  obtain ⟨rfl, Nq4, Kq4⟩ := hQ4
  have N4 : Fr n0 L4 := by rw [l4]; exact Fr.app N1 Nq4
  have Kp5 : Keep h0 T4.heap [] := Kp2.trans Kq4 all0
  have Old6 : Old Z n0 T4.heap := Old3.keep Kq4 all0
  obtain ⟨_, _, ⟨T7, L7, k7, n7⟩, -, X7, hSq7, hgr7, ⟨Lc7, hQ7, l7, y7, z7, hCr7⟩, st7⟩ := callSS Xw4 hx (y := (⟨"com/example/dragoman/dragoman/core/LanguageForCodePinLaw", "pick", "(I)C"⟩ : MethodName)) hown4 (mvT hZ4 (hw _ (List.mem_of_getElem? (i := 0) rfl))) (mvT hZ4 (hw _ (List.mem_of_getElem? (i := 1) rfl))) (mvT hZ4 (hw _ (List.mem_of_getElem? (i := 2) rfl))) (mvT hZ4 (hw _ (List.mem_of_getElem? (i := 3) rfl))) (by decide) (backOfSH (s := s) (vm0 := T4.vm) (W := 0) (own_rm_pk l Z a0 hw [] G1 G3 k_EMPTY k_ENGLISH s_ENGLISH t_ENGLISH kb_ENGLISH k_JAPANESE s_JAPANESE t_JAPANESE kb_JAPANESE k_CHINESE s_CHINESE t_CHINESE kb_CHINESE k_VALUES kv_VALUES gl p4 T4.heap n0 (Nat.le_trans Z0 Kp5.1) Old6 ) hZ4 (hw _ (List.mem_of_getElem? (i := 3) rfl)) (hw _ (List.mem_of_getElem? (i := 2) rfl)) (by decide) (by decide) (own_EW hw) hCr4.1) (g := (mkF m 19 #[.val (.int p1), .val (.int p2), .val (.int p3), .val (.int p4), .val (.int (own_md p1)), .val (.int (own_pk p2)), .val (.int (own_pk p3)), .unset, .unset, .unset, .unset, .unset] [(.int p4)])) rfl (by rw [hml]; rfl) (argsL := [(.int p4)]) (rest := []) (lenOf own_pd7 rfl) rfl (by show 2 * 0 + _ ≤ _; exact Nat.le_of_eq rfl) (hb hby at_19) (fun _ _ => ⟨rfl, rfl, (by decide : 4 + 2 ≤ _), (by decide : 56 + 28 ≤ _)⟩)
  dsimp only [Pt.U, Pt.locs, Pt.cells, Pt.slots] at X7 l7 y7 z7 st7 hQ7 hSq7 hgr7 hCr7
  subst y7 z7
  obtain ⟨Xw7, hS7, hZ7, hown7⟩ := rebS (vm0 := T4.vm) hS4 (Nat.le_refl _) X7 hSq7 hgr7 hZ4 hown4
  obtain ⟨rfl, Nq7, Kq7⟩ := hQ7
  have N7 : Fr n0 L7 := by rw [l7]; exact Fr.app N4 Nq7
  have Kp8 : Keep h0 T7.heap [] := Kp5.trans Kq7 all0
  obtain ⟨T9, h9, X9, e9, E9, A9, D9, U9, st9⟩ := newO Xw7 hx hZ7 hown7 (hw _ (List.mem_of_getElem? (i := 4) rfl)) (hw _ (List.mem_of_getElem? (i := 5) rfl)) (hw _ (List.mem_of_getElem? (i := 6) rfl)) rfl (g := (mkF m 130 #[.val (.int p1), .val (.int p2), .val (.int p3), .val (.int p4), .val (.int (own_md p1)), .val (.int (own_pk p2)), .val (.int (own_pk p3)), .val (.int (own_pk p4)), .unset, .unset, .unset, .unset] [])) rfl (hb hby at_130) (by decide) (by decide)
  obtain ⟨b9, g9⟩ : ∃ z, z = T7.heap.size := ⟨_, rfl⟩
  rw [← g9] at A9 D9 U9 st9
  have Kp10 : Keep h0 h9 [] := Kp8.ext E9
  obtain ⟨T11, h11, k11, X11, e11, E11, A11, st11⟩ := newP X9 hx hZ7 (hw _ (List.mem_of_getElem? (i := 7) rfl)) e9 (g := (mkF m 135 #[.val (.int p1), .val (.int p2), .val (.int p3), .val (.int p4), .val (.int (own_md p1)), .val (.int (own_pk p2)), .val (.int (own_pk p3)), .val (.int (own_pk p4)), .unset, .unset, .unset, .unset] [(.int (2 : Int32)), (.ref b9), (.ref b9)])) rfl (hb hby at_135) rfl (by decide) (cap := 2) (by decide) (by decide) (by decide) (by decide)
  obtain ⟨b11, g11⟩ : ∃ z, z = h9.size := ⟨_, rfl⟩
  rw [← g11] at A11 st11
  have Kp12 : Keep h0 h11 [] := Kp10.ext E11
  have Vh13 : Arv Z h11 b11 k11 .char (2 : Int32) [(.int (0 : Int32)), (.int (0 : Int32))] (.int (0 : Int32)) := (Arv.new A11 (by decide)).pad (pad_rep [] (.int (0 : Int32)) 2)
  obtain ⟨cl14, Ar14, qc14, Sz14, Ng14, Hs14, Gs14⟩ := id Vh13
  have hin14 : ¬ ((0 : Int32) < 0 ∨ cl14.slots.size ≤ ((0 : Int32)).toNatClampNeg) := inb_of Sz14 ⟨(by decide), (by decide)⟩
  obtain ⟨T15, h15, X15, e15, W15, st15⟩ := stC X11 hx hZ7 e11 Ar14 (j := (0 : Int32)) hin14 (g := (mkF m 141 #[.val (.int p1), .val (.int p2), .val (.int p3), .val (.int p4), .val (.int (own_md p1)), .val (.int (own_pk p2)), .val (.int (own_pk p3)), .val (.int (own_pk p4)), .unset, .unset, .unset, .unset] [(.int (own_pk p2)), (.int (0 : Int32)), (.ref b11), (.ref b11), (.ref b9), (.ref b9)])) rfl rfl (hb hby at_141)
  have Kp16 : Keep h0 h15 [] := Kp12.wr W15 (Or.inr (Nat.le_trans Kp10.1 (Nat.le_of_eq g11.symm)))
  have gh17 : n0 ≤ b11 := Nat.le_trans (Nat.le_trans Z0 Kp10.1) (Nat.le_of_eq g11.symm)
  obtain ⟨Lp15, X15, N15⟩ := own_pack X15 (Fr.snoc X15 N7 gh17)
  have Vh18 : Arv Z h15 b11 k11 .char (2 : Int32) [(.int (own_q p2)), (.int (0 : Int32))] (.int (0 : Int32)) := (Arv.set Ar14 qc14 Sz14 Ng14 Hs14 Gs14 (fits_nar_char _) W15 0 rfl (Nat.le_of_ble_eq_true rfl))
  obtain ⟨cl19, Ar19, qc19, Sz19, Ng19, Hs19, Gs19⟩ := id Vh18
  have hin19 : ¬ ((1 : Int32) < 0 ∨ cl19.slots.size ≤ ((1 : Int32)).toNatClampNeg) := inb_of Sz19 ⟨(by decide), (by decide)⟩
  obtain ⟨T20, h20, X20, e20, W20, st20⟩ := stC X15 hx hZ7 e15 Ar19 (j := (1 : Int32)) hin19 (g := (mkF m 146 #[.val (.int p1), .val (.int p2), .val (.int p3), .val (.int p4), .val (.int (own_md p1)), .val (.int (own_pk p2)), .val (.int (own_pk p3)), .val (.int (own_pk p4)), .unset, .unset, .unset, .unset] [(.int (own_pk p3)), (.int (1 : Int32)), (.ref b11), (.ref b11), (.ref b9), (.ref b9)])) rfl rfl (hb hby at_146)
  have Kp21 : Keep h0 h20 [] := Kp16.wr W20 (Or.inr (Nat.le_trans Kp10.1 (Nat.le_of_eq g11.symm)))
  obtain ⟨Lp20, X20, N20⟩ := own_pack X20 (Fr.snoc X20 N15 gh17)
  have Vh22 : Arv Z h20 b11 k11 .char (2 : Int32) [(.int (own_q p2)), (.int (own_q p3))] (.int (0 : Int32)) := (Arv.set Ar19 qc19 Sz19 Ng19 Hs19 Gs19 (fits_nar_char _) W20 1 rfl (Nat.le_of_ble_eq_true rfl))
  have Eh23 : Exa Z h20 b9 "java/lang/String" := (((A9.ext E11).wr W15).wr W20)
  have Fh24 : Fld Z h9 b9 "java/lang/String" "value" "[B" .null := (D9 (Or.inr (hw _ (List.mem_of_getElem? (i := 20) rfl))) (ty := (.array .byte)) (by decide))
  have Fh25 : Fld Z h20 b9 "java/lang/String" "value" "[B" .null := (((Fh24.ext E11).other W15 (Or.inl (Nat.ne_of_lt (Nat.lt_of_lt_of_le A9.lt (Nat.le_of_eq g11.symm))))).other W20 (Or.inl (Nat.ne_of_lt (Nat.lt_of_lt_of_le A9.lt (Nat.le_of_eq g11.symm)))))
  have Fh26 : Fld Z h9 b9 "java/lang/String" "coder" "B" (.int (0 : Int32)) := (D9 (Or.inr (hw _ (List.mem_of_getElem? (i := 21) rfl))) (ty := .byte) (by decide))
  have Fh27 : Fld Z h20 b9 "java/lang/String" "coder" "B" (.int (0 : Int32)) := (((Fh26.ext E11).other W15 (Or.inl (Nat.ne_of_lt (Nat.lt_of_lt_of_le A9.lt (Nat.le_of_eq g11.symm))))).other W20 (Or.inl (Nat.ne_of_lt (Nat.lt_of_lt_of_le A9.lt (Nat.le_of_eq g11.symm)))))
  have hph28 : ∀ c ∈ ([(own_q p2), (own_q p3)] : List Int32), ¬ c < 0 ∧ ¬ (255 : Int32) < c := (own_cS (own_rng_q p2) (own_cS (own_rng_q p3) own_c0))
  have hws_words : ∀ d ∈ StrChars.Road.words, d.before a0 Z = true := fun d hd => hw d (own_hws_words d hd)
  have Zh29 : n0 ≤ h20.size := (Nat.le_trans Z0 Kp21.1)
  have gh30 : n0 ≤ b9 := Nat.le_trans (Nat.le_trans Z0 Kp8.1) (Nat.le_of_eq g9.symm)
  have Old31 : Old Z n0 T7.heap := Old6.keep Kq7 all0
  have Old32 : Old Z n0 h9 := Old31.ext E9
  have Old33 : Old Z n0 h11 := Old32.ext E11
  have Old34 : Old Z n0 h15 := Old33.wr W15 gh17
  have Old35 : Old Z n0 h20 := Old34.wr W20 gh17
  obtain ⟨_, _, ⟨T36, L36, k36, n36⟩, -, X36, ⟨Lc36, hQ36, l36, y36, z36⟩, st36⟩ := X20.specialBack hx (y := (⟨"java/lang/String", "<init>", "([C)V"⟩ : MethodName)) rfl hown7 (mvT hZ7 (hw _ (List.mem_of_getElem? (i := 8) rfl))) (mvT hZ7 (hw _ (List.mem_of_getElem? (i := 9) rfl))) (mvT hZ7 (hw _ (List.mem_of_getElem? (i := 10) rfl))) (by decide) (StrChars.Road.backV (W := 1) hZ7 hws_words (kI := 4) (hw _ (List.mem_of_getElem? (i := 5) rfl)) (cs := ([(own_q p2), (own_q p3)] : List Int32)) (bs := ([(own_q p2), (own_q p3)] : List Int32).map (fun c => c.toInt8.toInt32)) (n := 2) gh30 Zh29 Eh23 Fh25 Fh27 Vh22 (O_CS.ext Old35.2) P_CS rfl rfl (by decide) (by decide) hph28 rfl (by decide) (by decide)) (g := (mkF m 147 #[.val (.int p1), .val (.int p2), .val (.int p3), .val (.int p4), .val (.int (own_md p1)), .val (.int (own_pk p2)), .val (.int (own_pk p3)), .val (.int (own_pk p4)), .unset, .unset, .unset, .unset] [(.ref b11), (.ref b9), (.ref b9)])) rfl (by rw [hml]; rfl) (Steps.refl _) (a := b9) (argsL := [(.ref b11)]) (rest := [(.ref b9)]) (lenOf own_pd14 rfl) rfl (by show 2 * 0 + _ ≤ _; exact Nat.le_of_eq rfl) (hb hby at_147) (fun _ _ => ⟨rfl, e20, (by decide : 8 + 1 ≤ _), (by decide : 90 + 2 ≤ _)⟩)
  dsimp only [Pt.U, Pt.locs, Pt.cells, Pt.slots] at X36 l36 y36 z36 st36 hQ36
  subst y36 z36
  obtain ⟨rfl, Nq36, Kq36, Eq36, Cq36, t36, kb36, gt36, szt36, nt36, Vq36, Bq36⟩ := hQ36
  have N36 : Fr n0 L36 := by rw [l36]; exact Fr.app N20 Nq36
  have Kp37 : Keep h0 T36.heap [] := Kp21.trans Kq36 (allS (Or.inr (Nat.le_trans Kp8.1 (Nat.le_of_eq g9.symm))) all0)
  have Old38 : Old Z n0 T36.heap := Old35.keep Kq36 (allS gh30 all0)
  obtain ⟨T39, X39, e39, st39⟩ := getS2 X36 hx hZ7 hown7 (host := "") (Or.inl (hw _ (List.mem_of_getElem? (i := 105) rfl))) Via.refl rfl (O_ENGLISH.ext Old38.2) (g := (mkF m 183 #[.val (.int p1), .val (.int p2), .val (.int p3), .val (.int p4), .val (.int (own_md p1)), .val (.int (own_pk p2)), .val (.int (own_pk p3)), .val (.int (own_pk p4)), .val (.ref b9), .val (.int (2 : Int32)), .val .null, .unset] [])) rfl (hb hby at_183)
  obtain ⟨_, _, ⟨T40, L40, k40, n40⟩, -, X40, ⟨Lc40, hQ40, l40, y40, z40⟩, st40⟩ := Jvm.LawKit.callS X39 hx (y := (⟨"com/example/dragoman/dragoman/core/Language", "forCode", "(Ljava/lang/String;)Ljava/util/Optional;"⟩ : MethodName)) hown7 (mvT hZ7 (hw _ (List.mem_of_getElem? (i := 26) rfl))) (mvT hZ7 (hw _ (List.mem_of_getElem? (i := 27) rfl))) (mvT hZ7 (hw _ (List.mem_of_getElem? (i := 28) rfl))) (mvT hZ7 (hw _ (List.mem_of_getElem? (i := 29) rfl))) (by decide) (backOf (W := 0) (own_rm_fcE l Z a0 hw [] G1 G3 k_EMPTY k_ENGLISH s_ENGLISH t_ENGLISH kb_ENGLISH k_JAPANESE s_JAPANESE t_JAPANESE kb_JAPANESE k_CHINESE s_CHINESE t_CHINESE kb_CHINESE k_VALUES kv_VALUES gl b9 ([(own_q p2), (own_q p3)] : List Int32) t36 (kb36) T36.heap n0 (Nat.le_trans Z0 Kp37.1) Old38 Eq36 Vq36 Cq36 Bq36 hph28 (Nat.le_of_ble_eq_true rfl) (own_l2 hc1 hc2)) hZ7 (hw _ (List.mem_of_getElem? (i := 29) rfl)) (hw _ (List.mem_of_getElem? (i := 28) rfl)) (by decide) (by decide)) (g := (mkF m 234 #[.val (.int p1), .val (.int p2), .val (.int p3), .val (.int p4), .val (.int (own_md p1)), .val (.int (own_pk p2)), .val (.int (own_pk p3)), .val (.int (own_pk p4)), .val (.ref b9), .val (.int (2 : Int32)), .val (.ref k_ENGLISH), .unset] [(.ref b9)])) rfl (by rw [hml]; rfl) (argsL := [(.ref b9)]) (rest := []) (lenOf own_pd13 rfl) rfl (by show 2 * 0 + _ ≤ _; exact Nat.le_of_eq rfl) (hb hby at_234) (fun _ _ => ⟨rfl, e39, (by decide : 9 + 2 ≤ _), (by decide : 92 + 4 ≤ _)⟩)
  dsimp only [Pt.U, Pt.locs, Pt.cells, Pt.slots] at X40 l40 y40 z40 st40 hQ40
  subst y40 z40
  obtain ⟨b1_15_40, rfl, Nq40, Kq40, f40_0, f40_1, f40_2⟩ := hQ40
  have N40 : Fr n0 L40 := by rw [l40]; exact Fr.app N36 Nq40
  have Kp41 : Keep h0 T40.heap [] := Kp37.trans Kq40 all0
  obtain ⟨cq42, kq42, q42a, q42b, q42c⟩ := isOf hZ7 rfl f40_1
  obtain ⟨_, _, ⟨T42, L42, k42, n42⟩, -, X42, ⟨Lc42, hQ42, l42, y42, z42⟩, st42⟩ := X40.virtualBack hx (y := (⟨"java/util/Optional", "orElse", "(Ljava/lang/Object;)Ljava/lang/Object;"⟩ : MethodName)) (z := (⟨"java/util/Optional", "orElse", "(Ljava/lang/Object;)Ljava/lang/Object;"⟩ : MethodName)) hown7 (mvT hZ7 (hw _ (List.mem_of_getElem? (i := 66) rfl))) (mvT hZ7 (hw _ (List.mem_of_getElem? (i := 67) rfl))) (notFace_of_selects (args := #[]) (mvT hZ7 (hw _ (List.mem_of_getElem? (i := 69) rfl)))) (mvT hZ7 (hw _ (List.mem_of_getElem? (i := 69) rfl))) (mvT hZ7 (hw _ (List.mem_of_getElem? (i := 68) rfl))) (by decide) (backOf (W := 0) (own_rm_oeV l Z a0 hw [] G1 G3 k_EMPTY k_ENGLISH s_ENGLISH t_ENGLISH kb_ENGLISH k_JAPANESE s_JAPANESE t_JAPANESE kb_JAPANESE k_CHINESE s_CHINESE t_CHINESE kb_CHINESE k_VALUES kv_VALUES gl b1_15_40 k_ENGLISH T40.heap n0 (Nat.le_trans Z0 Kp41.1) f40_2) hZ7 (hw _ (List.mem_of_getElem? (i := 70) rfl)) (hw _ (List.mem_of_getElem? (i := 63) rfl)) (by decide) (by decide)) q42a q42c (g := (mkF m 238 #[.val (.int p1), .val (.int p2), .val (.int p3), .val (.int p4), .val (.int (own_md p1)), .val (.int (own_pk p2)), .val (.int (own_pk p3)), .val (.int (own_pk p4)), .val (.ref b9), .val (.int (2 : Int32)), .val (.ref k_ENGLISH), .unset] [.null, (.ref b1_15_40)])) rfl (by rw [hml]; rfl) (Steps.refl _) (argsL := [.null]) (rest := []) (lenOf own_pd4 rfl) rfl (by show 2 * 0 + _ ≤ _; exact Nat.le_of_eq rfl) (hb hby at_238) (fun _ _ => ⟨rfl, rfl, (by decide : 11 + 0 ≤ _), (by decide : 96 + 0 ≤ _)⟩)
  dsimp only [Pt.U, Pt.locs, Pt.cells, Pt.slots] at X42 l42 y42 z42 st42 hQ42
  subst y42 z42
  obtain ⟨rfl, Nq42, e42⟩ := hQ42
  have N42 : Fr n0 L42 := by rw [l42]; exact Fr.app N40 Nq42
  have Old43 : Old Z n0 T40.heap := Old38.keep Kq40 all0
  obtain ⟨T44, X44, e44, st44⟩ := castY X42 hx hZ7 hown7 (hw _ (List.mem_of_getElem? (i := 120) rfl)) e42 (Ins.self (E_ENGLISH.ext Old43.2)) (g := (mkF m 241 #[.val (.int p1), .val (.int p2), .val (.int p3), .val (.int p4), .val (.int (own_md p1)), .val (.int (own_pk p2)), .val (.int (own_pk p3)), .val (.int (own_pk p4)), .val (.ref b9), .val (.int (2 : Int32)), .val (.ref k_ENGLISH), .unset] [(.ref k_ENGLISH)])) rfl rfl (hb hby at_241)
  obtain ⟨fs, hr, hrun, hended, hREW⟩ := X44.leaveW hS7 (by rw [e44]; exact (Nat.le_trans (Nat.le_refl _) (Nat.le_trans (Nat.le_trans (Nat.le_trans (Nat.le_trans (Nat.le_trans E9.1 E11.1) (Keep.of_wr W15).1) (Keep.of_wr W20).1) Kq36.1) Kq40.1))) (v := some (.int (1 : Int32))) (fun h => by rw [Bd.returns] at h; cases h)
  refine ⟨_, _, pre0 _ ?_, hrun, hended, _, _, rfl, ?_, hREW.1, hREW.2.1, hREW.2.2.1, hREW.2.2.2.mono (by decide) (by decide)⟩
  · show Steps p.tables e below (s₁.setTop (mkF m 0 #[.val (.int p1), .val (.int p2), .val (.int p3), .val (.int p4), .unset, .unset, .unset, .unset, .unset, .unset, .unset, .unset] [])) _
    refine XS.iloadN X0.here hx rfl (hb hby at_0) rfl ?_
    show Steps p.tables e below (s₁.setTop (mkF m 1 #[.val (.int p1), .val (.int p2), .val (.int p3), .val (.int p4), .unset, .unset, .unset, .unset, .unset, .unset, .unset, .unset] [(.int p1)])) _
    refine XS.bipush X0.here hx rfl (hb hby at_1) ?_
    show Steps p.tables e below (s₁.setTop (mkF m 3 #[.val (.int p1), .val (.int p2), .val (.int p3), .val (.int p4), .unset, .unset, .unset, .unset, .unset, .unset, .unset, .unset] [(.int (7 : Int32)), (.int p1)])) _
    refine XS.iand X0.here hx rfl (hb hby at_3) rfl ?_
    show Steps p.tables e below (s₁.setTop (mkF m 4 #[.val (.int p1), .val (.int p2), .val (.int p3), .val (.int p4), .unset, .unset, .unset, .unset, .unset, .unset, .unset, .unset] [(.int (own_md p1))])) _
    refine XS.istore X0.here hx rfl (hb hby at_4) rfl (l' := #[.val (.int p1), .val (.int p2), .val (.int p3), .val (.int p4), .val (.int (own_md p1)), .unset, .unset, .unset, .unset, .unset, .unset, .unset]) rfl ?_
    show Steps p.tables e below (s₁.setTop (mkF m 6 #[.val (.int p1), .val (.int p2), .val (.int p3), .val (.int p4), .val (.int (own_md p1)), .unset, .unset, .unset, .unset, .unset, .unset, .unset] [])) _
    refine XS.iloadN X0.here hx rfl (hb hby at_6) rfl ?_
    show Steps p.tables e below (s₁.setTop (mkF m 7 #[.val (.int p1), .val (.int p2), .val (.int p3), .val (.int p4), .val (.int (own_md p1)), .unset, .unset, .unset, .unset, .unset, .unset, .unset] [(.int p2)])) _
    refine st1.trans ?_
    show Steps p.tables e below (T1.setTop (mkF m 10 #[.val (.int p1), .val (.int p2), .val (.int p3), .val (.int p4), .val (.int (own_md p1)), .unset, .unset, .unset, .unset, .unset, .unset, .unset] [(.int (own_pk p2))])) _
    refine XS.istore Xw1.here hx rfl (hb hby at_10) rfl (l' := #[.val (.int p1), .val (.int p2), .val (.int p3), .val (.int p4), .val (.int (own_md p1)), .val (.int (own_pk p2)), .unset, .unset, .unset, .unset, .unset, .unset]) rfl ?_
    show Steps p.tables e below (T1.setTop (mkF m 12 #[.val (.int p1), .val (.int p2), .val (.int p3), .val (.int p4), .val (.int (own_md p1)), .val (.int (own_pk p2)), .unset, .unset, .unset, .unset, .unset, .unset] [])) _
    refine XS.iloadN Xw1.here hx rfl (hb hby at_12) rfl ?_
    show Steps p.tables e below (T1.setTop (mkF m 13 #[.val (.int p1), .val (.int p2), .val (.int p3), .val (.int p4), .val (.int (own_md p1)), .val (.int (own_pk p2)), .unset, .unset, .unset, .unset, .unset, .unset] [(.int p3)])) _
    refine st4.trans ?_
    show Steps p.tables e below (T4.setTop (mkF m 16 #[.val (.int p1), .val (.int p2), .val (.int p3), .val (.int p4), .val (.int (own_md p1)), .val (.int (own_pk p2)), .unset, .unset, .unset, .unset, .unset, .unset] [(.int (own_pk p3))])) _
    refine XS.istore Xw4.here hx rfl (hb hby at_16) rfl (l' := #[.val (.int p1), .val (.int p2), .val (.int p3), .val (.int p4), .val (.int (own_md p1)), .val (.int (own_pk p2)), .val (.int (own_pk p3)), .unset, .unset, .unset, .unset, .unset]) rfl ?_
    show Steps p.tables e below (T4.setTop (mkF m 18 #[.val (.int p1), .val (.int p2), .val (.int p3), .val (.int p4), .val (.int (own_md p1)), .val (.int (own_pk p2)), .val (.int (own_pk p3)), .unset, .unset, .unset, .unset, .unset] [])) _
    refine XS.iloadN Xw4.here hx rfl (hb hby at_18) rfl ?_
    show Steps p.tables e below (T4.setTop (mkF m 19 #[.val (.int p1), .val (.int p2), .val (.int p3), .val (.int p4), .val (.int (own_md p1)), .val (.int (own_pk p2)), .val (.int (own_pk p3)), .unset, .unset, .unset, .unset, .unset] [(.int p4)])) _
    refine st7.trans ?_
    show Steps p.tables e below (T7.setTop (mkF m 22 #[.val (.int p1), .val (.int p2), .val (.int p3), .val (.int p4), .val (.int (own_md p1)), .val (.int (own_pk p2)), .val (.int (own_pk p3)), .unset, .unset, .unset, .unset, .unset] [(.int (own_pk p4))])) _
    refine XS.istore Xw7.here hx rfl (hb hby at_22) rfl (l' := #[.val (.int p1), .val (.int p2), .val (.int p3), .val (.int p4), .val (.int (own_md p1)), .val (.int (own_pk p2)), .val (.int (own_pk p3)), .val (.int (own_pk p4)), .unset, .unset, .unset, .unset]) rfl ?_
    show Steps p.tables e below (T7.setTop (mkF m 24 #[.val (.int p1), .val (.int p2), .val (.int p3), .val (.int p4), .val (.int (own_md p1)), .val (.int (own_pk p2)), .val (.int (own_pk p3)), .val (.int (own_pk p4)), .unset, .unset, .unset, .unset] [])) _
    refine XS.iload Xw7.here hx rfl (hb hby at_24) rfl ?_
    show Steps p.tables e below (T7.setTop (mkF m 26 #[.val (.int p1), .val (.int p2), .val (.int p3), .val (.int p4), .val (.int (own_md p1)), .val (.int (own_pk p2)), .val (.int (own_pk p3)), .val (.int (own_pk p4)), .unset, .unset, .unset, .unset] [(.int (own_md p1))])) _
    refine XS.iconst Xw7.here hx rfl (hb hby at_26) ?_
    show Steps p.tables e below (T7.setTop (mkF m 27 #[.val (.int p1), .val (.int p2), .val (.int p3), .val (.int p4), .val (.int (own_md p1)), .val (.int (own_pk p2)), .val (.int (own_pk p3)), .val (.int (own_pk p4)), .unset, .unset, .unset, .unset] [(.int (4 : Int32)), (.int (own_md p1))])) _
    refine XS.icmpYes Xw7.here hx rfl (pc0 := 27) (pc' := 39) rfl (hb hby at_27) rfl (feq (hk.1 : ¬ ((own_md p1) = (4 : Int32)))).2 (by decide) (by decide) ?_
    show Steps p.tables e below (T7.setTop (mkF m 39 #[.val (.int p1), .val (.int p2), .val (.int p3), .val (.int p4), .val (.int (own_md p1)), .val (.int (own_pk p2)), .val (.int (own_pk p3)), .val (.int (own_pk p4)), .unset, .unset, .unset, .unset] [])) _
    refine XS.iload Xw7.here hx rfl (hb hby at_39) rfl ?_
    show Steps p.tables e below (T7.setTop (mkF m 41 #[.val (.int p1), .val (.int p2), .val (.int p3), .val (.int p4), .val (.int (own_md p1)), .val (.int (own_pk p2)), .val (.int (own_pk p3)), .val (.int (own_pk p4)), .unset, .unset, .unset, .unset] [(.int (own_md p1))])) _
    refine XS.ifYes Xw7.here hx rfl (pc0 := 41) (pc' := 62) rfl (hb hby at_41) rfl ((if0 _ _).trans (feq (hk.2.1 : ¬ ((own_md p1) = (0 : Int32)))).2) (by decide) (by decide) ?_
    show Steps p.tables e below (T7.setTop (mkF m 62 #[.val (.int p1), .val (.int p2), .val (.int p3), .val (.int p4), .val (.int (own_md p1)), .val (.int (own_pk p2)), .val (.int (own_pk p3)), .val (.int (own_pk p4)), .unset, .unset, .unset, .unset] [])) _
    refine XS.iload Xw7.here hx rfl (hb hby at_62) rfl ?_
    show Steps p.tables e below (T7.setTop (mkF m 64 #[.val (.int p1), .val (.int p2), .val (.int p3), .val (.int p4), .val (.int (own_md p1)), .val (.int (own_pk p2)), .val (.int (own_pk p3)), .val (.int (own_pk p4)), .unset, .unset, .unset, .unset] [(.int (own_md p1))])) _
    refine XS.iconst Xw7.here hx rfl (hb hby at_64) ?_
    show Steps p.tables e below (T7.setTop (mkF m 65 #[.val (.int p1), .val (.int p2), .val (.int p3), .val (.int p4), .val (.int (own_md p1)), .val (.int (own_pk p2)), .val (.int (own_pk p3)), .val (.int (own_pk p4)), .unset, .unset, .unset, .unset] [(.int (1 : Int32)), (.int (own_md p1))])) _
    refine XS.icmpYes Xw7.here hx rfl (pc0 := 65) (pc' := 91) rfl (hb hby at_65) rfl (feq (hk.2.2.1 : ¬ ((own_md p1) = (1 : Int32)))).2 (by decide) (by decide) ?_
    show Steps p.tables e below (T7.setTop (mkF m 91 #[.val (.int p1), .val (.int p2), .val (.int p3), .val (.int p4), .val (.int (own_md p1)), .val (.int (own_pk p2)), .val (.int (own_pk p3)), .val (.int (own_pk p4)), .unset, .unset, .unset, .unset] [])) _
    refine XS.iload Xw7.here hx rfl (hb hby at_91) rfl ?_
    show Steps p.tables e below (T7.setTop (mkF m 93 #[.val (.int p1), .val (.int p2), .val (.int p3), .val (.int p4), .val (.int (own_md p1)), .val (.int (own_pk p2)), .val (.int (own_pk p3)), .val (.int (own_pk p4)), .unset, .unset, .unset, .unset] [(.int (own_md p1))])) _
    refine XS.iconst Xw7.here hx rfl (hb hby at_93) ?_
    show Steps p.tables e below (T7.setTop (mkF m 94 #[.val (.int p1), .val (.int p2), .val (.int p3), .val (.int p4), .val (.int (own_md p1)), .val (.int (own_pk p2)), .val (.int (own_pk p3)), .val (.int (own_pk p4)), .unset, .unset, .unset, .unset] [(.int (3 : Int32)), (.int (own_md p1))])) _
    refine XS.icmpYes Xw7.here hx rfl (pc0 := 94) (pc' := 130) rfl (hb hby at_94) rfl (feq (hk.2.2.2 : ¬ ((own_md p1) = (3 : Int32)))).2 (by decide) (by decide) ?_
    show Steps p.tables e below (T7.setTop (mkF m 130 #[.val (.int p1), .val (.int p2), .val (.int p3), .val (.int p4), .val (.int (own_md p1)), .val (.int (own_pk p2)), .val (.int (own_pk p3)), .val (.int (own_pk p4)), .unset, .unset, .unset, .unset] [])) _
    refine st9 _ ?_
    show Steps p.tables e below (T9.setTop (mkF m 133 #[.val (.int p1), .val (.int p2), .val (.int p3), .val (.int p4), .val (.int (own_md p1)), .val (.int (own_pk p2)), .val (.int (own_pk p3)), .val (.int (own_pk p4)), .unset, .unset, .unset, .unset] [(.ref b9)])) _
    refine XS.dup X9.here hx rfl (hb hby at_133) rfl rfl ?_
    show Steps p.tables e below (T9.setTop (mkF m 134 #[.val (.int p1), .val (.int p2), .val (.int p3), .val (.int p4), .val (.int (own_md p1)), .val (.int (own_pk p2)), .val (.int (own_pk p3)), .val (.int (own_pk p4)), .unset, .unset, .unset, .unset] [(.ref b9), (.ref b9)])) _
    refine XS.iconst X9.here hx rfl (hb hby at_134) ?_
    show Steps p.tables e below (T9.setTop (mkF m 135 #[.val (.int p1), .val (.int p2), .val (.int p3), .val (.int p4), .val (.int (own_md p1)), .val (.int (own_pk p2)), .val (.int (own_pk p3)), .val (.int (own_pk p4)), .unset, .unset, .unset, .unset] [(.int (2 : Int32)), (.ref b9), (.ref b9)])) _
    refine st11 _ ?_
    show Steps p.tables e below (T11.setTop (mkF m 137 #[.val (.int p1), .val (.int p2), .val (.int p3), .val (.int p4), .val (.int (own_md p1)), .val (.int (own_pk p2)), .val (.int (own_pk p3)), .val (.int (own_pk p4)), .unset, .unset, .unset, .unset] [(.ref b11), (.ref b9), (.ref b9)])) _
    refine XS.dup X11.here hx rfl (hb hby at_137) rfl rfl ?_
    show Steps p.tables e below (T11.setTop (mkF m 138 #[.val (.int p1), .val (.int p2), .val (.int p3), .val (.int p4), .val (.int (own_md p1)), .val (.int (own_pk p2)), .val (.int (own_pk p3)), .val (.int (own_pk p4)), .unset, .unset, .unset, .unset] [(.ref b11), (.ref b11), (.ref b9), (.ref b9)])) _
    refine XS.iconst X11.here hx rfl (hb hby at_138) ?_
    show Steps p.tables e below (T11.setTop (mkF m 139 #[.val (.int p1), .val (.int p2), .val (.int p3), .val (.int p4), .val (.int (own_md p1)), .val (.int (own_pk p2)), .val (.int (own_pk p3)), .val (.int (own_pk p4)), .unset, .unset, .unset, .unset] [(.int (0 : Int32)), (.ref b11), (.ref b11), (.ref b9), (.ref b9)])) _
    refine XS.iload X11.here hx rfl (hb hby at_139) rfl ?_
    show Steps p.tables e below (T11.setTop (mkF m 141 #[.val (.int p1), .val (.int p2), .val (.int p3), .val (.int p4), .val (.int (own_md p1)), .val (.int (own_pk p2)), .val (.int (own_pk p3)), .val (.int (own_pk p4)), .unset, .unset, .unset, .unset] [(.int (own_pk p2)), (.int (0 : Int32)), (.ref b11), (.ref b11), (.ref b9), (.ref b9)])) _
    refine st15 _ ?_
    show Steps p.tables e below (T15.setTop (mkF m 142 #[.val (.int p1), .val (.int p2), .val (.int p3), .val (.int p4), .val (.int (own_md p1)), .val (.int (own_pk p2)), .val (.int (own_pk p3)), .val (.int (own_pk p4)), .unset, .unset, .unset, .unset] [(.ref b11), (.ref b9), (.ref b9)])) _
    refine XS.dup X15.here hx rfl (hb hby at_142) rfl rfl ?_
    show Steps p.tables e below (T15.setTop (mkF m 143 #[.val (.int p1), .val (.int p2), .val (.int p3), .val (.int p4), .val (.int (own_md p1)), .val (.int (own_pk p2)), .val (.int (own_pk p3)), .val (.int (own_pk p4)), .unset, .unset, .unset, .unset] [(.ref b11), (.ref b11), (.ref b9), (.ref b9)])) _
    refine XS.iconst X15.here hx rfl (hb hby at_143) ?_
    show Steps p.tables e below (T15.setTop (mkF m 144 #[.val (.int p1), .val (.int p2), .val (.int p3), .val (.int p4), .val (.int (own_md p1)), .val (.int (own_pk p2)), .val (.int (own_pk p3)), .val (.int (own_pk p4)), .unset, .unset, .unset, .unset] [(.int (1 : Int32)), (.ref b11), (.ref b11), (.ref b9), (.ref b9)])) _
    refine XS.iload X15.here hx rfl (hb hby at_144) rfl ?_
    show Steps p.tables e below (T15.setTop (mkF m 146 #[.val (.int p1), .val (.int p2), .val (.int p3), .val (.int p4), .val (.int (own_md p1)), .val (.int (own_pk p2)), .val (.int (own_pk p3)), .val (.int (own_pk p4)), .unset, .unset, .unset, .unset] [(.int (own_pk p3)), (.int (1 : Int32)), (.ref b11), (.ref b11), (.ref b9), (.ref b9)])) _
    refine st20 _ ?_
    show Steps p.tables e below (T20.setTop (mkF m 147 #[.val (.int p1), .val (.int p2), .val (.int p3), .val (.int p4), .val (.int (own_md p1)), .val (.int (own_pk p2)), .val (.int (own_pk p3)), .val (.int (own_pk p4)), .unset, .unset, .unset, .unset] [(.ref b11), (.ref b9), (.ref b9)])) _
    refine st36.trans ?_
    show Steps p.tables e below (T36.setTop (mkF m 150 #[.val (.int p1), .val (.int p2), .val (.int p3), .val (.int p4), .val (.int (own_md p1)), .val (.int (own_pk p2)), .val (.int (own_pk p3)), .val (.int (own_pk p4)), .unset, .unset, .unset, .unset] [(.ref b9)])) _
    refine XS.astore X36.here hx rfl (hb hby at_150) rfl rfl (l' := #[.val (.int p1), .val (.int p2), .val (.int p3), .val (.int p4), .val (.int (own_md p1)), .val (.int (own_pk p2)), .val (.int (own_pk p3)), .val (.int (own_pk p4)), .val (.ref b9), .unset, .unset, .unset]) rfl ?_
    show Steps p.tables e below (T36.setTop (mkF m 152 #[.val (.int p1), .val (.int p2), .val (.int p3), .val (.int p4), .val (.int (own_md p1)), .val (.int (own_pk p2)), .val (.int (own_pk p3)), .val (.int (own_pk p4)), .val (.ref b9), .unset, .unset, .unset] [])) _
    refine XS.iconst X36.here hx rfl (hb hby at_152) ?_
    show Steps p.tables e below (T36.setTop (mkF m 153 #[.val (.int p1), .val (.int p2), .val (.int p3), .val (.int p4), .val (.int (own_md p1)), .val (.int (own_pk p2)), .val (.int (own_pk p3)), .val (.int (own_pk p4)), .val (.ref b9), .unset, .unset, .unset] [(.int (2 : Int32))])) _
    refine XS.istore X36.here hx rfl (hb hby at_153) rfl (l' := #[.val (.int p1), .val (.int p2), .val (.int p3), .val (.int p4), .val (.int (own_md p1)), .val (.int (own_pk p2)), .val (.int (own_pk p3)), .val (.int (own_pk p4)), .val (.ref b9), .val (.int (2 : Int32)), .unset, .unset]) rfl ?_
    show Steps p.tables e below (T36.setTop (mkF m 155 #[.val (.int p1), .val (.int p2), .val (.int p3), .val (.int p4), .val (.int (own_md p1)), .val (.int (own_pk p2)), .val (.int (own_pk p3)), .val (.int (own_pk p4)), .val (.ref b9), .val (.int (2 : Int32)), .unset, .unset] [])) _
    refine XS.aconstNull X36.here hx rfl (hb hby at_155) ?_
    show Steps p.tables e below (T36.setTop (mkF m 156 #[.val (.int p1), .val (.int p2), .val (.int p3), .val (.int p4), .val (.int (own_md p1)), .val (.int (own_pk p2)), .val (.int (own_pk p3)), .val (.int (own_pk p4)), .val (.ref b9), .val (.int (2 : Int32)), .unset, .unset] [.null])) _
    refine XS.astore X36.here hx rfl (hb hby at_156) rfl rfl (l' := #[.val (.int p1), .val (.int p2), .val (.int p3), .val (.int p4), .val (.int (own_md p1)), .val (.int (own_pk p2)), .val (.int (own_pk p3)), .val (.int (own_pk p4)), .val (.ref b9), .val (.int (2 : Int32)), .val .null, .unset]) rfl ?_
    show Steps p.tables e below (T36.setTop (mkF m 158 #[.val (.int p1), .val (.int p2), .val (.int p3), .val (.int p4), .val (.int (own_md p1)), .val (.int (own_pk p2)), .val (.int (own_pk p3)), .val (.int (own_pk p4)), .val (.ref b9), .val (.int (2 : Int32)), .val .null, .unset] [])) _
    refine XS.aload X36.here hx rfl (hb hby at_158) rfl rfl ?_
    show Steps p.tables e below (T36.setTop (mkF m 160 #[.val (.int p1), .val (.int p2), .val (.int p3), .val (.int p4), .val (.int (own_md p1)), .val (.int (own_pk p2)), .val (.int (own_pk p3)), .val (.int (own_pk p4)), .val (.ref b9), .val (.int (2 : Int32)), .val .null, .unset] [(.ref b9)])) _
    refine XS.ifnullNo X36.here hx rfl (hb hby at_160) rfl ?_
    show Steps p.tables e below (T36.setTop (mkF m 163 #[.val (.int p1), .val (.int p2), .val (.int p3), .val (.int p4), .val (.int (own_md p1)), .val (.int (own_pk p2)), .val (.int (own_pk p3)), .val (.int (own_pk p4)), .val (.ref b9), .val (.int (2 : Int32)), .val .null, .unset] [])) _
    refine XS.iload X36.here hx rfl (hb hby at_163) rfl ?_
    show Steps p.tables e below (T36.setTop (mkF m 165 #[.val (.int p1), .val (.int p2), .val (.int p3), .val (.int p4), .val (.int (own_md p1)), .val (.int (own_pk p2)), .val (.int (own_pk p3)), .val (.int (own_pk p4)), .val (.ref b9), .val (.int (2 : Int32)), .val .null, .unset] [(.int (2 : Int32))])) _
    refine XS.iconst X36.here hx rfl (hb hby at_165) ?_
    show Steps p.tables e below (T36.setTop (mkF m 166 #[.val (.int p1), .val (.int p2), .val (.int p3), .val (.int p4), .val (.int (own_md p1)), .val (.int (own_pk p2)), .val (.int (own_pk p3)), .val (.int (own_pk p4)), .val (.ref b9), .val (.int (2 : Int32)), .val .null, .unset] [(.int (2 : Int32)), (.int (2 : Int32))])) _
    refine XS.icmpNo X36.here hx rfl (hb hby at_166) rfl (teq (rfl : (2 : Int32) = (2 : Int32))).2 ?_
    show Steps p.tables e below (T36.setTop (mkF m 169 #[.val (.int p1), .val (.int p2), .val (.int p3), .val (.int p4), .val (.int (own_md p1)), .val (.int (own_pk p2)), .val (.int (own_pk p3)), .val (.int (own_pk p4)), .val (.ref b9), .val (.int (2 : Int32)), .val .null, .unset] [])) _
    refine XS.iload X36.here hx rfl (hb hby at_169) rfl ?_
    show Steps p.tables e below (T36.setTop (mkF m 171 #[.val (.int p1), .val (.int p2), .val (.int p3), .val (.int p4), .val (.int (own_md p1)), .val (.int (own_pk p2)), .val (.int (own_pk p3)), .val (.int (own_pk p4)), .val (.ref b9), .val (.int (2 : Int32)), .val .null, .unset] [(.int (own_pk p2))])) _
    refine XS.bipush X36.here hx rfl (hb hby at_171) ?_
    show Steps p.tables e below (T36.setTop (mkF m 173 #[.val (.int p1), .val (.int p2), .val (.int p3), .val (.int p4), .val (.int (own_md p1)), .val (.int (own_pk p2)), .val (.int (own_pk p3)), .val (.int (own_pk p4)), .val (.ref b9), .val (.int (2 : Int32)), .val .null, .unset] [(.int (101 : Int32)), (.int (own_pk p2))])) _
    refine XS.icmpNo X36.here hx rfl (hb hby at_173) rfl (teq hc1).2 ?_
    show Steps p.tables e below (T36.setTop (mkF m 176 #[.val (.int p1), .val (.int p2), .val (.int p3), .val (.int p4), .val (.int (own_md p1)), .val (.int (own_pk p2)), .val (.int (own_pk p3)), .val (.int (own_pk p4)), .val (.ref b9), .val (.int (2 : Int32)), .val .null, .unset] [])) _
    refine XS.iload X36.here hx rfl (hb hby at_176) rfl ?_
    show Steps p.tables e below (T36.setTop (mkF m 178 #[.val (.int p1), .val (.int p2), .val (.int p3), .val (.int p4), .val (.int (own_md p1)), .val (.int (own_pk p2)), .val (.int (own_pk p3)), .val (.int (own_pk p4)), .val (.ref b9), .val (.int (2 : Int32)), .val .null, .unset] [(.int (own_pk p3))])) _
    refine XS.bipush X36.here hx rfl (hb hby at_178) ?_
    show Steps p.tables e below (T36.setTop (mkF m 180 #[.val (.int p1), .val (.int p2), .val (.int p3), .val (.int p4), .val (.int (own_md p1)), .val (.int (own_pk p2)), .val (.int (own_pk p3)), .val (.int (own_pk p4)), .val (.ref b9), .val (.int (2 : Int32)), .val .null, .unset] [(.int (110 : Int32)), (.int (own_pk p3))])) _
    refine XS.icmpNo X36.here hx rfl (hb hby at_180) rfl (teq hc2).2 ?_
    show Steps p.tables e below (T36.setTop (mkF m 183 #[.val (.int p1), .val (.int p2), .val (.int p3), .val (.int p4), .val (.int (own_md p1)), .val (.int (own_pk p2)), .val (.int (own_pk p3)), .val (.int (own_pk p4)), .val (.ref b9), .val (.int (2 : Int32)), .val .null, .unset] [])) _
    refine st39 _ ?_
    show Steps p.tables e below (T39.setTop (mkF m 186 #[.val (.int p1), .val (.int p2), .val (.int p3), .val (.int p4), .val (.int (own_md p1)), .val (.int (own_pk p2)), .val (.int (own_pk p3)), .val (.int (own_pk p4)), .val (.ref b9), .val (.int (2 : Int32)), .val .null, .unset] [(.ref k_ENGLISH)])) _
    refine XS.astore X39.here hx rfl (hb hby at_186) rfl rfl (l' := #[.val (.int p1), .val (.int p2), .val (.int p3), .val (.int p4), .val (.int (own_md p1)), .val (.int (own_pk p2)), .val (.int (own_pk p3)), .val (.int (own_pk p4)), .val (.ref b9), .val (.int (2 : Int32)), .val (.ref k_ENGLISH), .unset]) rfl ?_
    show Steps p.tables e below (T39.setTop (mkF m 188 #[.val (.int p1), .val (.int p2), .val (.int p3), .val (.int p4), .val (.int (own_md p1)), .val (.int (own_pk p2)), .val (.int (own_pk p3)), .val (.int (own_pk p4)), .val (.ref b9), .val (.int (2 : Int32)), .val (.ref k_ENGLISH), .unset] [])) _
    refine XS.goto X39.here hx rfl (pc0 := 188) (pc' := 232) rfl (hb hby at_188) (by decide) (by decide) ?_
    show Steps p.tables e below (T39.setTop (mkF m 232 #[.val (.int p1), .val (.int p2), .val (.int p3), .val (.int p4), .val (.int (own_md p1)), .val (.int (own_pk p2)), .val (.int (own_pk p3)), .val (.int (own_pk p4)), .val (.ref b9), .val (.int (2 : Int32)), .val (.ref k_ENGLISH), .unset] [])) _
    refine XS.aload X39.here hx rfl (hb hby at_232) rfl rfl ?_
    show Steps p.tables e below (T39.setTop (mkF m 234 #[.val (.int p1), .val (.int p2), .val (.int p3), .val (.int p4), .val (.int (own_md p1)), .val (.int (own_pk p2)), .val (.int (own_pk p3)), .val (.int (own_pk p4)), .val (.ref b9), .val (.int (2 : Int32)), .val (.ref k_ENGLISH), .unset] [(.ref b9)])) _
    refine st40 _ ?_
    show Steps p.tables e below (T40.setTop (mkF m 237 #[.val (.int p1), .val (.int p2), .val (.int p3), .val (.int p4), .val (.int (own_md p1)), .val (.int (own_pk p2)), .val (.int (own_pk p3)), .val (.int (own_pk p4)), .val (.ref b9), .val (.int (2 : Int32)), .val (.ref k_ENGLISH), .unset] [(.ref b1_15_40)])) _
    refine XS.aconstNull X40.here hx rfl (hb hby at_237) ?_
    show Steps p.tables e below (T40.setTop (mkF m 238 #[.val (.int p1), .val (.int p2), .val (.int p3), .val (.int p4), .val (.int (own_md p1)), .val (.int (own_pk p2)), .val (.int (own_pk p3)), .val (.int (own_pk p4)), .val (.ref b9), .val (.int (2 : Int32)), .val (.ref k_ENGLISH), .unset] [.null, (.ref b1_15_40)])) _
    refine st42.trans ?_
    show Steps p.tables e below (T42.setTop (mkF m 241 #[.val (.int p1), .val (.int p2), .val (.int p3), .val (.int p4), .val (.int (own_md p1)), .val (.int (own_pk p2)), .val (.int (own_pk p3)), .val (.int (own_pk p4)), .val (.ref b9), .val (.int (2 : Int32)), .val (.ref k_ENGLISH), .unset] [(.ref k_ENGLISH)])) _
    refine st44 _ ?_
    show Steps p.tables e below (T44.setTop (mkF m 244 #[.val (.int p1), .val (.int p2), .val (.int p3), .val (.int p4), .val (.int (own_md p1)), .val (.int (own_pk p2)), .val (.int (own_pk p3)), .val (.int (own_pk p4)), .val (.ref b9), .val (.int (2 : Int32)), .val (.ref k_ENGLISH), .unset] [(.ref k_ENGLISH)])) _
    refine XS.astore X44.here hx rfl (hb hby at_244) rfl rfl (l' := #[.val (.int p1), .val (.int p2), .val (.int p3), .val (.int p4), .val (.int (own_md p1)), .val (.int (own_pk p2)), .val (.int (own_pk p3)), .val (.int (own_pk p4)), .val (.ref b9), .val (.int (2 : Int32)), .val (.ref k_ENGLISH), .val (.ref k_ENGLISH)]) rfl ?_
    show Steps p.tables e below (T44.setTop (mkF m 246 #[.val (.int p1), .val (.int p2), .val (.int p3), .val (.int p4), .val (.int (own_md p1)), .val (.int (own_pk p2)), .val (.int (own_pk p3)), .val (.int (own_pk p4)), .val (.ref b9), .val (.int (2 : Int32)), .val (.ref k_ENGLISH), .val (.ref k_ENGLISH)] [])) _
    refine XS.aload X44.here hx rfl (hb hby at_246) rfl rfl ?_
    show Steps p.tables e below (T44.setTop (mkF m 248 #[.val (.int p1), .val (.int p2), .val (.int p3), .val (.int p4), .val (.int (own_md p1)), .val (.int (own_pk p2)), .val (.int (own_pk p3)), .val (.int (own_pk p4)), .val (.ref b9), .val (.int (2 : Int32)), .val (.ref k_ENGLISH), .val (.ref k_ENGLISH)] [(.ref k_ENGLISH)])) _
    refine XS.aload X44.here hx rfl (hb hby at_248) rfl rfl ?_
    show Steps p.tables e below (T44.setTop (mkF m 250 #[.val (.int p1), .val (.int p2), .val (.int p3), .val (.int p4), .val (.int (own_md p1)), .val (.int (own_pk p2)), .val (.int (own_pk p3)), .val (.int (own_pk p4)), .val (.ref b9), .val (.int (2 : Int32)), .val (.ref k_ENGLISH), .val (.ref k_ENGLISH)] [(.ref k_ENGLISH), (.ref k_ENGLISH)])) _
    refine Jvm.RoadKit.acmp (g := (mkF m 250 #[.val (.int p1), .val (.int p2), .val (.int p3), .val (.int p4), .val (.int (own_md p1)), .val (.int (own_pk p2)), .val (.int (own_pk p3)), .val (.int (own_pk p4)), .val (.ref b9), .val (.int (2 : Int32)), .val (.ref k_ENGLISH), .val (.ref k_ENGLISH)] [(.ref k_ENGLISH), (.ref k_ENGLISH)])) X44 hx rfl rfl rfl (pc0 := 250) (pc' := 253) (same := true) rfl (hb hby at_250) rfl (decide_eq_true rfl) (by decide) (by decide) ?_
    show Steps p.tables e below (T44.setTop (mkF m 253 #[.val (.int p1), .val (.int p2), .val (.int p3), .val (.int p4), .val (.int (own_md p1)), .val (.int (own_pk p2)), .val (.int (own_pk p3)), .val (.int (own_pk p4)), .val (.ref b9), .val (.int (2 : Int32)), .val (.ref k_ENGLISH), .val (.ref k_ENGLISH)] [])) _
    refine XS.iconst X44.here hx rfl (hb hby at_253) ?_
    show Steps p.tables e below (T44.setTop (mkF m 254 #[.val (.int p1), .val (.int p2), .val (.int p3), .val (.int p4), .val (.int (own_md p1)), .val (.int (own_pk p2)), .val (.int (own_pk p3)), .val (.int (own_pk p4)), .val (.ref b9), .val (.int (2 : Int32)), .val (.ref k_ENGLISH), .val (.ref k_ENGLISH)] [(.int (1 : Int32))])) _
    refine XS.goto X44.here hx rfl (pc0 := 254) (pc' := 258) rfl (hb hby at_254) (by decide) (by decide) ?_
    show Steps p.tables e below (T44.setTop (mkF m 258 #[.val (.int p1), .val (.int p2), .val (.int p3), .val (.int p4), .val (.int (own_md p1)), .val (.int (own_pk p2)), .val (.int (own_pk p3)), .val (.int (own_pk p4)), .val (.ref b9), .val (.int (2 : Int32)), .val (.ref k_ENGLISH), .val (.ref k_ENGLISH)] [(.int (1 : Int32))])) _
    exact retN X44 hx (t := .boolean) Bd.returns (by simp) (hb hby at_258) hr
  · show own_Qlaw h0 n0 _ T44.heap _
    exact ⟨rfl, N42⟩
set_option maxRecDepth 65536 in
theorem own_law2 (l : Launch) (Z : State) (a0 : Array Value) (hw : ∀ d ∈ tables_1, d.before a0 Z = true) (ws : List Jvm.Cond) (G1 : Int32) (G3 : Value) (k_EMPTY : Addr) (k_ENGLISH : Addr) (s_ENGLISH : Addr) (t_ENGLISH : Addr) (kb_ENGLISH : ClassId) (k_JAPANESE : Addr) (s_JAPANESE : Addr) (t_JAPANESE : Addr) (kb_JAPANESE : ClassId) (k_CHINESE : Addr) (s_CHINESE : Addr) (t_CHINESE : Addr) (kb_CHINESE : ClassId) (k_VALUES : Addr) (kv_VALUES : ClassId) (gl : own_Glob Z G1 G3 k_EMPTY k_ENGLISH s_ENGLISH t_ENGLISH kb_ENGLISH k_JAPANESE s_JAPANESE t_JAPANESE kb_JAPANESE k_CHINESE s_CHINESE t_CHINESE kb_CHINESE k_VALUES kv_VALUES) (p1 p2 p3 p4 : Int32) (h0 : Heap) (n0 : Nat) (Z0 : n0 ≤ h0.size) (X00 : Old Z n0 h0) (hk : ¬ own_md p1 = 4 ∧ ¬ own_md p1 = 0 ∧ ¬ own_md p1 = 1 ∧ ¬ own_md p1 = 3) :
    MetFree l x (head1 (Jvm.Cond.code x code maxLocals ret :: ws) room_1) (fun a U => a = #[(.int p1), (.int p2), (.int p3), (.int p4)] ∧ Z.Warmed39 U.vm ∧ U.heap = h0 ∧ CHv Z consts_1 U.vm h0) (fun _ _ _ _ _ => True) (fun _ U o U' => ∃ v L, o = .returned v ∧ own_Qlaw h0 n0 v U'.heap L ∧ ReturnedEndW U o U' L room_1.cells room_1.slots) := by
  by_cases hx0 : (own_pk p2) = (101 : Int32)
  · by_cases hx1 : (own_pk p3) = (110 : Int32)
    · exact own_law2ff l Z a0 hw ws G1 G3 k_EMPTY k_ENGLISH s_ENGLISH t_ENGLISH kb_ENGLISH k_JAPANESE s_JAPANESE t_JAPANESE kb_JAPANESE k_CHINESE s_CHINESE t_CHINESE kb_CHINESE k_VALUES kv_VALUES gl p1 p2 p3 p4 h0 n0 Z0 X00 hx0 hx1 hk
    · exact own_law2ft l Z a0 hw ws G1 G3 k_EMPTY k_ENGLISH s_ENGLISH t_ENGLISH kb_ENGLISH k_JAPANESE s_JAPANESE t_JAPANESE kb_JAPANESE k_CHINESE s_CHINESE t_CHINESE kb_CHINESE k_VALUES kv_VALUES gl p1 p2 p3 p4 h0 n0 Z0 X00 hx0 hx1 hk
  · by_cases hx1 : (own_pk p2) = (106 : Int32)
    · by_cases hx2 : (own_pk p3) = (97 : Int32)
      · exact own_law2tff l Z a0 hw ws G1 G3 k_EMPTY k_ENGLISH s_ENGLISH t_ENGLISH kb_ENGLISH k_JAPANESE s_JAPANESE t_JAPANESE kb_JAPANESE k_CHINESE s_CHINESE t_CHINESE kb_CHINESE k_VALUES kv_VALUES gl p1 p2 p3 p4 h0 n0 Z0 X00 hx0 hx1 hx2 hk
      · exact own_law2tft l Z a0 hw ws G1 G3 k_EMPTY k_ENGLISH s_ENGLISH t_ENGLISH kb_ENGLISH k_JAPANESE s_JAPANESE t_JAPANESE kb_JAPANESE k_CHINESE s_CHINESE t_CHINESE kb_CHINESE k_VALUES kv_VALUES gl p1 p2 p3 p4 h0 n0 Z0 X00 hx0 hx1 hx2 hk
    · by_cases hx2 : (own_pk p2) = (122 : Int32)
      · by_cases hx3 : (own_pk p3) = (104 : Int32)
        · exact own_law2ttff l Z a0 hw ws G1 G3 k_EMPTY k_ENGLISH s_ENGLISH t_ENGLISH kb_ENGLISH k_JAPANESE s_JAPANESE t_JAPANESE kb_JAPANESE k_CHINESE s_CHINESE t_CHINESE kb_CHINESE k_VALUES kv_VALUES gl p1 p2 p3 p4 h0 n0 Z0 X00 hx0 hx1 hx2 hx3 hk
        · exact own_law2ttft l Z a0 hw ws G1 G3 k_EMPTY k_ENGLISH s_ENGLISH t_ENGLISH kb_ENGLISH k_JAPANESE s_JAPANESE t_JAPANESE kb_JAPANESE k_CHINESE s_CHINESE t_CHINESE kb_CHINESE k_VALUES kv_VALUES gl p1 p2 p3 p4 h0 n0 Z0 X00 hx0 hx1 hx2 hx3 hk
      · exact own_law2ttt l Z a0 hw ws G1 G3 k_EMPTY k_ENGLISH s_ENGLISH t_ENGLISH kb_ENGLISH k_JAPANESE s_JAPANESE t_JAPANESE kb_JAPANESE k_CHINESE s_CHINESE t_CHINESE kb_CHINESE k_VALUES kv_VALUES gl p1 p2 p3 p4 h0 n0 Z0 X00 hx0 hx1 hx2 hk
set_option maxRecDepth 65536 in
theorem own_law (l : Launch) (Z : State) (a0 : Array Value) (hw : ∀ d ∈ tables_1, d.before a0 Z = true) (ws : List Jvm.Cond) (G1 : Int32) (G3 : Value) (k_EMPTY : Addr) (k_ENGLISH : Addr) (s_ENGLISH : Addr) (t_ENGLISH : Addr) (kb_ENGLISH : ClassId) (k_JAPANESE : Addr) (s_JAPANESE : Addr) (t_JAPANESE : Addr) (kb_JAPANESE : ClassId) (k_CHINESE : Addr) (s_CHINESE : Addr) (t_CHINESE : Addr) (kb_CHINESE : ClassId) (k_VALUES : Addr) (kv_VALUES : ClassId) (gl : own_Glob Z G1 G3 k_EMPTY k_ENGLISH s_ENGLISH t_ENGLISH kb_ENGLISH k_JAPANESE s_JAPANESE t_JAPANESE kb_JAPANESE k_CHINESE s_CHINESE t_CHINESE kb_CHINESE k_VALUES kv_VALUES) (p1 p2 p3 p4 : Int32) (h0 : Heap) (n0 : Nat) (Z0 : n0 ≤ h0.size) (X00 : Old Z n0 h0) :
    MetFree l x (head1 (Jvm.Cond.code x code maxLocals ret :: ws) room_1) (fun a U => a = #[(.int p1), (.int p2), (.int p3), (.int p4)] ∧ Z.Warmed39 U.vm ∧ U.heap = h0 ∧ CHv Z consts_1 U.vm h0) (fun _ _ _ _ _ => True) (fun _ U o U' => ∃ v L, o = .returned v ∧ own_Qlaw h0 n0 v U'.heap L ∧ ReturnedEndW U o U' L room_1.cells room_1.slots) := by
  rcases own_mdc p1 with hk | hk | hk | hk | hk | hk | hk | hk
  · exact own_law0 l Z a0 hw ws G1 G3 k_EMPTY k_ENGLISH s_ENGLISH t_ENGLISH kb_ENGLISH k_JAPANESE s_JAPANESE t_JAPANESE kb_JAPANESE k_CHINESE s_CHINESE t_CHINESE kb_CHINESE k_VALUES kv_VALUES gl p1 p2 p3 p4 h0 n0 Z0 X00 hk
  · exact own_law1 l Z a0 hw ws G1 G3 k_EMPTY k_ENGLISH s_ENGLISH t_ENGLISH kb_ENGLISH k_JAPANESE s_JAPANESE t_JAPANESE kb_JAPANESE k_CHINESE s_CHINESE t_CHINESE kb_CHINESE k_VALUES kv_VALUES gl p1 p2 p3 p4 h0 n0 Z0 X00 hk
  · exact own_law2 l Z a0 hw ws G1 G3 k_EMPTY k_ENGLISH s_ENGLISH t_ENGLISH kb_ENGLISH k_JAPANESE s_JAPANESE t_JAPANESE kb_JAPANESE k_CHINESE s_CHINESE t_CHINESE kb_CHINESE k_VALUES kv_VALUES gl p1 p2 p3 p4 h0 n0 Z0 X00 (by rw [hk]; decide)
  · exact own_law3 l Z a0 hw ws G1 G3 k_EMPTY k_ENGLISH s_ENGLISH t_ENGLISH kb_ENGLISH k_JAPANESE s_JAPANESE t_JAPANESE kb_JAPANESE k_CHINESE s_CHINESE t_CHINESE kb_CHINESE k_VALUES kv_VALUES gl p1 p2 p3 p4 h0 n0 Z0 X00 hk
  · exact own_law4 l Z a0 hw ws G1 G3 k_EMPTY k_ENGLISH s_ENGLISH t_ENGLISH kb_ENGLISH k_JAPANESE s_JAPANESE t_JAPANESE kb_JAPANESE k_CHINESE s_CHINESE t_CHINESE kb_CHINESE k_VALUES kv_VALUES gl p1 p2 p3 p4 h0 n0 Z0 X00 hk
  · exact own_law2 l Z a0 hw ws G1 G3 k_EMPTY k_ENGLISH s_ENGLISH t_ENGLISH kb_ENGLISH k_JAPANESE s_JAPANESE t_JAPANESE kb_JAPANESE k_CHINESE s_CHINESE t_CHINESE kb_CHINESE k_VALUES kv_VALUES gl p1 p2 p3 p4 h0 n0 Z0 X00 (by rw [hk]; decide)
  · exact own_law2 l Z a0 hw ws G1 G3 k_EMPTY k_ENGLISH s_ENGLISH t_ENGLISH kb_ENGLISH k_JAPANESE s_JAPANESE t_JAPANESE kb_JAPANESE k_CHINESE s_CHINESE t_CHINESE kb_CHINESE k_VALUES kv_VALUES gl p1 p2 p3 p4 h0 n0 Z0 X00 (by rw [hk]; decide)
  · exact own_law2 l Z a0 hw ws G1 G3 k_EMPTY k_ENGLISH s_ENGLISH t_ENGLISH kb_ENGLISH k_JAPANESE s_JAPANESE t_JAPANESE kb_JAPANESE k_CHINESE s_CHINESE t_CHINESE kb_CHINESE k_VALUES kv_VALUES gl p1 p2 p3 p4 h0 n0 Z0 X00 (by rw [hk]; decide)
set_option maxRecDepth 65536 in
set_option maxHeartbeats 40000000 in
theorem comes_1 {Post : Tables → Env → Array Value → State → Outcome → State → Prop} (hpost : ∀ tb e args s v u, (limb_1_1.after args s (.returned v) u = true ∧ limb_1_2.after args s (.returned v) u = true ∧ True) → ReturnedEndW s (.returned v) u (Jvm.fieldLocs frame_1_writes args s ++ Jvm.arrayLocs frame_1_arrays args s ++ Jvm.staticLocs frame_1_statics s) 24 2176 → Post tb e args s (.returned v) u) :
    ArmFor flags0 classFile x code maxLocals ret World_1 tables_1 room_1 Calls_1 rest_1 Pre_1 Post := by
  intro l hfl _ _ p e ha hc hk s m args below hf hA hF happ hP
  obtain ⟨hcalls, hrest, hpre⟩ := hP
  obtain ⟨-, -, -, hnamed, -, -, -, hat⟩ := (Spec.applies_iff hf).mp happ
  obtain ⟨hg, hn⟩ := and_e (Cond.before_iff.mp (show (Jvm.Cond.and given_1 narrow_1).before args s = true from hpre))
  obtain ⟨cj1, cj2⟩ := and_e hg
  obtain ⟨cj3, cj4⟩ := and_e cj2
  obtain ⟨cj5, cj6⟩ := and_e cj4
  obtain ⟨cj7, cj8⟩ := and_e cj6
  obtain ⟨w0, w1, w2, w3, rfl⟩ : ∃ w0 w1 w2 w3 : Value, args = #[w0, w1, w2, w3] := by
    have hs : args.size = 4 := by simpa [Cond.value, given_1] using cj1
    obtain ⟨L⟩ := args
    match L, hs with
    | [w0, w1, w2, w3], _ => exact ⟨w0, w1, w2, w3, rfl⟩
  have hw := fun d (hd : d ∈ tables_1) => atoms_spec (ws := Jvm.Cond.code x code maxLocals ret :: tables_1) hat d (List.mem_cons_of_mem _ hd)
  have hfit : Fit s := fun {y c} hc i hi => by
    obtain ⟨ha, rfl⟩ := Array.getElem?_eq_some_iff.mp hc
    have q := List.all_eq_true.mp ((Array.all_eq_true_iff_forall_mem.mp hF) _ (Array.getElem_mem ha)) i (List.mem_range.mpr hi)
    simpa [Array.getElem?_eq_getElem hi] using q
  obtain ⟨hsets, hown0⟩ := atoms_of _ (rest_1_c_eq ▸ (show rest_1_c.before _ s = true from hrest))
  have hr0 := Cond.before_iff.mp hown0
  obtain ⟨i0, ei0⟩ := is_v cj3
  obtain rfl : w0 = (.int i0) := Option.some.inj ei0
  obtain ⟨i1, ei1⟩ := is_v cj5
  obtain rfl : w1 = (.int i1) := Option.some.inj ei1
  obtain ⟨i2, ei2⟩ := is_v cj7
  obtain rfl : w2 = (.int i2) := Option.some.inj ei2
  obtain ⟨i3, ei3⟩ := is_v cj8
  obtain rfl : w3 = (.int i3) := Option.some.inj ei3
  obtain ⟨cj9, cj10⟩ := and_e hn
  obtain ⟨cj11, cj12⟩ := and_e cj10
  obtain ⟨cj13, cj14⟩ := and_e cj12
  obtain ⟨cj15, cj16⟩ := and_e cj14
  obtain ⟨cj17, cj18⟩ := and_e cj16
  obtain ⟨cj19, cj20⟩ := and_e cj18
  obtain ⟨cj21, cj22⟩ := and_e cj20
  obtain ⟨cj23, cj24⟩ := and_e cj22
  obtain ⟨cj25, cj26⟩ := and_e cj24
  obtain ⟨cj27, cj28⟩ := and_e cj26
  obtain ⟨cj29, cj30⟩ := and_e cj28
  obtain ⟨cj31, cj32⟩ := and_e cj30
  obtain ⟨cj33, cj34⟩ := and_e cj32
  obtain ⟨cj35, cj36⟩ := and_e cj34
  obtain ⟨cj37, cj38⟩ := and_e cj36
  obtain ⟨cj39, cj40⟩ := and_e cj38
  obtain ⟨cj41, cj42⟩ := and_e cj40
  obtain ⟨cj43, cj44⟩ := and_e cj42
  obtain ⟨cj45, cj46⟩ := and_e cj44
  obtain ⟨cj47, cj48⟩ := and_e cj46
  obtain ⟨cj49, cj50⟩ := and_e cj48
  obtain ⟨cj51, cj52⟩ := and_e cj50
  obtain ⟨cj53, cj54⟩ := and_e cj52
  obtain ⟨cj55, cj56⟩ := and_e cj54
  obtain ⟨cj57, cj58⟩ := and_e cj56
  obtain ⟨cj59, cj60⟩ := and_e cj58
  obtain ⟨G1, eG1⟩ := is_v (Cond.before_iff.mp (hsets _ (List.mem_of_getElem? (i := 1) rfl)))
  have O_CS : Sta s s.heap "java/lang/String" "COMPACT_STRINGS" "Z" (.int G1) := Sta.start eG1 (Or.inl (hsets _ (List.mem_of_getElem? (i := 0) rfl)))
  have P_CS : ¬ (G1 = (0 : Int32)) := gotF (Cond.eq_ints eG1 (Term.int_eval (0))) (not_v (Cond.before_iff.mp (hsets _ (List.mem_of_getElem? (i := 2) rfl))))
  obtain ⟨G3, eG3, P_SI⟩ := isR_v (Cond.before_iff.mp (hsets _ (List.mem_of_getElem? (i := 8) rfl)))
  have O_SI : Sta s s.heap "jdk/internal/util/Preconditions" "SIOOBE_FORMATTER" "Ljava/util/function/BiFunction;" G3 := Sta.start eG3 (Or.inl (hsets _ (List.mem_of_getElem? (i := 7) rfl)))
  obtain ⟨k_EMPTY, ev_EMPTY⟩ := exa_v (Cond.before_iff.mp (hsets _ (List.mem_of_getElem? (i := 11) rfl)))
  have E_EMPTY : Exa s s.heap k_EMPTY "java/util/Optional" := Exa.start ev_EMPTY (Cond.before_iff.mp (hsets _ (List.mem_of_getElem? (i := 11) rfl)))
  have O_EMPTY : Sta s s.heap "java/util/Optional" "EMPTY" "Ljava/util/Optional;" (.ref k_EMPTY) := Sta.start ev_EMPTY (Or.inl (hsets _ (List.mem_of_getElem? (i := 10) rfl)))
  have F_EMPTY : Fld s s.heap k_EMPTY "java/util/Optional" "value" "Ljava/lang/Object;" .null := Fld.start ((fld_at ev_EMPTY).symm.trans (null_v (Cond.before_iff.mp (hsets _ (List.mem_of_getElem? (i := 12) rfl)))))
  obtain ⟨k_ENGLISH, ev_ENGLISH⟩ := exa_v cj15
  have E_ENGLISH : Exa s s.heap k_ENGLISH "com/example/dragoman/dragoman/core/Language" := Exa.start ev_ENGLISH cj15
  have O_ENGLISH : Sta s s.heap "com/example/dragoman/dragoman/core/Language" "ENGLISH" "Lcom/example/dragoman/dragoman/core/Language;" (.ref k_ENGLISH) := Sta.start ev_ENGLISH (Or.inr ⟨(hw _ (List.mem_of_getElem? (i := 28) rfl)), (hw _ (List.mem_of_getElem? (i := 42) rfl))⟩)
  obtain ⟨s_ENGLISH, es_ENGLISH⟩ := exa_v cj27
  have Es_ENGLISH : Exa s s.heap s_ENGLISH "java/lang/String" := Exa.start es_ENGLISH cj27
  have Fs_ENGLISH : Fld s s.heap k_ENGLISH "com/example/dragoman/dragoman/core/Language" "code" "Ljava/lang/String;" (.ref s_ENGLISH) := Fld.start ((fld_at ev_ENGLISH).symm.trans es_ENGLISH)
  have Fc_ENGLISH : Fld s s.heap s_ENGLISH "java/lang/String" "coder" "B" (.int (0 : Int32)) := Fld.start ((fld_at es_ENGLISH).symm.trans (own_eqint cj29))
  obtain ⟨t_ENGLISH, et_ENGLISH⟩ := arr_v cj31
  have Fv_ENGLISH : Fld s s.heap s_ENGLISH "java/lang/String" "value" "[B" (.ref t_ENGLISH) := Fld.start ((fld_at es_ENGLISH).symm.trans et_ENGLISH)
  obtain ⟨cl_ENGLISH, Ar_ENGLISH⟩ := Arr.start et_ENGLISH cj31
  obtain ⟨lz_ENGLISH, ln_ENGLISH⟩ := own_len (own_eqint cj33) et_ENGLISH Ar_ENGLISH
  obtain ⟨kb_ENGLISH, hkb_ENGLISH⟩ : ∃ z, z = cl_ENGLISH.cls := ⟨_, rfl⟩
  have V_ENGLISH : Arv s s.heap t_ENGLISH kb_ENGLISH .byte (2 : Int32) ((([(101 : Int32), (110 : Int32)] : List Int32).map (fun c => c.toInt8.toInt32)).map Value.int) (.int (0 : Int32)) := by
    rw [hkb_ENGLISH]
    exact Arv.start hfit Ar_ENGLISH lz_ENGLISH ln_ENGLISH (by decide) rfl ⟨(own_elem (own_eqint cj51) et_ENGLISH Ar_ENGLISH (j := 0) rfl), (own_elem (own_eqint cj59) et_ENGLISH Ar_ENGLISH (j := 1) rfl), trivial⟩
  obtain ⟨k_JAPANESE, ev_JAPANESE⟩ := exa_v cj19
  have E_JAPANESE : Exa s s.heap k_JAPANESE "com/example/dragoman/dragoman/core/Language" := Exa.start ev_JAPANESE cj19
  have O_JAPANESE : Sta s s.heap "com/example/dragoman/dragoman/core/Language" "JAPANESE" "Lcom/example/dragoman/dragoman/core/Language;" (.ref k_JAPANESE) := Sta.start ev_JAPANESE (Or.inr ⟨(hw _ (List.mem_of_getElem? (i := 28) rfl)), (hw _ (List.mem_of_getElem? (i := 43) rfl))⟩)
  obtain ⟨s_JAPANESE, es_JAPANESE⟩ := exa_v cj35
  have Es_JAPANESE : Exa s s.heap s_JAPANESE "java/lang/String" := Exa.start es_JAPANESE cj35
  have Fs_JAPANESE : Fld s s.heap k_JAPANESE "com/example/dragoman/dragoman/core/Language" "code" "Ljava/lang/String;" (.ref s_JAPANESE) := Fld.start ((fld_at ev_JAPANESE).symm.trans es_JAPANESE)
  have Fc_JAPANESE : Fld s s.heap s_JAPANESE "java/lang/String" "coder" "B" (.int (0 : Int32)) := Fld.start ((fld_at es_JAPANESE).symm.trans (own_eqint cj37))
  obtain ⟨t_JAPANESE, et_JAPANESE⟩ := arr_v cj39
  have Fv_JAPANESE : Fld s s.heap s_JAPANESE "java/lang/String" "value" "[B" (.ref t_JAPANESE) := Fld.start ((fld_at es_JAPANESE).symm.trans et_JAPANESE)
  obtain ⟨cl_JAPANESE, Ar_JAPANESE⟩ := Arr.start et_JAPANESE cj39
  obtain ⟨lz_JAPANESE, ln_JAPANESE⟩ := own_len (own_eqint cj41) et_JAPANESE Ar_JAPANESE
  obtain ⟨kb_JAPANESE, hkb_JAPANESE⟩ : ∃ z, z = cl_JAPANESE.cls := ⟨_, rfl⟩
  have V_JAPANESE : Arv s s.heap t_JAPANESE kb_JAPANESE .byte (2 : Int32) ((([(106 : Int32), (97 : Int32)] : List Int32).map (fun c => c.toInt8.toInt32)).map Value.int) (.int (0 : Int32)) := by
    rw [hkb_JAPANESE]
    exact Arv.start hfit Ar_JAPANESE lz_JAPANESE ln_JAPANESE (by decide) rfl ⟨(own_elem (own_eqint cj53) et_JAPANESE Ar_JAPANESE (j := 0) rfl), (own_elem (own_eqint cj57) et_JAPANESE Ar_JAPANESE (j := 1) rfl), trivial⟩
  obtain ⟨k_CHINESE, ev_CHINESE⟩ := exa_v cj23
  have E_CHINESE : Exa s s.heap k_CHINESE "com/example/dragoman/dragoman/core/Language" := Exa.start ev_CHINESE cj23
  have O_CHINESE : Sta s s.heap "com/example/dragoman/dragoman/core/Language" "CHINESE" "Lcom/example/dragoman/dragoman/core/Language;" (.ref k_CHINESE) := Sta.start ev_CHINESE (Or.inr ⟨(hw _ (List.mem_of_getElem? (i := 28) rfl)), (hw _ (List.mem_of_getElem? (i := 44) rfl))⟩)
  obtain ⟨s_CHINESE, es_CHINESE⟩ := exa_v cj43
  have Es_CHINESE : Exa s s.heap s_CHINESE "java/lang/String" := Exa.start es_CHINESE cj43
  have Fs_CHINESE : Fld s s.heap k_CHINESE "com/example/dragoman/dragoman/core/Language" "code" "Ljava/lang/String;" (.ref s_CHINESE) := Fld.start ((fld_at ev_CHINESE).symm.trans es_CHINESE)
  have Fc_CHINESE : Fld s s.heap s_CHINESE "java/lang/String" "coder" "B" (.int (0 : Int32)) := Fld.start ((fld_at es_CHINESE).symm.trans (own_eqint cj45))
  obtain ⟨t_CHINESE, et_CHINESE⟩ := arr_v cj47
  have Fv_CHINESE : Fld s s.heap s_CHINESE "java/lang/String" "value" "[B" (.ref t_CHINESE) := Fld.start ((fld_at es_CHINESE).symm.trans et_CHINESE)
  obtain ⟨cl_CHINESE, Ar_CHINESE⟩ := Arr.start et_CHINESE cj47
  obtain ⟨lz_CHINESE, ln_CHINESE⟩ := own_len (own_eqint cj49) et_CHINESE Ar_CHINESE
  obtain ⟨kb_CHINESE, hkb_CHINESE⟩ : ∃ z, z = cl_CHINESE.cls := ⟨_, rfl⟩
  have V_CHINESE : Arv s s.heap t_CHINESE kb_CHINESE .byte (2 : Int32) ((([(122 : Int32), (104 : Int32)] : List Int32).map (fun c => c.toInt8.toInt32)).map Value.int) (.int (0 : Int32)) := by
    rw [hkb_CHINESE]
    exact Arv.start hfit Ar_CHINESE lz_CHINESE ln_CHINESE (by decide) rfl ⟨(own_elem (own_eqint cj55) et_CHINESE Ar_CHINESE (j := 0) rfl), (own_elem (own_eqint cj60) et_CHINESE Ar_CHINESE (j := 1) rfl), trivial⟩
  obtain ⟨k_VALUES, ev_VALUES⟩ := exa_v cj11
  have E_VALUES : Exa s s.heap k_VALUES "[Lcom/example/dragoman/dragoman/core/Language;" := Exa.start ev_VALUES cj11
  have O_VALUES : Sta s s.heap "com/example/dragoman/dragoman/core/Language" "$VALUES" "[Lcom/example/dragoman/dragoman/core/Language;" (.ref k_VALUES) := Sta.start ev_VALUES (Or.inl (hw _ (List.mem_of_getElem? (i := 45) rfl)))
  obtain ⟨cl_VALUES, Ar_VALUES⟩ := Arr.start ev_VALUES cj9
  obtain ⟨lz_VALUES, ln_VALUES⟩ := own_len (own_eqint cj13) ev_VALUES Ar_VALUES
  obtain ⟨kv_VALUES, hkv_VALUES⟩ : ∃ z, z = cl_VALUES.cls := ⟨_, rfl⟩
  have V_VALUES : Arv s s.heap k_VALUES kv_VALUES (.object "com/example/dragoman/dragoman/core/Language") (3 : Int32) [(.ref k_ENGLISH), (.ref k_JAPANESE), (.ref k_CHINESE)] .null := by
    rw [hkv_VALUES]
    exact Arv.start hfit Ar_VALUES lz_VALUES ln_VALUES (by decide) rfl ⟨(own_elem (own_eqref cj17 ev_ENGLISH) ev_VALUES Ar_VALUES (j := 0) rfl), (own_elem (own_eqref cj21 ev_JAPANESE) ev_VALUES Ar_VALUES (j := 1) rfl), (own_elem (own_eqref cj25 ev_CHINESE) ev_VALUES Ar_VALUES (j := 2) rfl), trivial⟩
  have hCH0 : CHv s consts_1 s.vm s.heap := CHv.start (own_EW hw) (fun p hp => hcalls.1 p hp) (hsets _ (List.mem_of_getElem? (i := 2) rfl)) (hw _ (List.mem_of_getElem? (i := 19) rfl)) (hw _ (List.mem_of_getElem? (i := 5) rfl))
  obtain ⟨n, o, h1, h2, h3, _, L, rfl, ⟨rfl, N⟩, hq⟩ := own_law l s _ hw tables_1 G1 G3 k_EMPTY k_ENGLISH s_ENGLISH t_ENGLISH kb_ENGLISH k_JAPANESE s_JAPANESE t_JAPANESE kb_JAPANESE k_CHINESE s_CHINESE t_CHINESE kb_CHINESE k_VALUES kv_VALUES ⟨O_CS, P_CS, O_SI, P_SI, O_EMPTY, E_EMPTY, F_EMPTY, O_ENGLISH, E_ENGLISH, Fs_ENGLISH, Es_ENGLISH, Fc_ENGLISH, Fv_ENGLISH, V_ENGLISH, O_JAPANESE, E_JAPANESE, Fs_JAPANESE, Es_JAPANESE, Fc_JAPANESE, Fv_JAPANESE, V_JAPANESE, O_CHINESE, E_CHINESE, Fs_CHINESE, Es_CHINESE, Fc_CHINESE, Fv_CHINESE, V_CHINESE, O_VALUES, E_VALUES, V_VALUES⟩ i0 i1 i2 i3 s.heap s.heap.size (Nat.le_refl _) (Old.start s) p e ha hc hk s m _ below hf ((Spec.applies_iff_loose hf).mp happ).1 ⟨rfl, State.Warmed39.refl s, rfl, hCH0⟩ trivial
  refine ⟨n, _, h1, h2, h3, hpost _ _ _ _ _ _ ⟨Cond.after_iff.mpr rfl, Cond.after_iff.mpr (eq_i res_at (Term.int_eval (1)) rfl), trivial⟩ ⟨hq.1, hq.2.1, hq.2.2.1, (hq.2.2.2.sift fun y hy => Or.inr (N y hy)).mono (by decide) (by decide)⟩⟩
theorem main_1_1 : Claimed_1_1 := comes_1 fun _ _ _ _ _ _ h hF => ⟨h.1, hF⟩
theorem main_1_2 : Claimed_1_2 := comes_1 fun _ _ _ _ _ _ h hF => ⟨h.2.1, hF⟩
end Jvm.Pilot.@@N@@
namespace Jvm.Pilot.@@N@@
open Jvm Jvm.ClassFile Sem Op Lib Jvm.Free Jvm.Stand Jvm.Pilot.@@N@@.Jvm.D
/-! MADE BY PROGRAM (witnessworld.py) out of the Statement's table words and the real class files: 24 classes; the members and pool entries that the words name. The judged class is class 1, her method 2. -/
namespace start1
open Jvm.ClassFile
def u (s : String) : CpInfo := .utf8 (stringToUtf16 s)
/-- a pool by its gaps: so many unusable entries, then the entry; so many at the end -/
def gap : Nat → List CpInfo → List CpInfo
  | 0, r => r
  | n + 1, r => .unusable :: gap n r
def poolList (es : List (Nat × CpInfo)) (last : Nat) : List CpInfo := es.foldr (fun e r => gap e.1 (e.2 :: r)) (gap last [])
def pool (es : List (Nat × CpInfo)) (last : Nat) : Array CpInfo := ⟨poolList es last⟩
def fileOf (pool : Array CpInfo) (this : Nat) (attrs : Array Attribute := #[]) (ms : Array MethodInfo := #[]) (fl : Nat := 33) (sup : Nat := 0) (ifs : Array Nat := #[]) (fds : Array FieldInfo := #[]) : ClassFile where
  minorVersion := 0
  majorVersion := 65
  constantPool := pool
  accessFlags := fl
  thisClass := this
  superClass := sup
  interfaces := ifs
  fields := fds
  methods := ms
  attributes := attrs
def plain (name : String) (sup : Option ClassId) : Class where
  name := name
  kind := .ordinary
  loader := none
  accessFlags := 33
  super := sup
  interfaces := #[]
  cf := none
  fields := #[]
  methods := #[]
  instanceTypes := #[]
  staticTypes := #[]
  resolved := #[]
  callSites := []
  init := .initialized
  statics := none
  mirror := none

def pool0 : Array CpInfo := pool [(5, u "<init>"), (0, u "()V"), (1, .class_ 10), (1, u "java/lang/Object"), (85, u "clone"), (0, u "()Ljava/lang/Object;")] 26

def k0c0 : Code := { maxStack := 0, maxLocals := 1, code := object_method_1_code, exceptionTable := #[], attributes := #[] }
def k0m0 : Method := { name := "<init>", desc := "()V", sig := { parameters := [], returnType := none }, accessFlags := 1, code := some k0c0 }
def k0m1 : Method := { name := "clone", desc := "()Ljava/lang/Object;", sig := { parameters := [], returnType := some (.object "java/lang/Object") }, accessFlags := 260, code := none }
/-- java/lang/Object -/
def k0 : Class := { plain "java/lang/Object" none with
  accessFlags := 33
  interfaces := #[]
  cf := some (fileOf pool0 8 #[] #[{ accessFlags := 1, nameIndex := 5, descriptorIndex := 6, attributes := #[] }, { accessFlags := 260, nameIndex := 96, descriptorIndex := 97, attributes := #[] }] 33 0 #[] #[])
  fields := #[]
  methods := #[k0m0, k0m1]
  instanceTypes := #[]
  staticTypes := #[]
  resolved := Array.replicate 124 none
  statics := none }

def pool1 : Array CpInfo := pool [(2, .class_ 4), (1, u "java/lang/Object"), (0, u "<init>"), (0, u "()V"), (0, .string 8), (0, u "enjazh"), (0, .methodref 10 11), (0, .class_ 12), (0, .nameAndType 13 14), (0, u "java/lang/String"), (0, u "charAt"), (0, u "(I)C"), (0, .methodref 16 17), (0, .class_ 18), (0, .nameAndType 19 14), (0, u "com/example/dragoman/dragoman/core/LanguageForCodePinLaw"), (0, u "pick"), (0, .methodref 10 21), (0, .nameAndType 5 22), (0, u "([C)V"), (0, .fieldref 24 25), (0, .class_ 26), (0, .nameAndType 27 28), (0, u "com/example/dragoman/dragoman/core/Language"), (0, u "ENGLISH"), (0, u "Lcom/example/dragoman/dragoman/core/Language;"), (0, .fieldref 24 30), (0, .nameAndType 31 28), (0, u "JAPANESE"), (0, .fieldref 24 33), (0, .nameAndType 34 28), (0, u "CHINESE"), (0, .methodref 24 36), (0, .nameAndType 37 38), (0, u "forCode"), (0, u "(Ljava/lang/String;)Ljava/util/Optional;"), (0, .methodref 40 41), (0, .class_ 42), (0, .nameAndType 43 44), (0, u "java/util/Optional"), (0, u "orElse"), (0, u "(Ljava/lang/Object;)Ljava/lang/Object;"), (3, u "law"), (0, u "(IIII)Z")] 2

def k1m0 : Method := { name := "<init>", desc := "()V", sig := { parameters := [], returnType := none }, accessFlags := 2, code := none }
def k1c1 : Code := { maxStack := 2, maxLocals := 2, code := method_2_code, exceptionTable := #[], attributes := #[] }
def k1m1 : Method := { name := "pick", desc := "(I)C", sig := { parameters := [.int], returnType := some .char }, accessFlags := 10, code := some k1c1 }
def k1c2 : Code := { maxStack := 6, maxLocals := 12, code := code, exceptionTable := #[], attributes := #[] }
def k1m2 : Method := { name := "law", desc := "(IIII)Z", sig := { parameters := [.int, .int, .int, .int], returnType := some .boolean }, accessFlags := 9, code := some k1c2 }
/-- com/example/dragoman/dragoman/core/LanguageForCodePinLaw -/
def k1 : Class := { plain "com/example/dragoman/dragoman/core/LanguageForCodePinLaw" (some 0) with
  accessFlags := 49
  interfaces := #[]
  cf := some (fileOf pool1 16 #[] #[{ accessFlags := 2, nameIndex := 5, descriptorIndex := 6, attributes := #[] }, { accessFlags := 10, nameIndex := 19, descriptorIndex := 14, attributes := #[] }, { accessFlags := 9, nameIndex := 48, descriptorIndex := 49, attributes := #[] }] 49 2 #[] #[])
  fields := #[]
  methods := #[k1m0, k1m1, k1m2]
  instanceTypes := #[]
  staticTypes := #[]
  resolved := Array.replicate 52 none
  statics := none }

def pool2 : Array CpInfo := pool [(1, .class_ 2), (0, u "java/io/Serializable"), (0, .class_ 4), (0, u "java/lang/Object")] 2

/-- java/io/Serializable -/
def k2 : Class := { plain "java/io/Serializable" (some 0) with
  accessFlags := 1537
  interfaces := #[]
  cf := some (fileOf pool2 1 #[] #[] 1537 3 #[] #[])
  fields := #[]
  methods := #[]
  instanceTypes := #[]
  staticTypes := #[]
  resolved := Array.replicate 7 none
  statics := none }

def pool3 : Array CpInfo := pool [(1, .class_ 2), (0, u "java/lang/Comparable"), (0, .class_ 4), (0, u "java/lang/Object")] 7

/-- java/lang/Comparable -/
def k3 : Class := { plain "java/lang/Comparable" (some 0) with
  accessFlags := 1537
  interfaces := #[]
  cf := some (fileOf pool3 1 #[] #[] 1537 3 #[] #[])
  fields := #[]
  methods := #[]
  instanceTypes := #[]
  staticTypes := #[]
  resolved := Array.replicate 12 none
  statics := none }

def pool4 : Array CpInfo := pool [(2, .class_ 4), (1, u "java/lang/CharSequence"), (42, .class_ 48), (0, u "java/lang/CharSequence$1CodePointIterator"), (10, .class_ 60), (0, u "java/lang/CharSequence$1CharIterator"), (5, .class_ 67), (0, u "java/lang/Object")] 63

/-- java/lang/CharSequence -/
def k4 : Class := { plain "java/lang/CharSequence" (some 0) with
  accessFlags := 1537
  interfaces := #[]
  cf := some (fileOf pool4 2 #[.nestMembers #[47, 59]] #[] 1537 66 #[] #[])
  fields := #[]
  methods := #[]
  instanceTypes := #[]
  staticTypes := #[]
  resolved := Array.replicate 131 none
  statics := none }

def pool5 : Array CpInfo := pool [(1, .class_ 2), (0, u "java/lang/constant/Constable"), (0, .class_ 4), (0, u "java/lang/Object")] 6

/-- java/lang/constant/Constable -/
def k5 : Class := { plain "java/lang/constant/Constable" (some 0) with
  accessFlags := 1537
  interfaces := #[]
  cf := some (fileOf pool5 1 #[] #[] 1537 3 #[] #[])
  fields := #[]
  methods := #[]
  instanceTypes := #[]
  staticTypes := #[]
  resolved := Array.replicate 11 none
  statics := none }

def pool6 : Array CpInfo := pool [(1, .class_ 2), (0, u "java/lang/constant/ConstantDesc"), (0, .class_ 4), (0, u "java/lang/Object")] 32

/-- java/lang/constant/ConstantDesc -/
def k6 : Class := { plain "java/lang/constant/ConstantDesc" (some 0) with
  accessFlags := 1537
  interfaces := #[]
  cf := some (fileOf pool6 1 #[] #[] 1537 3 #[] #[])
  fields := #[]
  methods := #[]
  instanceTypes := #[]
  staticTypes := #[]
  resolved := Array.replicate 37 none
  statics := none }

def pool7 : Array CpInfo := pool [(1, .methodref 2 3), (0, .class_ 4), (0, .nameAndType 5 6), (0, u "java/lang/Object"), (0, u "<init>"), (0, u "()V"), (0, .string 8), (0, u ""), (0, .fieldref 10 11), (0, .class_ 12), (0, .nameAndType 13 14), (0, u "java/lang/String"), (0, u "value"), (0, u "[B"), (0, .fieldref 10 16), (0, .nameAndType 17 18), (0, u "coder"), (0, u "B"), (2, u "hash"), (0, u "I"), (2, u "hashIsZero"), (0, u "Z"), (0, .methodref 10 28), (0, .nameAndType 5 29), (0, u "([CIILjava/lang/Void;)V"), (8, .fieldref 10 39), (0, .nameAndType 40 26), (0, u "COMPACT_STRINGS"), (1, .class_ 44), (1, u "java/lang/StringUTF16"), (0, u "compress"), (1, .methodref 42 48), (0, .nameAndType 49 50), (0, u "coderFromArrayLen"), (0, u "([BI)B"), (56, .class_ 109), (1, u "java/lang/StringLatin1"), (32, u "()Z"), (34, .methodref 42 178), (0, .nameAndType 45 179), (0, u "([CII)[B"), (183, u "([BI)C"), (27, u "(II)V"), (35, u "(I)C"), (64, .methodref 10 493), (0, .nameAndType 494 142), (0, u "isLatin1"), (0, .methodref 107 496), (0, .nameAndType 497 363), (0, u "charAt"), (3, u "checkIndex"), (39, .methodref 107 542), (0, .nameAndType 543 544), (0, u "equals"), (0, u "([B[B)Z"), (28, u "(Ljava/lang/Object;)Z"), (1, .class_ 576), (0, u "java/lang/CharSequence"), (22, u "CASE_INSENSITIVE_ORDER"), (0, u "Ljava/util/Comparator;"), (409, u "([C)V"), (42, .fieldref 1054 1055), (0, .class_ 1056), (0, .nameAndType 1057 1058), (0, u "jdk/internal/util/Preconditions"), (0, u "SIOOBE_FORMATTER"), (0, u "Ljava/util/function/BiFunction;"), (0, .methodref 1054 1060), (0, .nameAndType 501 1061), (0, u "(IILjava/util/function/BiFunction;)I"), (39, u "serialPersistentFields"), (0, u "[Ljava/io/ObjectStreamField;"), (0, .class_ 1104), (0, u "java/lang/String$CaseInsensitiveComparator"), (1, .class_ 1107), (0, u "java/io/Serializable"), (0, .class_ 1109), (0, u "java/lang/Comparable"), (0, .class_ 1111), (0, u "java/lang/constant/Constable"), (0, .class_ 1113), (0, u "java/lang/constant/ConstantDesc"), (2, u "serialVersionUID"), (0, u "J"), (3, u "REPL"), (0, u "C"), (2, u "LATIN1"), (1, u "UTF16")] 323

def k7m0 : Method := { name := "<init>", desc := "()V", sig := { parameters := [], returnType := none }, accessFlags := 1, code := none }
def k7c1 : Code := { maxStack := 5, maxLocals := 2, code := jdk_42_method_3_code, exceptionTable := #[], attributes := #[] }
def k7m1 : Method := { name := "<init>", desc := "([C)V", sig := { parameters := [(.array .char)], returnType := none }, accessFlags := 1, code := some k7c1 }
def k7c2 : Code := { maxStack := 2, maxLocals := 2, code := jdk_42_method_56_code, exceptionTable := #[], attributes := #[] }
def k7m2 : Method := { name := "charAt", desc := "(I)C", sig := { parameters := [.int], returnType := some .char }, accessFlags := 1, code := some k7c2 }
def k7c3 : Code := { maxStack := 2, maxLocals := 3, code := jdk_42_method_66_code, exceptionTable := #[], attributes := #[] }
def k7m3 : Method := { name := "equals", desc := "(Ljava/lang/Object;)Z", sig := { parameters := [(.object "java/lang/Object")], returnType := some .boolean }, accessFlags := 1, code := some k7c3 }
def k7c4 : Code := { maxStack := 4, maxLocals := 6, code := jdk_42_method_149_code, exceptionTable := #[], attributes := #[] }
def k7m4 : Method := { name := "<init>", desc := "([CIILjava/lang/Void;)V", sig := { parameters := [(.array .char), .int, .int, (.object "java/lang/Void")], returnType := none }, accessFlags := 2, code := some k7c4 }
def k7c5 : Code := { maxStack := 1, maxLocals := 1, code := jdk_42_method_154_code, exceptionTable := #[], attributes := #[] }
def k7m5 : Method := { name := "isLatin1", desc := "()Z", sig := { parameters := [], returnType := some .boolean }, accessFlags := 0, code := some k7c5 }
def k7c6 : Code := { maxStack := 3, maxLocals := 2, code := jdk_42_method_155_code, exceptionTable := #[], attributes := #[] }
def k7m6 : Method := { name := "checkIndex", desc := "(II)V", sig := { parameters := [.int, .int], returnType := none }, accessFlags := 8, code := some k7c6 }
/-- java/lang/String -/
def k7 : Class := { plain "java/lang/String" (some 0) with
  accessFlags := 49
  interfaces := #[2, 3, 4, 5, 6]
  cf := some (fileOf pool7 10 #[.nestMembers #[1103]] #[{ accessFlags := 1, nameIndex := 5, descriptorIndex := 6, attributes := #[] }, { accessFlags := 1, nameIndex := 5, descriptorIndex := 1010, attributes := #[] }, { accessFlags := 1, nameIndex := 497, descriptorIndex := 427, attributes := #[] }, { accessFlags := 1, nameIndex := 543, descriptorIndex := 573, attributes := #[] }, { accessFlags := 2, nameIndex := 5, descriptorIndex := 29, attributes := #[] }, { accessFlags := 0, nameIndex := 494, descriptorIndex := 142, attributes := #[] }, { accessFlags := 8, nameIndex := 501, descriptorIndex := 391, attributes := #[] }] 49 2 #[1106, 1108, 575, 1110, 1112] #[{ accessFlags := 18, nameIndex := 13, descriptorIndex := 14, attributes := #[] }, { accessFlags := 18, nameIndex := 17, descriptorIndex := 18, attributes := #[] }, { accessFlags := 2, nameIndex := 21, descriptorIndex := 22, attributes := #[] }, { accessFlags := 2, nameIndex := 25, descriptorIndex := 26, attributes := #[] }, { accessFlags := 26, nameIndex := 1116, descriptorIndex := 1117, attributes := #[] }, { accessFlags := 24, nameIndex := 40, descriptorIndex := 26, attributes := #[] }, { accessFlags := 26, nameIndex := 1101, descriptorIndex := 1102, attributes := #[] }, { accessFlags := 26, nameIndex := 1121, descriptorIndex := 1122, attributes := #[] }, { accessFlags := 25, nameIndex := 599, descriptorIndex := 600, attributes := #[] }, { accessFlags := 24, nameIndex := 1125, descriptorIndex := 18, attributes := #[] }, { accessFlags := 24, nameIndex := 1127, descriptorIndex := 18, attributes := #[] }])
  fields := #[{ name := "value", type := (.array .byte), accessFlags := 18, slot := 0, constantValue := 0 }, { name := "coder", type := .byte, accessFlags := 18, slot := 1, constantValue := 0 }, { name := "hash", type := .int, accessFlags := 2, slot := 2, constantValue := 0 }, { name := "hashIsZero", type := .boolean, accessFlags := 2, slot := 3, constantValue := 0 }, { name := "serialVersionUID", type := .long, accessFlags := 26, slot := 0, constantValue := 0 }, { name := "COMPACT_STRINGS", type := .boolean, accessFlags := 24, slot := 1, constantValue := 0 }, { name := "serialPersistentFields", type := (.array (.object "java/io/ObjectStreamField")), accessFlags := 26, slot := 2, constantValue := 0 }, { name := "REPL", type := .char, accessFlags := 26, slot := 3, constantValue := 0 }, { name := "CASE_INSENSITIVE_ORDER", type := (.object "java/util/Comparator"), accessFlags := 25, slot := 4, constantValue := 0 }, { name := "LATIN1", type := .byte, accessFlags := 24, slot := 5, constantValue := 0 }, { name := "UTF16", type := .byte, accessFlags := 24, slot := 6, constantValue := 0 }]
  methods := #[k7m0, k7m1, k7m2, k7m3, k7m4, k7m5, k7m6]
  instanceTypes := #[(.array .byte), .byte, .int, .boolean]
  staticTypes := #[.long, .boolean, (.array (.object "java/io/ObjectStreamField")), .char, (.object "java/util/Comparator"), .byte, .byte]
  resolved := Array.replicate 1451 none
  statics := some 0 }

def pool8 : Array CpInfo := pool [(2, .class_ 4), (1, u "java/lang/Enum"), (0, u "name"), (0, u "Ljava/lang/String;"), (2, u "ordinal"), (0, u "I"), (1, .class_ 14), (1, u "java/lang/Object"), (4, u "hash"), (86, .class_ 108), (1, u "java/lang/Enum$EnumDesc"), (2, .class_ 112), (0, u "java/lang/constant/Constable"), (0, .class_ 114), (0, u "java/lang/Comparable"), (0, .class_ 116), (0, u "java/io/Serializable")] 87

/-- java/lang/Enum -/
def k8 : Class := { plain "java/lang/Enum" (some 0) with
  accessFlags := 1057
  interfaces := #[5, 3, 2]
  cf := some (fileOf pool8 2 #[.nestMembers #[106]] #[] 1057 12 #[111, 113, 115] #[{ accessFlags := 18, nameIndex := 5, descriptorIndex := 6, attributes := #[] }, { accessFlags := 18, nameIndex := 9, descriptorIndex := 10, attributes := #[] }, { accessFlags := 2, nameIndex := 19, descriptorIndex := 10, attributes := #[] }])
  fields := #[{ name := "name", type := (.object "java/lang/String"), accessFlags := 18, slot := 0, constantValue := 0 }, { name := "ordinal", type := .int, accessFlags := 18, slot := 1, constantValue := 0 }, { name := "hash", type := .int, accessFlags := 2, slot := 2, constantValue := 0 }]
  methods := #[]
  instanceTypes := #[(.object "java/lang/String"), .int, .int]
  staticTypes := #[]
  resolved := Array.replicate 204 none
  statics := none }

def pool9 : Array CpInfo := pool [(1, .class_ 2), (0, u "com/example/dragoman/dragoman/core/Language"), (2, u "ENGLISH"), (0, u "Lcom/example/dragoman/dragoman/core/Language;"), (2, u "JAPANESE"), (2, u "CHINESE"), (0, .fieldref 1 14), (0, .nameAndType 15 16), (0, u "$VALUES"), (0, u "[Lcom/example/dragoman/dragoman/core/Language;"), (0, .methodref 18 19), (0, .class_ 16), (0, .nameAndType 20 21), (0, u "clone"), (0, u "()Ljava/lang/Object;"), (1, .class_ 25), (1, u "java/lang/Enum"), (6, .fieldref 1 33), (0, .nameAndType 34 35), (0, u "code"), (0, u "Ljava/lang/String;"), (2, u "wordSeparator"), (0, .methodref 1 40), (0, .nameAndType 41 42), (0, u "values"), (0, u "()[Lcom/example/dragoman/dragoman/core/Language;"), (0, .methodref 44 45), (0, .class_ 46), (0, .nameAndType 47 48), (0, u "java/lang/String"), (0, u "equals"), (0, u "(Ljava/lang/Object;)Z"), (0, .methodref 50 51), (0, .class_ 52), (0, .nameAndType 53 54), (0, u "java/util/Optional"), (0, u "of"), (0, u "(Ljava/lang/Object;)Ljava/util/Optional;"), (0, .methodref 50 56), (0, .nameAndType 57 58), (0, u "empty"), (0, u "()Ljava/util/Optional;"), (26, u "forCode"), (0, u "(Ljava/lang/String;)Ljava/util/Optional;")] 7

def k9c0 : Code := { maxStack := 1, maxLocals := 0, code := prog_9_method_1_code, exceptionTable := #[], attributes := #[] }
def k9m0 : Method := { name := "values", desc := "()[Lcom/example/dragoman/dragoman/core/Language;", sig := { parameters := [], returnType := some (.array (.object "com/example/dragoman/dragoman/core/Language")) }, accessFlags := 9, code := some k9c0 }
def k9c1 : Code := { maxStack := 2, maxLocals := 5, code := prog_9_method_6_code, exceptionTable := #[], attributes := #[] }
def k9m1 : Method := { name := "forCode", desc := "(Ljava/lang/String;)Ljava/util/Optional;", sig := { parameters := [(.object "java/lang/String")], returnType := some (.object "java/util/Optional") }, accessFlags := 9, code := some k9c1 }
/-- com/example/dragoman/dragoman/core/Language -/
def k9 : Class := { plain "com/example/dragoman/dragoman/core/Language" (some 8) with
  accessFlags := 16433
  interfaces := #[]
  cf := some (fileOf pool9 1 #[] #[{ accessFlags := 9, nameIndex := 41, descriptorIndex := 42, attributes := #[] }, { accessFlags := 9, nameIndex := 85, descriptorIndex := 86, attributes := #[] }] 16433 23 #[] #[{ accessFlags := 16409, nameIndex := 5, descriptorIndex := 6, attributes := #[] }, { accessFlags := 16409, nameIndex := 9, descriptorIndex := 6, attributes := #[] }, { accessFlags := 16409, nameIndex := 12, descriptorIndex := 6, attributes := #[] }, { accessFlags := 18, nameIndex := 34, descriptorIndex := 35, attributes := #[] }, { accessFlags := 18, nameIndex := 38, descriptorIndex := 35, attributes := #[] }, { accessFlags := 4122, nameIndex := 15, descriptorIndex := 16, attributes := #[] }])
  fields := #[{ name := "ENGLISH", type := (.object "com/example/dragoman/dragoman/core/Language"), accessFlags := 16409, slot := 0, constantValue := 0 }, { name := "JAPANESE", type := (.object "com/example/dragoman/dragoman/core/Language"), accessFlags := 16409, slot := 1, constantValue := 0 }, { name := "CHINESE", type := (.object "com/example/dragoman/dragoman/core/Language"), accessFlags := 16409, slot := 2, constantValue := 0 }, { name := "code", type := (.object "java/lang/String"), accessFlags := 18, slot := 3, constantValue := 0 }, { name := "wordSeparator", type := (.object "java/lang/String"), accessFlags := 18, slot := 4, constantValue := 0 }, { name := "$VALUES", type := (.array (.object "com/example/dragoman/dragoman/core/Language")), accessFlags := 4122, slot := 3, constantValue := 0 }]
  methods := #[k9m0, k9m1]
  instanceTypes := #[(.object "java/lang/String"), .int, .int, (.object "java/lang/String"), (.object "java/lang/String")]
  staticTypes := #[(.object "com/example/dragoman/dragoman/core/Language"), (.object "com/example/dragoman/dragoman/core/Language"), (.object "com/example/dragoman/dragoman/core/Language"), (.array (.object "com/example/dragoman/dragoman/core/Language"))]
  resolved := Array.replicate 94 none
  statics := some 1 }

def pool10 : Array CpInfo := pool [(1, .class_ 2), (0, u "java/lang/Cloneable"), (0, .class_ 4), (0, u "java/lang/Object")] 2

/-- java/lang/Cloneable -/
def k10 : Class := { plain "java/lang/Cloneable" (some 0) with
  accessFlags := 1537
  interfaces := #[]
  cf := some (fileOf pool10 1 #[] #[] 1537 3 #[] #[])
  fields := #[]
  methods := #[]
  instanceTypes := #[]
  staticTypes := #[]
  resolved := Array.replicate 7 none
  statics := none }

def pool11 : Array CpInfo := pool [(1, .class_ 2), (0, u "java/lang/String"), (1, .class_ 6), (1, u "java/lang/Object"), (0, u "<init>"), (0, u "()V"), (0, .methodref 1 10), (0, .nameAndType 11 12), (0, u "checkIndex"), (0, u "(II)V"), (1, .class_ 16), (1, u "java/lang/StringLatin1"), (36, u "([BI)C"), (67, u "$assertionsDisabled"), (0, u "Z"), (98, .class_ 223), (1, u "java/lang/StringLatin1$LinesSpliterator"), (28, u "charAt"), (28, u "equals"), (0, u "([B[B)Z"), (107, .class_ 391), (0, u "java/lang/StringLatin1$CharsSpliterator")] 3

def k11m0 : Method := { name := "<init>", desc := "()V", sig := { parameters := [], returnType := none }, accessFlags := 0, code := none }
def k11c1 : Code := { maxStack := 2, maxLocals := 2, code := jdk_43_method_2_code, exceptionTable := #[], attributes := #[] }
def k11m1 : Method := { name := "charAt", desc := "([BI)C", sig := { parameters := [(.array .byte), .int], returnType := some .char }, accessFlags := 9, code := some k11c1 }
def k11c2 : Code := { maxStack := 3, maxLocals := 3, code := jdk_43_method_13_code, exceptionTable := #[], attributes := #[] }
def k11m2 : Method := { name := "equals", desc := "([B[B)Z", sig := { parameters := [(.array .byte), (.array .byte)], returnType := some .boolean }, accessFlags := 9, code := some k11c2 }
/-- java/lang/StringLatin1 -/
def k11 : Class := { plain "java/lang/StringLatin1" (some 0) with
  accessFlags := 48
  interfaces := #[]
  cf := some (fileOf pool11 14 #[.nestMembers #[390, 221]] #[{ accessFlags := 0, nameIndex := 7, descriptorIndex := 8, attributes := #[] }, { accessFlags := 9, nameIndex := 252, descriptorIndex := 53, attributes := #[] }, { accessFlags := 9, nameIndex := 281, descriptorIndex := 282, attributes := #[] }] 48 4 #[] #[{ accessFlags := 4120, nameIndex := 121, descriptorIndex := 122, attributes := #[] }])
  fields := #[{ name := "$assertionsDisabled", type := .boolean, accessFlags := 4120, slot := 0, constantValue := 0 }]
  methods := #[k11m0, k11m1, k11m2]
  instanceTypes := #[]
  staticTypes := #[.boolean]
  resolved := Array.replicate 395 none
  statics := none }

def pool12 : Array CpInfo := pool [(1, .fieldref 2 3), (0, .class_ 4), (0, .nameAndType 5 6), (0, u "java/util/Optional"), (0, u "EMPTY"), (0, u "Ljava/util/Optional;"), (0, .methodref 8 9), (0, .class_ 10), (0, .nameAndType 11 12), (0, u "java/lang/Object"), (0, u "<init>"), (0, u "()V"), (0, .fieldref 2 14), (0, .nameAndType 15 16), (0, u "value"), (0, u "Ljava/lang/Object;"), (0, .methodref 18 19), (0, .class_ 20), (0, .nameAndType 21 22), (0, u "java/util/Objects"), (0, u "requireNonNull"), (0, u "(Ljava/lang/Object;)Ljava/lang/Object;"), (0, .methodref 2 24), (0, .nameAndType 11 25), (0, u "(Ljava/lang/Object;)V"), (29, u "empty"), (0, u "()Ljava/util/Optional;"), (8, u "(Ljava/lang/Object;)Ljava/util/Optional;"), (16, u "of"), (82, u "orElse")] 21

def k12c0 : Code := { maxStack := 1, maxLocals := 1, code := jdk_32_method_1_code, exceptionTable := #[], attributes := #[] }
def k12m0 : Method := { name := "empty", desc := "()Ljava/util/Optional;", sig := { parameters := [], returnType := some (.object "java/util/Optional") }, accessFlags := 9, code := some k12c0 }
def k12c1 : Code := { maxStack := 2, maxLocals := 2, code := jdk_32_method_2_code, exceptionTable := #[], attributes := #[] }
def k12m1 : Method := { name := "<init>", desc := "(Ljava/lang/Object;)V", sig := { parameters := [(.object "java/lang/Object")], returnType := none }, accessFlags := 2, code := some k12c1 }
def k12c2 : Code := { maxStack := 3, maxLocals := 1, code := jdk_32_method_3_code, exceptionTable := #[], attributes := #[] }
def k12m2 : Method := { name := "of", desc := "(Ljava/lang/Object;)Ljava/util/Optional;", sig := { parameters := [(.object "java/lang/Object")], returnType := some (.object "java/util/Optional") }, accessFlags := 9, code := some k12c2 }
def k12c3 : Code := { maxStack := 1, maxLocals := 2, code := jdk_32_method_15_code, exceptionTable := #[], attributes := #[] }
def k12m3 : Method := { name := "orElse", desc := "(Ljava/lang/Object;)Ljava/lang/Object;", sig := { parameters := [(.object "java/lang/Object")], returnType := some (.object "java/lang/Object") }, accessFlags := 1, code := some k12c3 }
/-- java/util/Optional -/
def k12 : Class := { plain "java/util/Optional" (some 0) with
  accessFlags := 49
  interfaces := #[]
  cf := some (fileOf pool12 2 #[] #[{ accessFlags := 9, nameIndex := 55, descriptorIndex := 56, attributes := #[] }, { accessFlags := 2, nameIndex := 11, descriptorIndex := 25, attributes := #[] }, { accessFlags := 9, nameIndex := 82, descriptorIndex := 65, attributes := #[] }, { accessFlags := 1, nameIndex := 165, descriptorIndex := 22, attributes := #[] }] 49 8 #[] #[{ accessFlags := 26, nameIndex := 5, descriptorIndex := 6, attributes := #[] }, { accessFlags := 18, nameIndex := 15, descriptorIndex := 16, attributes := #[] }])
  fields := #[{ name := "EMPTY", type := (.object "java/util/Optional"), accessFlags := 26, slot := 0, constantValue := 0 }, { name := "value", type := (.object "java/lang/Object"), accessFlags := 18, slot := 0, constantValue := 0 }]
  methods := #[k12m0, k12m1, k12m2, k12m3]
  instanceTypes := #[(.object "java/lang/Object")]
  staticTypes := #[(.object "java/util/Optional")]
  resolved := Array.replicate 187 none
  statics := some 2 }

def pool13 : Array CpInfo := pool [(6, .class_ 8), (1, u "java/lang/Object"), (0, u "<init>"), (0, u "()V"), (1, .class_ 14), (1, u "java/lang/StringUTF16"), (31, u "$assertionsDisabled"), (0, u "Z"), (13, u "HI_BYTE_SHIFT"), (0, u "I"), (2, u "LO_BYTE_SHIFT"), (49, .methodref 12 116), (0, .nameAndType 117 118), (0, u "compress"), (0, u "([CI[BII)I"), (3, u "([CII)[B"), (138, u "coderFromArrayLen"), (0, u "([BI)B"), (106, .class_ 371), (1, u "java/lang/StringUTF16$LinesSpliterator"), (58, u "MAX_LENGTH"), (196, .class_ 628), (0, u "java/lang/StringUTF16$CodePointsSpliterator"), (0, .class_ 630), (0, u "java/lang/StringUTF16$CharsSpliterator")] 4

def k13m0 : Method := { name := "<init>", desc := "()V", sig := { parameters := [], returnType := none }, accessFlags := 0, code := none }
def k13c1 : Code := { maxStack := 2, maxLocals := 2, code := jdk_52_method_15_code, exceptionTable := #[], attributes := #[] }
def k13m1 : Method := { name := "coderFromArrayLen", desc := "([BI)B", sig := { parameters := [(.array .byte), .int], returnType := some .byte }, accessFlags := 8, code := some k13c1 }
def k13c2 : Code := { maxStack := 5, maxLocals := 6, code := jdk_52_method_16_code, exceptionTable := #[], attributes := #[] }
def k13m2 : Method := { name := "compress", desc := "([CII)[B", sig := { parameters := [(.array .char), .int, .int], returnType := some (.array .byte) }, accessFlags := 9, code := some k13c2 }
def k13c3 : Code := { maxStack := 3, maxLocals := 7, code := jdk_52_method_21_code, exceptionTable := #[], attributes := #[] }
def k13m3 : Method := { name := "compress", desc := "([CI[BII)I", sig := { parameters := [(.array .char), .int, (.array .byte), .int, .int], returnType := some .int }, accessFlags := 9, code := some k13c3 }
/-- java/lang/StringUTF16 -/
def k13 : Class := { plain "java/lang/StringUTF16" (some 0) with
  accessFlags := 48
  interfaces := #[]
  cf := some (fileOf pool13 12 #[.nestMembers #[627, 629, 369]] #[{ accessFlags := 0, nameIndex := 9, descriptorIndex := 10, attributes := #[] }, { accessFlags := 8, nameIndex := 261, descriptorIndex := 262, attributes := #[] }, { accessFlags := 9, nameIndex := 117, descriptorIndex := 122, attributes := #[] }, { accessFlags := 9, nameIndex := 117, descriptorIndex := 118, attributes := #[] }] 48 6 #[] #[{ accessFlags := 26, nameIndex := 61, descriptorIndex := 62, attributes := #[] }, { accessFlags := 26, nameIndex := 65, descriptorIndex := 62, attributes := #[] }, { accessFlags := 24, nameIndex := 430, descriptorIndex := 62, attributes := #[] }, { accessFlags := 4120, nameIndex := 46, descriptorIndex := 47, attributes := #[] }])
  fields := #[{ name := "HI_BYTE_SHIFT", type := .int, accessFlags := 26, slot := 0, constantValue := 0 }, { name := "LO_BYTE_SHIFT", type := .int, accessFlags := 26, slot := 1, constantValue := 0 }, { name := "MAX_LENGTH", type := .int, accessFlags := 24, slot := 2, constantValue := 0 }, { name := "$assertionsDisabled", type := .boolean, accessFlags := 4120, slot := 3, constantValue := 0 }]
  methods := #[k13m0, k13m1, k13m2, k13m3]
  instanceTypes := #[]
  staticTypes := #[.int, .int, .int, .boolean]
  resolved := Array.replicate 635 none
  statics := none }

def pool14 : Array CpInfo := pool [(2, .class_ 4), (1, u "java/lang/Object"), (0, u "<init>"), (0, u "()V"), (17, .class_ 26), (1, u "jdk/internal/util/Preconditions"), (6, u "checkIndex"), (21, .class_ 56), (0, u "jdk/internal/util/Preconditions$4"), (57, .class_ 115), (0, u "jdk/internal/util/Preconditions$1"), (7, u "SIOOBE_FORMATTER"), (0, u "Ljava/util/function/BiFunction;"), (0, .class_ 126), (0, u "jdk/internal/util/Preconditions$2"), (3, u "AIOOBE_FORMATTER"), (0, .class_ 132), (0, u "jdk/internal/util/Preconditions$3"), (3, u "IOOBE_FORMATTER"), (41, u "(IILjava/util/function/BiFunction;)I")] 15

def k14m0 : Method := { name := "<init>", desc := "()V", sig := { parameters := [], returnType := none }, accessFlags := 1, code := none }
def k14c1 : Code := { maxStack := 3, maxLocals := 3, code := jdk_41_method_11_code, exceptionTable := #[], attributes := #[] }
def k14m1 : Method := { name := "checkIndex", desc := "(IILjava/util/function/BiFunction;)I", sig := { parameters := [.int, .int, (.object "java/util/function/BiFunction")], returnType := some .int }, accessFlags := 9, code := some k14c1 }
/-- jdk/internal/util/Preconditions -/
def k14 : Class := { plain "jdk/internal/util/Preconditions" (some 0) with
  accessFlags := 33
  interfaces := #[]
  cf := some (fileOf pool14 24 #[.nestMembers #[55, 131, 125, 114]] #[{ accessFlags := 1, nameIndex := 5, descriptorIndex := 6, attributes := #[] }, { accessFlags := 9, nameIndex := 33, descriptorIndex := 178, attributes := #[] }] 33 2 #[] #[{ accessFlags := 25, nameIndex := 123, descriptorIndex := 124, attributes := #[] }, { accessFlags := 25, nameIndex := 130, descriptorIndex := 124, attributes := #[] }, { accessFlags := 25, nameIndex := 136, descriptorIndex := 124, attributes := #[] }])
  fields := #[{ name := "SIOOBE_FORMATTER", type := (.object "java/util/function/BiFunction"), accessFlags := 25, slot := 0, constantValue := 0 }, { name := "AIOOBE_FORMATTER", type := (.object "java/util/function/BiFunction"), accessFlags := 25, slot := 1, constantValue := 0 }, { name := "IOOBE_FORMATTER", type := (.object "java/util/function/BiFunction"), accessFlags := 25, slot := 2, constantValue := 0 }]
  methods := #[k14m0, k14m1]
  instanceTypes := #[]
  staticTypes := #[(.object "java/util/function/BiFunction"), (.object "java/util/function/BiFunction"), (.object "java/util/function/BiFunction")]
  resolved := Array.replicate 194 none
  statics := some 3 }

def pool15 : Array CpInfo := pool [(2, .class_ 4), (1, u "java/lang/Object"), (0, u "<init>"), (0, u "()V"), (35, .class_ 44), (1, u "java/util/Objects"), (0, u "requireNonNull"), (0, u "(Ljava/lang/Object;)Ljava/lang/Object;")] 137

def k15m0 : Method := { name := "<init>", desc := "()V", sig := { parameters := [], returnType := none }, accessFlags := 2, code := none }
def k15c1 : Code := { maxStack := 2, maxLocals := 1, code := jdk_31_method_10_code, exceptionTable := #[], attributes := #[] }
def k15m1 : Method := { name := "requireNonNull", desc := "(Ljava/lang/Object;)Ljava/lang/Object;", sig := { parameters := [(.object "java/lang/Object")], returnType := some (.object "java/lang/Object") }, accessFlags := 9, code := some k15c1 }
/-- java/util/Objects -/
def k15 : Class := { plain "java/util/Objects" (some 0) with
  accessFlags := 49
  interfaces := #[]
  cf := some (fileOf pool15 42 #[] #[{ accessFlags := 2, nameIndex := 5, descriptorIndex := 6, attributes := #[] }, { accessFlags := 9, nameIndex := 45, descriptorIndex := 46, attributes := #[] }] 49 2 #[] #[])
  fields := #[]
  methods := #[k15m0, k15m1]
  instanceTypes := #[]
  staticTypes := #[]
  resolved := Array.replicate 184 none
  statics := none }

def pool16 : Array CpInfo := pool [(9, u "<init>"), (6, .class_ 18), (1, u "java/lang/Object"), (0, u "()V"), (1, .class_ 23), (1, u "jdk/internal/util/ArraysSupport"), (0, u "LOG2_ARRAY_LONG_INDEX_SCALE"), (0, u "I"), (2, u "U"), (0, u "Ljdk/internal/misc/Unsafe;"), (8, u "BIG_ENDIAN"), (0, u "Z"), (8, u "LOG2_BYTE_BIT_SIZE"), (4, u "LOG2_ARRAY_INT_INDEX_SCALE"), (54, u "JLA"), (0, u "Ljdk/internal/access/JavaLangAccess;"), (11, u "LOG2_ARRAY_BOOLEAN_INDEX_SCALE"), (9, u "LOG2_ARRAY_BYTE_INDEX_SCALE"), (5, u "LOG2_ARRAY_CHAR_INDEX_SCALE"), (5, u "LOG2_ARRAY_SHORT_INDEX_SCALE"), (18, u "LOG2_ARRAY_FLOAT_INDEX_SCALE"), (24, u "LOG2_ARRAY_DOUBLE_INDEX_SCALE"), (89, u "T_BOOLEAN"), (2, u "T_CHAR"), (1, u "T_FLOAT"), (1, u "T_DOUBLE"), (1, u "T_BYTE"), (1, u "T_SHORT"), (1, u "T_INT"), (1, u "T_LONG"), (1, u "SOFT_MAX_ARRAY_LENGTH")] 83

def k16m0 : Method := { name := "<init>", desc := "()V", sig := { parameters := [], returnType := none }, accessFlags := 2, code := none }
/-- jdk/internal/util/ArraysSupport -/
def k16 : Class := { plain "jdk/internal/util/ArraysSupport" (some 0) with
  accessFlags := 33
  interfaces := #[]
  cf := some (fileOf pool16 21 #[] #[{ accessFlags := 2, nameIndex := 9, descriptorIndex := 19, attributes := #[] }] 33 16 #[] #[{ accessFlags := 24, nameIndex := 28, descriptorIndex := 29, attributes := #[] }, { accessFlags := 26, nameIndex := 38, descriptorIndex := 39, attributes := #[] }, { accessFlags := 25, nameIndex := 121, descriptorIndex := 25, attributes := #[] }, { accessFlags := 25, nameIndex := 131, descriptorIndex := 25, attributes := #[] }, { accessFlags := 25, nameIndex := 137, descriptorIndex := 25, attributes := #[] }, { accessFlags := 25, nameIndex := 143, descriptorIndex := 25, attributes := #[] }, { accessFlags := 25, nameIndex := 53, descriptorIndex := 25, attributes := #[] }, { accessFlags := 25, nameIndex := 24, descriptorIndex := 25, attributes := #[] }, { accessFlags := 25, nameIndex := 162, descriptorIndex := 25, attributes := #[] }, { accessFlags := 25, nameIndex := 187, descriptorIndex := 25, attributes := #[] }, { accessFlags := 26, nameIndex := 48, descriptorIndex := 25, attributes := #[] }, { accessFlags := 25, nameIndex := 277, descriptorIndex := 25, attributes := #[] }, { accessFlags := 25, nameIndex := 280, descriptorIndex := 25, attributes := #[] }, { accessFlags := 25, nameIndex := 282, descriptorIndex := 25, attributes := #[] }, { accessFlags := 25, nameIndex := 284, descriptorIndex := 25, attributes := #[] }, { accessFlags := 25, nameIndex := 286, descriptorIndex := 25, attributes := #[] }, { accessFlags := 25, nameIndex := 288, descriptorIndex := 25, attributes := #[] }, { accessFlags := 25, nameIndex := 290, descriptorIndex := 25, attributes := #[] }, { accessFlags := 25, nameIndex := 292, descriptorIndex := 25, attributes := #[] }, { accessFlags := 26, nameIndex := 108, descriptorIndex := 109, attributes := #[] }, { accessFlags := 25, nameIndex := 294, descriptorIndex := 25, attributes := #[] }])
  fields := #[{ name := "U", type := (.object "jdk/internal/misc/Unsafe"), accessFlags := 24, slot := 0, constantValue := 0 }, { name := "BIG_ENDIAN", type := .boolean, accessFlags := 26, slot := 1, constantValue := 0 }, { name := "LOG2_ARRAY_BOOLEAN_INDEX_SCALE", type := .int, accessFlags := 25, slot := 2, constantValue := 0 }, { name := "LOG2_ARRAY_BYTE_INDEX_SCALE", type := .int, accessFlags := 25, slot := 3, constantValue := 0 }, { name := "LOG2_ARRAY_CHAR_INDEX_SCALE", type := .int, accessFlags := 25, slot := 4, constantValue := 0 }, { name := "LOG2_ARRAY_SHORT_INDEX_SCALE", type := .int, accessFlags := 25, slot := 5, constantValue := 0 }, { name := "LOG2_ARRAY_INT_INDEX_SCALE", type := .int, accessFlags := 25, slot := 6, constantValue := 0 }, { name := "LOG2_ARRAY_LONG_INDEX_SCALE", type := .int, accessFlags := 25, slot := 7, constantValue := 0 }, { name := "LOG2_ARRAY_FLOAT_INDEX_SCALE", type := .int, accessFlags := 25, slot := 8, constantValue := 0 }, { name := "LOG2_ARRAY_DOUBLE_INDEX_SCALE", type := .int, accessFlags := 25, slot := 9, constantValue := 0 }, { name := "LOG2_BYTE_BIT_SIZE", type := .int, accessFlags := 26, slot := 10, constantValue := 0 }, { name := "T_BOOLEAN", type := .int, accessFlags := 25, slot := 11, constantValue := 0 }, { name := "T_CHAR", type := .int, accessFlags := 25, slot := 12, constantValue := 0 }, { name := "T_FLOAT", type := .int, accessFlags := 25, slot := 13, constantValue := 0 }, { name := "T_DOUBLE", type := .int, accessFlags := 25, slot := 14, constantValue := 0 }, { name := "T_BYTE", type := .int, accessFlags := 25, slot := 15, constantValue := 0 }, { name := "T_SHORT", type := .int, accessFlags := 25, slot := 16, constantValue := 0 }, { name := "T_INT", type := .int, accessFlags := 25, slot := 17, constantValue := 0 }, { name := "T_LONG", type := .int, accessFlags := 25, slot := 18, constantValue := 0 }, { name := "JLA", type := (.object "jdk/internal/access/JavaLangAccess"), accessFlags := 26, slot := 19, constantValue := 0 }, { name := "SOFT_MAX_ARRAY_LENGTH", type := .int, accessFlags := 25, slot := 20, constantValue := 0 }]
  methods := #[k16m0]
  instanceTypes := #[]
  staticTypes := #[(.object "jdk/internal/misc/Unsafe"), .boolean, .int, .int, .int, .int, .int, .int, .int, .int, .int, .int, .int, .int, .int, .int, .int, .int, .int, (.object "jdk/internal/access/JavaLangAccess"), .int]
  resolved := Array.replicate 378 none
  statics := none }

/-- the primitive byte -/
def k17 : Class := { plain "byte" none with kind := .primitive 'B', accessFlags := 0x411 }
/-- [B -/
def k18 : Class := { plain "[B" (some 0) with kind := .array 17 .byte, interfaces := #[10, 2], accessFlags := 1041 }

/-- the primitive char -/
def k19 : Class := { plain "char" none with kind := .primitive 'C', accessFlags := 0x411 }
/-- [C -/
def k20 : Class := { plain "[C" (some 0) with kind := .array 19 .char, interfaces := #[10, 2], accessFlags := 1041 }

/-- the primitive int -/
def k21 : Class := { plain "int" none with kind := .primitive 'I', accessFlags := 0x411 }
/-- [I -/
def k22 : Class := { plain "[I" (some 0) with kind := .array 21 .int, interfaces := #[10, 2], accessFlags := 1041 }

/-- [Lcom/example/dragoman/dragoman/core/Language; -/
def k23 : Class := { plain "[Lcom/example/dragoman/dragoman/core/Language;" (some 0) with kind := .array 9 (.object "com/example/dragoman/dragoman/core/Language"), interfaces := #[10, 2], accessFlags := 1041 }

def heap : Heap := #[{ cls := 7, slots := #[.long 0, .int 1, .null, .int 0, .null, .int 0, .int 0], vm := .statics 7 },
  { cls := 9, slots := #[.ref 5, .ref 6, .ref 7, .ref 4], vm := .statics 9 },
  { cls := 12, slots := #[.ref 14], vm := .statics 12 },
  { cls := 14, slots := #[.null, .null, .null], vm := .statics 14 },
  { cls := 23, slots := #[.ref 5, .ref 6, .ref 7], vm := .none },
  { cls := 9, slots := #[.null, .int 0, .int 0, .ref 8, .null], vm := .none },
  { cls := 9, slots := #[.null, .int 1, .int 0, .ref 9, .null], vm := .none },
  { cls := 9, slots := #[.null, .int 2, .int 0, .ref 10, .null], vm := .none },
  { cls := 7, slots := #[.ref 11, .int 0, .int 0, .int 0], vm := .none },
  { cls := 7, slots := #[.ref 12, .int 0, .int 0, .int 0], vm := .none },
  { cls := 7, slots := #[.ref 13, .int 0, .int 0, .int 0], vm := .none },
  { cls := 18, slots := #[.int 101, .int 110], vm := .none },
  { cls := 18, slots := #[.int 106, .int 97], vm := .none },
  { cls := 18, slots := #[.int 122, .int 104], vm := .none },
  { cls := 12, slots := #[.null], vm := .none }]
def classes : Array Class := #[k0, k1, k2, k3, k4, k5, k6, k7, k8, k9, k10, k11, k12, k13, k14, k15, k16, k17, k18, k19, k20, k21, k22, k23]
def interned : List (Array UInt16 × Addr) := []
def slotsUsed : Nat := 52
def theMethod : MethodId := ⟨1, 2⟩
def args0 : Array Value := #[.int 5, .int 6, .int 7, .int 8]
def aboutOver (below : List Frame) : State where
  vm := { classes := classes, interned := interned.toArray }
  heap := heap
  slotsUsed := slotsUsed
  threads := #[{ frames := .invoking theMethod args0 :: below }]
def below0 : List Frame := [.native { method := ⟨0, 0⟩, args := #[] }]
def about1 : State := aboutOver below0
def p0 : Program := .bare "" "" ""
def e0 : Env := launch0.env 0 0 0
theorem w_frames : about1.frames = Frame.invoking theMethod args0 :: below0 := rfl
set_option maxRecDepth 65536 in
theorem w_args : argsFit about1.vm theMethod args0 = true := by decide +kernel
set_option maxRecDepth 65536 in
theorem w_heap : heapFits about1 = true := by decide +kernel
set_option maxRecDepth 65536 in
theorem w_runnable : about1.curStatus? = some .runnable := by decide +kernel
set_option maxRecDepth 65536 in
theorem w_alone : about1.alone = true := by decide +kernel
set_option maxRecDepth 65536 in
theorem w_named : about1.methodNamed? x = some theMethod := by decide +kernel
set_option maxRecDepth 65536 in
theorem w_hears : about1.hears theMethod below0 = true := by decide +kernel
set_option maxRecDepth 65536 in
theorem w_ripe : about1.ripe theMethod args0 below0 = true := by decide +kernel
theorem w_running : about1.status = .running := rfl
set_option maxRecDepth 65536 in
theorem w_room : about1.hasRoom e0.platform room_1 = true :=
  launch0.hasRoom_least _ room_1 (by decide +kernel) (by decide +kernel) (by decide +kernel) (by decide +kernel) (by decide +kernel) (by decide +kernel)
theorem allAtoms_all (ts : List Jvm.Cond) (a : Array Jvm.Value) (st : Jvm.State) : (allAtoms ts).before a st = ts.all (fun c => c.before a st) := by
  induction ts with
  | nil => rfl
  | cons c t ih =>
    show (Jvm.Cond.and c (allAtoms t)).before a st = _
    rw [Jvm.Cond.before_and, ih, List.all_cons]
def words1 : List Jvm.Cond := Jvm.Cond.code x code maxLocals ret :: tables_1
/-- a 'code' word, met by the world's own term for the bytes: nothing is compared byte by byte -/
theorem code_word {y : MethodName} {bytes : ByteArray} {mx : Nat} {rt : Option FieldType} {a : Array Value} {s : State} {m : MethodId} {meth : Method} {c : Code} (h1 : s.methodNamed? y = some m) (h2 : s.vm.method? m = some meth) (h3 : meth.code = some c) (h4 : c.code = bytes)
    (h5 : (c.maxLocals == mx && c.exceptionTable.isEmpty && decide (c.maxStack ≤ mostOperands) && decide (meth.sig.returnType = rt) && !meth.locks && decide (parseMethodDescriptor y.desc = some meth.sig)) = true) : (Jvm.Cond.code y bytes mx rt).before a s = true := by
  simp only [Bool.and_eq_true, beq_iff_eq, Bool.not_eq_true', decide_eq_true_eq] at h5
  obtain ⟨⟨⟨⟨⟨g1, g2⟩, g3⟩, g4⟩, g5⟩, g6⟩ := h5
  simp [Cond.before, Cond.holds, Cond.value, h1, h2, h3, h4, g1, g2, g3, g4, g5, g6]
def isCode : Jvm.Cond → Bool
  | .code _ _ _ _ => true
  | _ => false
theorem all_split {L : List Jvm.Cond} {P : Jvm.Cond → Bool} (h1 : L.all (fun c => isCode c || P c) = true) (h2 : ∀ c ∈ L.filter isCode, P c = true) : L.all P = true := by
  refine List.all_eq_true.mpr fun c hc => ?_
  have h := List.all_eq_true.mp h1 c hc
  rcases Bool.eq_false_or_eq_true (isCode c) with hi | hi
  · exact h2 c (List.mem_filter.mpr ⟨hc, hi⟩)
  · simpa [hi] using h
set_option maxRecDepth 65536 in
theorem w_c0 : (Jvm.Cond.code x code maxLocals ret).before args0 about1 = true := code_word (m := ⟨1, 2⟩) (meth := k1m2) (c := k1c2) (by decide +kernel) rfl rfl rfl (by decide +kernel)
set_option maxRecDepth 65536 in
theorem w_c1 : (Jvm.Cond.code ({ cls := "com/example/dragoman/dragoman/core/LanguageForCodePinLaw", name := "pick", desc := "(I)C" } : Jvm.MethodName) method_2_code (2 : Nat) (Option.some Jvm.ClassFile.FieldType.char)).before args0 about1 = true := code_word (m := ⟨1, 1⟩) (meth := k1m1) (c := k1c1) (by decide +kernel) rfl rfl rfl (by decide +kernel)
set_option maxRecDepth 65536 in
theorem w_c2 : (Jvm.Cond.code ({ cls := "java/lang/String", name := "<init>", desc := "([C)V" } : Jvm.MethodName) jdk_42_method_3_code (2 : Nat) (Option.none : Option Jvm.ClassFile.FieldType)).before args0 about1 = true := code_word (m := ⟨7, 1⟩) (meth := k7m1) (c := k7c1) (by decide +kernel) rfl rfl rfl (by decide +kernel)
set_option maxRecDepth 65536 in
theorem w_c3 : (Jvm.Cond.code ({ cls := "java/lang/String", name := "<init>", desc := "([CIILjava/lang/Void;)V" } : Jvm.MethodName) jdk_42_method_149_code (6 : Nat) (Option.none : Option Jvm.ClassFile.FieldType)).before args0 about1 = true := code_word (m := ⟨7, 4⟩) (meth := k7m4) (c := k7c4) (by decide +kernel) rfl rfl rfl (by decide +kernel)
set_option maxRecDepth 65536 in
theorem w_c4 : (Jvm.Cond.code ({ cls := "java/lang/Object", name := "<init>", desc := "()V" } : Jvm.MethodName) object_method_1_code (1 : Nat) (Option.none : Option Jvm.ClassFile.FieldType)).before args0 about1 = true := code_word (m := ⟨0, 0⟩) (meth := k0m0) (c := k0c0) (by decide +kernel) rfl rfl rfl (by decide +kernel)
set_option maxRecDepth 65536 in
theorem w_c5 : (Jvm.Cond.code ({ cls := "com/example/dragoman/dragoman/core/Language", name := "forCode", desc := "(Ljava/lang/String;)Ljava/util/Optional;" } : Jvm.MethodName) prog_9_method_6_code (5 : Nat) (Option.some (Jvm.ClassFile.FieldType.object "java/util/Optional"))).before args0 about1 = true := code_word (m := ⟨9, 1⟩) (meth := k9m1) (c := k9c1) (by decide +kernel) rfl rfl rfl (by decide +kernel)
set_option maxRecDepth 65536 in
theorem w_c6 : (Jvm.Cond.code ({ cls := "com/example/dragoman/dragoman/core/Language", name := "values", desc := "()[Lcom/example/dragoman/dragoman/core/Language;" } : Jvm.MethodName) prog_9_method_1_code (0 : Nat) (Option.some (Jvm.ClassFile.FieldType.array (Jvm.ClassFile.FieldType.object "com/example/dragoman/dragoman/core/Language")))).before args0 about1 = true := code_word (m := ⟨9, 0⟩) (meth := k9m0) (c := k9c0) (by decide +kernel) rfl rfl rfl (by decide +kernel)
set_option maxRecDepth 65536 in
theorem w_c7 : (Jvm.Cond.code ({ cls := "java/lang/String", name := "equals", desc := "(Ljava/lang/Object;)Z" } : Jvm.MethodName) jdk_42_method_66_code (3 : Nat) (Option.some Jvm.ClassFile.FieldType.boolean)).before args0 about1 = true := code_word (m := ⟨7, 3⟩) (meth := k7m3) (c := k7c3) (by decide +kernel) rfl rfl rfl (by decide +kernel)
set_option maxRecDepth 65536 in
theorem w_c8 : (Jvm.Cond.code ({ cls := "java/lang/StringLatin1", name := "equals", desc := "([B[B)Z" } : Jvm.MethodName) jdk_43_method_13_code (3 : Nat) (Option.some Jvm.ClassFile.FieldType.boolean)).before args0 about1 = true := code_word (m := ⟨11, 2⟩) (meth := k11m2) (c := k11c2) (by decide +kernel) rfl rfl rfl (by decide +kernel)
set_option maxRecDepth 65536 in
theorem w_c9 : (Jvm.Cond.code ({ cls := "java/util/Optional", name := "empty", desc := "()Ljava/util/Optional;" } : Jvm.MethodName) jdk_32_method_1_code (1 : Nat) (Option.some (Jvm.ClassFile.FieldType.object "java/util/Optional"))).before args0 about1 = true := code_word (m := ⟨12, 0⟩) (meth := k12m0) (c := k12c0) (by decide +kernel) rfl rfl rfl (by decide +kernel)
set_option maxRecDepth 65536 in
theorem w_c10 : (Jvm.Cond.code ({ cls := "java/util/Optional", name := "orElse", desc := "(Ljava/lang/Object;)Ljava/lang/Object;" } : Jvm.MethodName) jdk_32_method_15_code (2 : Nat) (Option.some (Jvm.ClassFile.FieldType.object "java/lang/Object"))).before args0 about1 = true := code_word (m := ⟨12, 3⟩) (meth := k12m3) (c := k12c3) (by decide +kernel) rfl rfl rfl (by decide +kernel)
set_option maxRecDepth 65536 in
theorem w_c11 : (Jvm.Cond.code ({ cls := "java/lang/StringUTF16", name := "compress", desc := "([CII)[B" } : Jvm.MethodName) jdk_52_method_16_code (6 : Nat) (Option.some (Jvm.ClassFile.FieldType.array Jvm.ClassFile.FieldType.byte))).before args0 about1 = true := code_word (m := ⟨13, 2⟩) (meth := k13m2) (c := k13c2) (by decide +kernel) rfl rfl rfl (by decide +kernel)
set_option maxRecDepth 65536 in
theorem w_c12 : (Jvm.Cond.code ({ cls := "java/lang/StringUTF16", name := "compress", desc := "([CI[BII)I" } : Jvm.MethodName) jdk_52_method_21_code (7 : Nat) (Option.some Jvm.ClassFile.FieldType.int)).before args0 about1 = true := code_word (m := ⟨13, 3⟩) (meth := k13m3) (c := k13c3) (by decide +kernel) rfl rfl rfl (by decide +kernel)
set_option maxRecDepth 65536 in
theorem w_c13 : (Jvm.Cond.code ({ cls := "java/lang/StringUTF16", name := "coderFromArrayLen", desc := "([BI)B" } : Jvm.MethodName) jdk_52_method_15_code (2 : Nat) (Option.some Jvm.ClassFile.FieldType.byte)).before args0 about1 = true := code_word (m := ⟨13, 1⟩) (meth := k13m1) (c := k13c1) (by decide +kernel) rfl rfl rfl (by decide +kernel)
set_option maxRecDepth 65536 in
theorem w_c14 : (Jvm.Cond.code ({ cls := "java/lang/String", name := "charAt", desc := "(I)C" } : Jvm.MethodName) jdk_42_method_56_code (2 : Nat) (Option.some Jvm.ClassFile.FieldType.char)).before args0 about1 = true := code_word (m := ⟨7, 2⟩) (meth := k7m2) (c := k7c2) (by decide +kernel) rfl rfl rfl (by decide +kernel)
set_option maxRecDepth 65536 in
theorem w_c15 : (Jvm.Cond.code ({ cls := "java/lang/String", name := "isLatin1", desc := "()Z" } : Jvm.MethodName) jdk_42_method_154_code (1 : Nat) (Option.some Jvm.ClassFile.FieldType.boolean)).before args0 about1 = true := code_word (m := ⟨7, 5⟩) (meth := k7m5) (c := k7c5) (by decide +kernel) rfl rfl rfl (by decide +kernel)
set_option maxRecDepth 65536 in
theorem w_c16 : (Jvm.Cond.code ({ cls := "java/lang/StringLatin1", name := "charAt", desc := "([BI)C" } : Jvm.MethodName) jdk_43_method_2_code (2 : Nat) (Option.some Jvm.ClassFile.FieldType.char)).before args0 about1 = true := code_word (m := ⟨11, 1⟩) (meth := k11m1) (c := k11c1) (by decide +kernel) rfl rfl rfl (by decide +kernel)
set_option maxRecDepth 65536 in
theorem w_c17 : (Jvm.Cond.code ({ cls := "java/lang/String", name := "checkIndex", desc := "(II)V" } : Jvm.MethodName) jdk_42_method_155_code (2 : Nat) (Option.none : Option Jvm.ClassFile.FieldType)).before args0 about1 = true := code_word (m := ⟨7, 6⟩) (meth := k7m6) (c := k7c6) (by decide +kernel) rfl rfl rfl (by decide +kernel)
set_option maxRecDepth 65536 in
theorem w_c18 : (Jvm.Cond.code ({ cls := "jdk/internal/util/Preconditions", name := "checkIndex", desc := "(IILjava/util/function/BiFunction;)I" } : Jvm.MethodName) jdk_41_method_11_code (3 : Nat) (Option.some Jvm.ClassFile.FieldType.int)).before args0 about1 = true := code_word (m := ⟨14, 1⟩) (meth := k14m1) (c := k14c1) (by decide +kernel) rfl rfl rfl (by decide +kernel)
set_option maxRecDepth 65536 in
theorem w_c19 : (Jvm.Cond.code ({ cls := "java/util/Optional", name := "of", desc := "(Ljava/lang/Object;)Ljava/util/Optional;" } : Jvm.MethodName) jdk_32_method_3_code (1 : Nat) (Option.some (Jvm.ClassFile.FieldType.object "java/util/Optional"))).before args0 about1 = true := code_word (m := ⟨12, 2⟩) (meth := k12m2) (c := k12c2) (by decide +kernel) rfl rfl rfl (by decide +kernel)
set_option maxRecDepth 65536 in
theorem w_c20 : (Jvm.Cond.code ({ cls := "java/util/Objects", name := "requireNonNull", desc := "(Ljava/lang/Object;)Ljava/lang/Object;" } : Jvm.MethodName) jdk_31_method_10_code (1 : Nat) (Option.some (Jvm.ClassFile.FieldType.object "java/lang/Object"))).before args0 about1 = true := code_word (m := ⟨15, 1⟩) (meth := k15m1) (c := k15c1) (by decide +kernel) rfl rfl rfl (by decide +kernel)
set_option maxRecDepth 65536 in
theorem w_c21 : (Jvm.Cond.code ({ cls := "java/util/Optional", name := "<init>", desc := "(Ljava/lang/Object;)V" } : Jvm.MethodName) jdk_32_method_2_code (2 : Nat) (Option.none : Option Jvm.ClassFile.FieldType)).before args0 about1 = true := code_word (m := ⟨12, 1⟩) (meth := k12m1) (c := k12c1) (by decide +kernel) rfl rfl rfl (by decide +kernel)
def codes1 : List Jvm.Cond := [Jvm.Cond.code x code maxLocals ret, Jvm.Cond.code ({ cls := "com/example/dragoman/dragoman/core/LanguageForCodePinLaw", name := "pick", desc := "(I)C" } : Jvm.MethodName) method_2_code (2 : Nat) (Option.some Jvm.ClassFile.FieldType.char), Jvm.Cond.code ({ cls := "java/lang/String", name := "<init>", desc := "([C)V" } : Jvm.MethodName) jdk_42_method_3_code (2 : Nat) (Option.none : Option Jvm.ClassFile.FieldType), Jvm.Cond.code ({ cls := "java/lang/String", name := "<init>", desc := "([CIILjava/lang/Void;)V" } : Jvm.MethodName) jdk_42_method_149_code (6 : Nat) (Option.none : Option Jvm.ClassFile.FieldType), Jvm.Cond.code ({ cls := "java/lang/Object", name := "<init>", desc := "()V" } : Jvm.MethodName) object_method_1_code (1 : Nat) (Option.none : Option Jvm.ClassFile.FieldType), Jvm.Cond.code ({ cls := "com/example/dragoman/dragoman/core/Language", name := "forCode", desc := "(Ljava/lang/String;)Ljava/util/Optional;" } : Jvm.MethodName) prog_9_method_6_code (5 : Nat) (Option.some (Jvm.ClassFile.FieldType.object "java/util/Optional")), Jvm.Cond.code ({ cls := "com/example/dragoman/dragoman/core/Language", name := "values", desc := "()[Lcom/example/dragoman/dragoman/core/Language;" } : Jvm.MethodName) prog_9_method_1_code (0 : Nat) (Option.some (Jvm.ClassFile.FieldType.array (Jvm.ClassFile.FieldType.object "com/example/dragoman/dragoman/core/Language"))), Jvm.Cond.code ({ cls := "java/lang/String", name := "equals", desc := "(Ljava/lang/Object;)Z" } : Jvm.MethodName) jdk_42_method_66_code (3 : Nat) (Option.some Jvm.ClassFile.FieldType.boolean), Jvm.Cond.code ({ cls := "java/lang/StringLatin1", name := "equals", desc := "([B[B)Z" } : Jvm.MethodName) jdk_43_method_13_code (3 : Nat) (Option.some Jvm.ClassFile.FieldType.boolean), Jvm.Cond.code ({ cls := "java/util/Optional", name := "empty", desc := "()Ljava/util/Optional;" } : Jvm.MethodName) jdk_32_method_1_code (1 : Nat) (Option.some (Jvm.ClassFile.FieldType.object "java/util/Optional")), Jvm.Cond.code ({ cls := "java/util/Optional", name := "orElse", desc := "(Ljava/lang/Object;)Ljava/lang/Object;" } : Jvm.MethodName) jdk_32_method_15_code (2 : Nat) (Option.some (Jvm.ClassFile.FieldType.object "java/lang/Object")), Jvm.Cond.code ({ cls := "java/lang/StringUTF16", name := "compress", desc := "([CII)[B" } : Jvm.MethodName) jdk_52_method_16_code (6 : Nat) (Option.some (Jvm.ClassFile.FieldType.array Jvm.ClassFile.FieldType.byte)), Jvm.Cond.code ({ cls := "java/lang/StringUTF16", name := "compress", desc := "([CI[BII)I" } : Jvm.MethodName) jdk_52_method_21_code (7 : Nat) (Option.some Jvm.ClassFile.FieldType.int), Jvm.Cond.code ({ cls := "java/lang/StringUTF16", name := "coderFromArrayLen", desc := "([BI)B" } : Jvm.MethodName) jdk_52_method_15_code (2 : Nat) (Option.some Jvm.ClassFile.FieldType.byte), Jvm.Cond.code ({ cls := "java/lang/String", name := "charAt", desc := "(I)C" } : Jvm.MethodName) jdk_42_method_56_code (2 : Nat) (Option.some Jvm.ClassFile.FieldType.char), Jvm.Cond.code ({ cls := "java/lang/String", name := "isLatin1", desc := "()Z" } : Jvm.MethodName) jdk_42_method_154_code (1 : Nat) (Option.some Jvm.ClassFile.FieldType.boolean), Jvm.Cond.code ({ cls := "java/lang/StringLatin1", name := "charAt", desc := "([BI)C" } : Jvm.MethodName) jdk_43_method_2_code (2 : Nat) (Option.some Jvm.ClassFile.FieldType.char), Jvm.Cond.code ({ cls := "java/lang/String", name := "checkIndex", desc := "(II)V" } : Jvm.MethodName) jdk_42_method_155_code (2 : Nat) (Option.none : Option Jvm.ClassFile.FieldType), Jvm.Cond.code ({ cls := "jdk/internal/util/Preconditions", name := "checkIndex", desc := "(IILjava/util/function/BiFunction;)I" } : Jvm.MethodName) jdk_41_method_11_code (3 : Nat) (Option.some Jvm.ClassFile.FieldType.int), Jvm.Cond.code ({ cls := "java/util/Optional", name := "of", desc := "(Ljava/lang/Object;)Ljava/util/Optional;" } : Jvm.MethodName) jdk_32_method_3_code (1 : Nat) (Option.some (Jvm.ClassFile.FieldType.object "java/util/Optional")), Jvm.Cond.code ({ cls := "java/util/Objects", name := "requireNonNull", desc := "(Ljava/lang/Object;)Ljava/lang/Object;" } : Jvm.MethodName) jdk_31_method_10_code (1 : Nat) (Option.some (Jvm.ClassFile.FieldType.object "java/lang/Object")), Jvm.Cond.code ({ cls := "java/util/Optional", name := "<init>", desc := "(Ljava/lang/Object;)V" } : Jvm.MethodName) jdk_32_method_2_code (2 : Nat) (Option.none : Option Jvm.ClassFile.FieldType)]
set_option maxRecDepth 65536 in
theorem codes_eq : words1.filter isCode = codes1 := rfl
theorem w_codes : ∀ c ∈ words1.filter isCode, c.before args0 about1 = true := by
  rw [codes_eq]
  intro c hc
  simp only [codes1, List.mem_cons, List.not_mem_nil, or_false] at hc
  rcases hc with rfl | rfl | rfl | rfl | rfl | rfl | rfl | rfl | rfl | rfl | rfl | rfl | rfl | rfl | rfl | rfl | rfl | rfl | rfl | rfl | rfl | rfl
  · exact w_c0
  · exact w_c1
  · exact w_c2
  · exact w_c3
  · exact w_c4
  · exact w_c5
  · exact w_c6
  · exact w_c7
  · exact w_c8
  · exact w_c9
  · exact w_c10
  · exact w_c11
  · exact w_c12
  · exact w_c13
  · exact w_c14
  · exact w_c15
  · exact w_c16
  · exact w_c17
  · exact w_c18
  · exact w_c19
  · exact w_c20
  · exact w_c21
set_option maxRecDepth 65536 in
theorem w_t1 : (words1.take 24).all (fun c => isCode c || c.before args0 about1) = true := by decide +kernel
set_option maxRecDepth 65536 in
theorem w_t2 : ((words1.drop 24).take 24).all (fun c => isCode c || c.before args0 about1) = true := by decide +kernel
set_option maxRecDepth 65536 in
theorem w_t3 : (((words1.drop 24).drop 24).take 24).all (fun c => isCode c || c.before args0 about1) = true := by decide +kernel
set_option maxRecDepth 65536 in
theorem w_t4 : ((((words1.drop 24).drop 24).drop 24).take 24).all (fun c => isCode c || c.before args0 about1) = true := by decide +kernel
set_option maxRecDepth 65536 in
theorem w_t5 : (((((words1.drop 24).drop 24).drop 24).drop 24).take 24).all (fun c => isCode c || c.before args0 about1) = true := by decide +kernel
set_option maxRecDepth 65536 in
theorem w_t6 : (((((words1.drop 24).drop 24).drop 24).drop 24).drop 24).all (fun c => isCode c || c.before args0 about1) = true := by decide +kernel
theorem w_tables : (allAtoms (Jvm.Cond.code x code maxLocals ret :: tables_1)).before args0 about1 = true := by
  rw [allAtoms_all]
  show words1.all (fun c => c.before args0 about1) = true
  refine all_split ?_ w_codes
  rw [← List.take_append_drop 24 words1, List.all_append, w_t1, ← List.take_append_drop 24 (words1.drop 24), List.all_append, w_t2, ← List.take_append_drop 24 ((words1.drop 24).drop 24), List.all_append, w_t3, ← List.take_append_drop 24 (((words1.drop 24).drop 24).drop 24), List.all_append, w_t4, ← List.take_append_drop 24 ((((words1.drop 24).drop 24).drop 24).drop 24), List.all_append, w_t5, w_t6]
  rfl
set_option maxRecDepth 65536 in
theorem w_rest : rest_1_c.before args0 about1 = true := by decide +kernel
set_option maxRecDepth 65536 in
theorem w_case : (Jvm.Cond.and given_1 narrow_1).before args0 about1 = true := by decide +kernel
set_option maxRecDepth 65536 in
theorem w_consts : constsHeld consts_1 about1 := Jvm.Lit.constsHeldB_iff.mp (by decide +kernel)
theorem w_applies : (headSpec (Jvm.Cond.code x code maxLocals ret :: tables_1) room_1).applies x e0.platform about1 = true :=
  (Spec.applies_iff w_frames).mpr ⟨w_running, w_runnable, w_alone, w_named, w_hears, w_ripe, w_room, w_tables⟩
theorem atStart : AtStart classFile x code maxLocals ret World_1 tables_1 room_1 Calls_1 rest_1 Pre_1 launch0 p0 e0 about1 theMethod args0 below0 :=
  ⟨lists_1, trivial, launch0.admits_env _ _ _, launch0.least_env, fairChoices_fair.cas, fairChoices_fair.clock, w_frames, w_args, w_heap, w_applies, ⟨w_consts, trivial⟩, w_rest, w_case⟩
end start1
theorem witness_1 : WitnessClaimed_1 := ⟨start1.p0, start1.e0, start1.about1, start1.theMethod, start1.args0, start1.below0, start1.atStart⟩
end Jvm.Pilot.@@N@@
