import JvmDerived
import JvmDerived.Pilot.@@N@@Statement
import JvmDerived.Pilot.@@N@@Code
set_option linter.unusedVariables false
set_option linter.unusedSimpArgs false
namespace Jvm.RoadKit
open Sem ClassFile Op Lib Jvm.Stand Jvm.Free Jvm.LawKit
section New
variable {p : Program} {l : Launch} {e : Env} {R : Room} {s : State} {m : MethodId} {args : Array Value} {below : List Frame} {meth : Method} {c : Code} {T : State} {locs : List Loc} {cells slots : Nat}
theorem retI (X : Stand p l e R s m args below meth c T locs cells slots) (hx : p.tables.exec = Jvm.exec) {pc : Nat} {Ls : Array Slot} {z : Int32} {rest : List Value} (hret : meth.sig.returnType = some .int) (hd : decode c.code pc = .ok (.ireturn, 1)) {fs : List Frame}
    (hl : ∀ (f : JFrame) (acts : List Action), f.method = m → f.locked = none → f.entered = [] → (doReturn e (T.setTop f) acts (some (.int z))).1 = T.setFrames fs) : Steps p.tables e below (T.setTop (mkF m pc Ls (.int z :: rest))) (T.setFrames fs) := by
  have hm' : T.vm.method? m = some meth := X.method'
  have hn : narrow .int (.int z) = .int z := rfl
  show Steps p.tables e below (T.setTop { method := m, pc := pc, locals := Ls, stack := _ :: rest, locked := none }) _
  jvm_step X.here [X.here.top, hx, hd, hm', hret, hn]
  first | (intro acts; rw [hl _ acts rfl rfl rfl]) | rw [hl _ _ rfl rfl rfl]
  exact Steps.refl _
end New
end Jvm.RoadKit
@@BLOCK:TracedD.lean.txt@@
/- laws to paste: Road.backV, Road.lenW, Road.chN, Road.codOf (cut by pick.py; bodies as the Statement names them) -/
namespace Jvm.Pilot.@@N@@
namespace StrChars
open Jvm Sem ClassFile Op Lib Jvm.Stand Jvm.Free.XT Jvm.Free.ALB Jvm.Free.JM Jvm.Free
open Jvm.Lib.Cold (StaticIs)
/-- a char array whose places are chars -/
def Ch (a : Addr) (A : Cell) (U : State) : Prop := Arr .char a A U ∧ Typed .char A
theorem Ch.mv {a : Addr} {A : Cell} {U U' : State} (h : Ch a A U) (hal : U.vm.Alike U'.vm) (hh : U'.heap = U.heap) : Ch a A U' := ⟨h.1.mv hal hh, h.2⟩
theorem Ch.keep {a : Addr} {A : Cell} {U U' : State} (h : Ch a A U) (hal : U.vm.Alike U'.vm) (hk : U'.heap[a]? = some A) : Ch a A U' := ⟨h.1.keep hal hk, h.2⟩
/-- what place i of a char[]'s cell holds -/
def cv (A : Cell) (i : Nat) : Int32 := match A.slots[i]? with | some (.int x) => x | _ => 0
theorem Ch.get {a : Addr} {A : Cell} {U : State} (h : Ch a A U) {i : Nat} (hi : i < A.slots.size) : A.slots[i]? = some (.int (cv A i)) := by
  have e := Array.getElem?_eq_getElem hi
  have f := h.2 i _ e
  unfold cv; rw [e]
  generalize A.slots[i] = v at f
  cases v <;> simp [fits] at f ⊢
/-- the byte that i2b leaves of a char -/
def lo8 (x : Int32) : Int32 := x.toInt8.toInt32
theorem fits_lo8 (y : Int32) : fits .byte (.int (lo8 y)) = true := by
  have h1 := y.toInt8.le_toInt
  have h2 := y.toInt8.toInt_lt
  simp only [lo8, fits, Bool.and_eq_true, decide_eq_true_eq, Int32.le_iff_toInt_le, Int8.toInt_toInt32, show (-128 : Int32).toInt = -128 from by decide, show (127 : Int32).toInt = 127 from by decide]
  omega
/-- A' is A but that each place j of lo .. hi - 1 holds f j -/
def Laid (A A' : Cell) (lo hi : Nat) (f : Nat → Value) : Prop := A'.cls = A.cls ∧ A'.vm = A.vm ∧ A'.slots.size = A.slots.size ∧ ∀ i, A'.slots[i]? = if lo ≤ i ∧ i < hi then some (f i) else A.slots[i]?
theorem Laid.zero (A : Cell) (lo : Nat) (f : Nat → Value) : Laid A A lo (lo + 0) f := ⟨rfl, rfl, rfl, fun i => by rw [if_neg (by omega)]⟩
theorem Laid.step {A Ak : Cell} {lo k : Nat} {f : Nat → Value} {v : Value} (h : Laid A Ak lo k f) (hlo : lo ≤ k) (hk : k < Ak.slots.size) (hv : v = f k) : Laid A (Ak.setSlot k v) lo (k + 1) f := by
  refine ⟨h.1, h.2.1, by simpa [Cell.setSlot] using h.2.2.1, fun i => ?_⟩
  by_cases e : k = i
  · subst e; rw [Cell.slots_setSlot_self v hk, if_pos (by omega), hv]
  · rw [Cell.slots_setSlot_ne v e, h.2.2.2 i]
    by_cases q : lo ≤ i ∧ i < k
    · rw [if_pos q, if_pos (by omega)]
    · rw [if_neg q, if_neg (by omega)]
def U16 : String := "java/lang/StringUTF16"
namespace Cmp5
def yN : MethodName := ⟨"java/lang/StringUTF16", "compress", "([CI[BII)I"⟩
abbrev yB : ByteArray := jdk_52_method_21_code
theorem d0 : decode yB 0 = .ok (.iconst 0, 1) := by decide +kernel
theorem d1 : decode yB 1 = .ok (.istore 5, 2) := by decide +kernel
theorem d3 : decode yB 3 = .ok (.iload 5, 2) := by decide +kernel
theorem d5 : decode yB 5 = .ok (.iload 4, 2) := by decide +kernel
theorem d7 : decode yB 7 = .ok (.if_icmp (.ge) 37, 3) := by decide +kernel
theorem d10 : decode yB 10 = .ok (.aload_n 0, 1) := by decide +kernel
theorem d11 : decode yB 11 = .ok (.iload_n 1, 1) := by decide +kernel
theorem d12 : decode yB 12 = .ok (.caload, 1) := by decide +kernel
theorem d13 : decode yB 13 = .ok (.istore 6, 2) := by decide +kernel
theorem d15 : decode yB 15 = .ok (.iload 6, 2) := by decide +kernel
theorem d17 : decode yB 17 = .ok (.sipush 255, 3) := by decide +kernel
theorem d20 : decode yB 20 = .ok (.if_icmp (.le) 6, 3) := by decide +kernel
theorem d26 : decode yB 26 = .ok (.aload_n 2, 1) := by decide +kernel
theorem d27 : decode yB 27 = .ok (.iload_n 3, 1) := by decide +kernel
theorem d28 : decode yB 28 = .ok (.iload 6, 2) := by decide +kernel
theorem d30 : decode yB 30 = .ok (.i2b, 1) := by decide +kernel
theorem d31 : decode yB 31 = .ok (.bastore, 1) := by decide +kernel
theorem d32 : decode yB 32 = .ok (.iinc 1 1, 3) := by decide +kernel
theorem d35 : decode yB 35 = .ok (.iinc 3 1, 3) := by decide +kernel
theorem d38 : decode yB 38 = .ok (.iinc 5 1, 3) := by decide +kernel
theorem d41 : decode yB 41 = .ok (.goto (-38), 3) := by decide +kernel
theorem d44 : decode yB 44 = .ok (.iload 4, 2) := by decide +kernel
theorem d46 : decode yB 46 = .ok (.ireturn, 1) := by decide +kernel
def site : List Cond := []
def tab : Cond := tabOf yN yB 7 (some .int) site
def P (b : Addr) (A : Cell) (d : Addr) (B : Cell) (o q len : Nat) (args : Array Value) (s : State) : Prop := args = #[.ref b, .int (Int32.ofNat o), .ref d, .int (Int32.ofNat q), .int (Int32.ofNat len)] ∧ Ch b A s ∧ Arr .byte d B s ∧ b ≠ d ∧ o + len ≤ A.slots.size ∧ q + len ≤ B.slots.size ∧ ∀ i, i < len → ¬ 255 < cv A (o + i)
def E (b : Addr) (A : Cell) (d : Addr) (B : Cell) (o q len : Nat) (r : Option Value) (s u : State) : Prop := r = some (.int (Int32.ofNat len)) ∧ ∃ B', Put d B' s u ∧ Laid B B' q (q + len) (fun j => Value.int (lo8 (cv A (o + (j - q)))))
/-- no char of the range above 255: len; the places written hold each char's low byte -/
theorem law (l : Launch) (b : Addr) (A : Cell) (d : Addr) (B : Cell) (o q len : Nat) : Law l yN 5 5 0 0 yB 7 (some .int) site (P b A d B o q len) (E b A d B o q len) (copyLocs d q len) 0 0 := by
  refine Law.of_walk (plainFor_of_name (by decide +kernel)) (by decide +kernel) (by decide +kernel) (by decide) (fun _ _ h => by rw [h.1]; rfl) (fun _ U U' hal hh h => ⟨h.1, h.2.1.mv hal hh, h.2.2.1.mv hal hh, h.2.2.2⟩) (fun r U U' V V' h1 hal h2 h => ⟨h.1, h.2.elim fun B' q => ⟨B', q.1.mv h1 h2, q.2⟩⟩) ?_
  intro p e s m args below meth c s₁ X0 hexec hbytes hml hret hlk hnm hown hh0 W hP
  obtain ⟨rfl, hA, hB, hne, l1, l2, hp⟩ := hP
  have c1 : Steps p.tables e below (s₁.setTop (entryFrame m #[.ref b, .int (Int32.ofNat o), .ref d, .int (Int32.ofNat q), .int (Int32.ofNat len)] 7)) (s₁.setTop (mkF m 0 #[.val (.ref b), .val (.int (Int32.ofNat o)), .val (.ref d), .val (.int (Int32.ofNat q)), .val (.int (Int32.ofNat len)), .unset, .unset] [])) := entry rfl
  have hA0 := hA.1.mv X0.warmed.alike hh0
  have hB0 := hB.mv X0.warmed.alike hh0
  have a31 := hA.1.2.2.2
  have c2 : Steps p.tables e below (s₁.setTop (entryFrame m #[.ref b, .int (Int32.ofNat o), .ref d, .int (Int32.ofNat q), .int (Int32.ofNat len)] 7)) (s₁.setTop (mkF m 3 #[.val (.ref b), .val (.int (Int32.ofNat o)), .val (.ref d), .val (.int (Int32.ofNat q)), .val (.int (Int32.ofNat len)), .val (.int 0), .unset] [])) := c1.trans (by
    refine iconstV X0.here hexec rfl 0 (hb hbytes d0) (by decide) ?_
    refine XS.istore X0.here hexec rfl (hb hbytes d1) rfl rfl ?_
    exact Steps.refl _)
  have loop : ∀ (r i : Nat), i + r = len → ∀ (z : Slot), (z = .unset ∨ ∃ w, z = .val w ∧ w.category = 1) → ∀ (Tl : State) (Bk : Cell), Stand p l e { frames := 0, locals := 0, cells := 0, slots := 0 } s m #[.ref b, .int (Int32.ofNat o), .ref d, .int (Int32.ofNat q), .int (Int32.ofNat len)] below meth c Tl ([] ++ copyLocs d q i) 0 0 → Put d Bk s₁ Tl → Laid B Bk q (q + i) (fun j => Value.int (lo8 (cv A (o + (j - q))))) →
      Steps p.tables e below (s₁.setTop (entryFrame m #[.ref b, .int (Int32.ofNat o), .ref d, .int (Int32.ofNat q), .int (Int32.ofNat len)] 7)) (Tl.setTop (mkF m 3 #[.val (.ref b), .val (.int (Int32.ofNat (o + i))), .val (.ref d), .val (.int (Int32.ofNat (q + i))), .val (.int (Int32.ofNat len)), .val (.int (Int32.ofNat i)), z] [])) → ∃ (T' : State) (B' : Cell) (z' : Slot), Stand p l e { frames := 0, locals := 0, cells := 0, slots := 0 } s m #[.ref b, .int (Int32.ofNat o), .ref d, .int (Int32.ofNat q), .int (Int32.ofNat len)] below meth c T' ([] ++ copyLocs d q len) 0 0 ∧ Put d B' s₁ T' ∧ Laid B B' q (q + len) (fun j => Value.int (lo8 (cv A (o + (j - q))))) ∧
      Steps p.tables e below (s₁.setTop (entryFrame m #[.ref b, .int (Int32.ofNat o), .ref d, .int (Int32.ofNat q), .int (Int32.ofNat len)] 7)) (T'.setTop (mkF m 3 #[.val (.ref b), .val (.int (Int32.ofNat (o + len))), .val (.ref d), .val (.int (Int32.ofNat (q + len))), .val (.int (Int32.ofNat len)), .val (.int (Int32.ofNat len)), z'] [])) := by
    intro r
    induction r with
    | zero =>
      intro i hi z hz Tl Bk Xl pl fl cl
      have hil : i = len := by omega
      rw [hil] at Xl fl cl
      exact ⟨Tl, Bk, z, Xl, pl, fl, cl⟩
    | succ r ih =>
      intro i hi z hz Tl Bk Xl pl fl cl
      have all := X0.warmed.alike.symm.trans Xl.warmed.alike
      have hAl := hA0.keep all (pl.other hne hA0.1)
      have hBk := hB0.like all pl.1 fl.1 fl.2.1 fl.2.2.1
      have hlt : q + i < Bk.slots.size := by rw [fl.2.2.1]; omega
      have c3 : Steps p.tables e below (s₁.setTop (entryFrame m #[.ref b, .int (Int32.ofNat o), .ref d, .int (Int32.ofNat q), .int (Int32.ofNat len)] 7)) (Tl.setTop (mkF m 12 #[.val (.ref b), .val (.int (Int32.ofNat (o + i))), .val (.ref d), .val (.int (Int32.ofNat (q + i))), .val (.int (Int32.ofNat len)), .val (.int (Int32.ofNat i)), z] [.int (Int32.ofNat (o + i)), .ref b])) := cl.trans (by
        refine XS.iload Xl.here hexec rfl (hb hbytes d3) rfl ?_
        refine XS.iload Xl.here hexec rfl (hb hbytes d5) rfl ?_
        refine XS.icmpNo Xl.here hexec rfl (hb hbytes d7) rfl (ii_ge_f (lt32 (by omega) (by omega))) ?_
        refine XS.aloadN Xl.here hexec rfl (hb hbytes d10) rfl rfl ?_
        refine XS.iloadN Xl.here hexec rfl (hb hbytes d11) rfl ?_
        exact Steps.refl _)
      have c4 : Steps p.tables e below (s₁.setTop (entryFrame m #[.ref b, .int (Int32.ofNat o), .ref d, .int (Int32.ofNat q), .int (Int32.ofNat len)] 7)) (Tl.setTop (mkF m 13 #[.val (.ref b), .val (.int (Int32.ofNat (o + i))), .val (.ref d), .val (.int (Int32.ofNat (q + i))), .val (.int (Int32.ofNat len)), .val (.int (Int32.ofNat i)), z] [.int (cv A (o + i))])) := c3.trans (by
        refine Xl.aget hexec hAl rfl (hA.get (i := o + i) (by omega)) rfl rfl (hb hbytes d12) ?_
        exact Steps.refl _)
      have c5 : Steps p.tables e below (s₁.setTop (entryFrame m #[.ref b, .int (Int32.ofNat o), .ref d, .int (Int32.ofNat q), .int (Int32.ofNat len)] 7)) (Tl.setTop (mkF m 15 #[.val (.ref b), .val (.int (Int32.ofNat (o + i))), .val (.ref d), .val (.int (Int32.ofNat (q + i))), .val (.int (Int32.ofNat len)), .val (.int (Int32.ofNat i)), .val (.int (cv A (o + i)))] [])) := c4.trans (by
        refine XS.istoreS Xl.here hexec rfl (hb hbytes d13) rfl rfl hz ?_
        exact Steps.refl _)
      have c6 : Steps p.tables e below (s₁.setTop (entryFrame m #[.ref b, .int (Int32.ofNat o), .ref d, .int (Int32.ofNat q), .int (Int32.ofNat len)] 7)) (Tl.setTop (mkF m 31 #[.val (.ref b), .val (.int (Int32.ofNat (o + i))), .val (.ref d), .val (.int (Int32.ofNat (q + i))), .val (.int (Int32.ofNat len)), .val (.int (Int32.ofNat i)), .val (.int (cv A (o + i)))] [.int (lo8 (cv A (o + i))), .int (Int32.ofNat (q + i)), .ref d])) := c5.trans (by
        refine XS.iload Xl.here hexec rfl (hb hbytes d15) rfl ?_
        refine sipushV Xl.here hexec rfl 255 (hb hbytes d17) (by decide) ?_
        refine XS.icmpYes Xl.here hexec rfl (pc0 := 20) rfl (hb hbytes d20) rfl (ii_le_t (hp i (by omega))) (by decide) rfl ?_
        refine XS.aloadN Xl.here hexec rfl (hb hbytes d26) rfl rfl ?_
        refine XS.iloadN Xl.here hexec rfl (hb hbytes d27) rfl ?_
        refine XS.iload Xl.here hexec rfl (hb hbytes d28) rfl ?_
        refine i2b Xl.here hexec rfl (hb hbytes d30) rfl ?_
        exact Steps.refl _)
      obtain ⟨T7, X7, p7, st7⟩ := Xl.aput hexec hBk rfl hlt rfl (fits_lo8 (cv A (o + i))) (g := (mkF m 31 #[.val (.ref b), .val (.int (Int32.ofNat (o + i))), .val (.ref d), .val (.int (Int32.ofNat (q + i))), .val (.int (Int32.ofNat len)), .val (.int (Int32.ofNat i)), .val (.int (cv A (o + i)))] [.int (lo8 (cv A (o + i))), .int (Int32.ofNat (q + i)), .ref d])) rfl (rest := []) rfl (hb hbytes d31)
      have c8 : Steps p.tables e below (s₁.setTop (entryFrame m #[.ref b, .int (Int32.ofNat o), .ref d, .int (Int32.ofNat q), .int (Int32.ofNat len)] 7)) (T7.setTop (mkF m 32 #[.val (.ref b), .val (.int (Int32.ofNat (o + i))), .val (.ref d), .val (.int (Int32.ofNat (q + i))), .val (.int (Int32.ofNat len)), .val (.int (Int32.ofNat i)), .val (.int (cv A (o + i)))] [])) := c6.trans (st7 _ (Steps.refl _))
      have c9 : Steps p.tables e below (s₁.setTop (entryFrame m #[.ref b, .int (Int32.ofNat o), .ref d, .int (Int32.ofNat q), .int (Int32.ofNat len)] 7)) (T7.setTop (mkF m 3 #[.val (.ref b), .val (.int (Int32.ofNat (o + i) + 1)), .val (.ref d), .val (.int (Int32.ofNat (q + i) + 1)), .val (.int (Int32.ofNat len)), .val (.int (Int32.ofNat i + 1)), .val (.int (cv A (o + i)))] [])) := c8.trans (by
        refine iincV X7.here hexec rfl 1 (hb hbytes d32) (by decide) rfl rfl ?_
        refine iincV X7.here hexec rfl 1 (hb hbytes d35) (by decide) rfl rfl ?_
        refine iincV X7.here hexec rfl 1 (hb hbytes d38) (by decide) rfl rfl ?_
        refine XS.goto X7.here hexec rfl (pc0 := 41) rfl (hb hbytes d41) (by decide) rfl ?_
        exact Steps.refl _)
      have c10 : Steps p.tables e below (s₁.setTop (entryFrame m #[.ref b, .int (Int32.ofNat o), .ref d, .int (Int32.ofNat q), .int (Int32.ofNat len)] 7)) (T7.setTop (mkF m 3 #[.val (.ref b), .val (.int (Int32.ofNat (o + (i + 1)))), .val (.ref d), .val (.int (Int32.ofNat (q + (i + 1)))), .val (.int (Int32.ofNat len)), .val (.int (Int32.ofNat (i + 1))), .val (.int (cv A (o + i)))] [])) := by
        have := c9
        rw [succ32, succ32, succ32] at this
        exact this
      exact ih (i + 1) (by omega) _ (Or.inr ⟨_, rfl, rfl⟩) T7 _ (by rw [copyLocs_step, ← List.append_assoc]; exact X7) (pl.trans p7) (fl.step (by omega) hlt (by simp)) c10
  obtain ⟨T9, B9, z9, X9, p9, f9, g9⟩ := loop len 0 (by omega) .unset (Or.inl rfl) s₁ B (by simpa [copyLocs] using X0) ⟨hB0.1, fun _ _ => rfl, rfl⟩ (Laid.zero _ _ _) c2
  have c11 : Steps p.tables e below (s₁.setTop (entryFrame m #[.ref b, .int (Int32.ofNat o), .ref d, .int (Int32.ofNat q), .int (Int32.ofNat len)] 7)) (T9.setTop (mkF m 46 #[.val (.ref b), .val (.int (Int32.ofNat (o + len))), .val (.ref d), .val (.int (Int32.ofNat (q + len))), .val (.int (Int32.ofNat len)), .val (.int (Int32.ofNat len)), z9] [.int (Int32.ofNat len)])) := g9.trans (by
    refine XS.iload X9.here hexec rfl (hb hbytes d3) rfl ?_
    refine XS.iload X9.here hexec rfl (hb hbytes d5) rfl ?_
    refine XS.icmpYes X9.here hexec rfl (pc0 := 7) rfl (hb hbytes d7) rfl (ii_ge_t (nlt32 (by omega) (Nat.le_refl _))) (by decide) rfl ?_
    refine XS.iload X9.here hexec rfl (hb hbytes d44) rfl ?_
    exact Steps.refl _)
  exact ⟨T9, some (.int (Int32.ofNat len)), _, _, _, X9, by simp, rfl, rfl, (fun h => by cases h), ⟨rfl, B9, p9.from hh0, f9⟩, fun fs hl => c11.trans (X9.ireturnOut hexec hret rfl (Or.inl rfl) (hb hbytes d46) hl)⟩
end Cmp5
namespace Cmp3
def yN : MethodName := ⟨"java/lang/StringUTF16", "compress", "([CII)[B"⟩
abbrev yB : ByteArray := jdk_52_method_16_code
theorem d0 : decode yB 0 = .ok (.iload_n 2, 1) := by decide +kernel
theorem d1 : decode yB 1 = .ok (.newarray .byte, 2) := by decide +kernel
theorem d3 : decode yB 3 = .ok (.astore_n 3, 1) := by decide +kernel
theorem d4 : decode yB 4 = .ok (.aload_n 0, 1) := by decide +kernel
theorem d5 : decode yB 5 = .ok (.iload_n 1, 1) := by decide +kernel
theorem d6 : decode yB 6 = .ok (.aload_n 3, 1) := by decide +kernel
theorem d7 : decode yB 7 = .ok (.iconst 0, 1) := by decide +kernel
theorem d8 : decode yB 8 = .ok (.iload_n 2, 1) := by decide +kernel
theorem d9 : decode yB 9 = .ok (.invokestatic 115, 3) := by decide +kernel
theorem d12 : decode yB 12 = .ok (.istore 4, 2) := by decide +kernel
theorem d14 : decode yB 14 = .ok (.iload 4, 2) := by decide +kernel
theorem d16 : decode yB 16 = .ok (.iload_n 2, 1) := by decide +kernel
theorem d17 : decode yB 17 = .ok (.if_icmp (.eq) 40, 3) := by decide +kernel
theorem d57 : decode yB 57 = .ok (.aload_n 3, 1) := by decide +kernel
theorem d58 : decode yB 58 = .ok (.areturn, 1) := by decide +kernel
def site : List Cond := [.arrayClass .byte, Cmp5.tab] ++ staticW U16 115 Cmp5.yN
def tab : Cond := tabOf yN yB 6 (some (.array .byte)) site
def P (b : Addr) (A : Cell) (o len : Nat) (args : Array Value) (s : State) : Prop := args = #[.ref b, .int (Int32.ofNat o), .int (Int32.ofNat len)] ∧ Ch b A s ∧ o + len ≤ A.slots.size ∧ len ≤ 536870912 ∧ ∀ i, i < len → ¬ 255 < cv A (o + i)
def E (b : Addr) (A : Cell) (o len : Nat) (r : Option Value) (s u : State) : Prop := NewArr .byte "[B" len (fun j => .int (lo8 (cv A (o + j)))) r s u ∧ u.heap.size = s.heap.size + 1
/-- no char of the range above 255: a new byte[] of their low bytes -/
theorem law (l : Launch) (b : Addr) (A : Cell) (o len : Nat) : Law l yN 3 3 1 18 yB 6 (some (.array .byte)) site (P b A o len) (E b A o len) [] 1 len := by
  refine Law.of_walk (plainFor_of_name (by decide +kernel)) (by decide +kernel) (by decide +kernel) (by decide) (fun _ _ h => by rw [h.1]; rfl) (fun _ U U' hal hh h => ⟨h.1, h.2.1.mv hal hh, h.2.2⟩) (fun r U U' V V' h1 hal h2 h => ⟨NewArr.mv r U U' V V' h1 hal h2 h.1, by rw [h1, h2]; exact h.2⟩) ?_
  intro p e s m args below meth c s₁ X0 hexec hbytes hml hret hlk hnm hown hh0 W hP
  obtain ⟨rfl, hA, l1, l2, hp⟩ := hP
  have a31 := hA.1.2.2.2
  have c1 : Steps p.tables e below (s₁.setTop (entryFrame m #[.ref b, .int (Int32.ofNat o), .int (Int32.ofNat len)] 6)) (s₁.setTop (mkF m 0 #[.val (.ref b), .val (.int (Int32.ofNat o)), .val (.int (Int32.ofNat len)), .unset, .unset, .unset] [])) := entry rfl
  have c2 : Steps p.tables e below (s₁.setTop (entryFrame m #[.ref b, .int (Int32.ofNat o), .int (Int32.ofNat len)] 6)) (s₁.setTop (mkF m 1 #[.val (.ref b), .val (.int (Int32.ofNat o)), .val (.int (Int32.ofNat len)), .unset, .unset, .unset] [.int (Int32.ofNat len)])) := c1.trans (by
    refine XS.iloadN X0.here hexec rfl (hb hbytes d0) rfl ?_
    exact Steps.refl _)
  obtain ⟨T3, B3, X3, ba3, bs3, bv3, bh3, bf3, st3⟩ := X0.anew hexec (atype := .byte) (wk W (.arrayClass .byte)) rfl (by show len * 1 ≤ _; omega) (by omega) (g := (mkF m 1 #[.val (.ref b), .val (.int (Int32.ofNat o)), .val (.int (Int32.ofNat len)), .unset, .unset, .unset] [.int (Int32.ofNat len)])) rfl (hb hbytes d1) (rest := []) rfl (Nat.le_refl _) (by show 0 + len ≤ len; omega)
  rw [hh0] at ba3 st3
  have kp3 : XT.Kept s T3 := (XT.Kept.of_eq hh0).push bh3
  have hA3 := hA.keep X3.warmed.alike (kp3 _ _ hA.1.1)
  have hne : b ≠ s.heap.size := hA.1.ne
  have c4 : Steps p.tables e below (s₁.setTop (entryFrame m #[.ref b, .int (Int32.ofNat o), .int (Int32.ofNat len)] 6)) (T3.setTop (mkF m 3 #[.val (.ref b), .val (.int (Int32.ofNat o)), .val (.int (Int32.ofNat len)), .unset, .unset, .unset] [.ref s.heap.size])) := c2.trans (st3 _ (Steps.refl _))
  have c5 : Steps p.tables e below (s₁.setTop (entryFrame m #[.ref b, .int (Int32.ofNat o), .int (Int32.ofNat len)] 6)) (T3.setTop (mkF m 9 #[.val (.ref b), .val (.int (Int32.ofNat o)), .val (.int (Int32.ofNat len)), .val (.ref s.heap.size), .unset, .unset] [.int (Int32.ofNat len), .int 0, .ref s.heap.size, .int (Int32.ofNat o), .ref b])) := c4.trans (by
    refine XS.astoreN X3.here hexec rfl (hb hbytes d3) rfl rfl rfl ?_
    refine XS.aloadN X3.here hexec rfl (hb hbytes d4) rfl rfl ?_
    refine XS.iloadN X3.here hexec rfl (hb hbytes d5) rfl ?_
    refine XS.aloadN X3.here hexec rfl (hb hbytes d6) rfl rfl ?_
    refine iconstV X3.here hexec rfl 0 (hb hbytes d7) (by decide) ?_
    refine XS.iloadN X3.here hexec rfl (hb hbytes d8) rfl ?_
    exact Steps.refl _)
  obtain ⟨v6, T6, X6, E6, g6⟩ := X3.callS hexec (Cmp5.law l b A s.heap.size B3 o 0 len) hown (wks W (staticW U16 115 Cmp5.yN)) (wk W Cmp5.tab) (W := 0) (Nat.le_of_ble_eq_true rfl) (Nat.le_of_ble_eq_true rfl) (Nat.le_refl _) (by show 0 + len + 0 ≤ len; omega) (g := (mkF m 9 #[.val (.ref b), .val (.int (Int32.ofNat o)), .val (.int (Int32.ofNat len)), .val (.ref s.heap.size), .unset, .unset] [.int (Int32.ofNat len), .int (Int32.ofNat 0), .ref s.heap.size, .int (Int32.ofNat o), .ref b])) rfl (by rw [hml]; rfl) c5 (argsL := [.ref b, .int (Int32.ofNat o), .ref s.heap.size, .int (Int32.ofNat 0), .int (Int32.ofNat len)]) (rest := []) rfl rfl (by show 2 * 0 + 0 ≤ _; decide) (hb hbytes d9) (⟨rfl, hA3, ba3, hne, l1, by rw [bs3]; simp, hp⟩)
  obtain ⟨rfl, B6, p6, f6⟩ := E6
  have c7 : Steps p.tables e below (s₁.setTop (entryFrame m #[.ref b, .int (Int32.ofNat o), .int (Int32.ofNat len)] 6)) (T6.setTop (mkF m 12 #[.val (.ref b), .val (.int (Int32.ofNat o)), .val (.int (Int32.ofNat len)), .val (.ref s.heap.size), .unset, .unset] [.int (Int32.ofNat len)])) := g6
  have c8 : Steps p.tables e below (s₁.setTop (entryFrame m #[.ref b, .int (Int32.ofNat o), .int (Int32.ofNat len)] 6)) (T6.setTop (mkF m 58 #[.val (.ref b), .val (.int (Int32.ofNat o)), .val (.int (Int32.ofNat len)), .val (.ref s.heap.size), .val (.int (Int32.ofNat len)), .unset] [.ref s.heap.size])) := c7.trans (by
    refine XS.istore X6.here hexec rfl (hb hbytes d12) rfl rfl ?_
    refine XS.iload X6.here hexec rfl (hb hbytes d14) rfl ?_
    refine XS.iloadN X6.here hexec rfl (hb hbytes d16) rfl ?_
    refine XS.icmpYes X6.here hexec rfl (pc0 := 17) rfl (hb hbytes d17) rfl (ii_eq_t rfl) (by decide) rfl ?_
    refine XS.aloadN X6.here hexec rfl (hb hbytes d57) rfl rfl ?_
    exact Steps.refl _)
  have X8 := X6.wide (L' := []) (cells' := 1) (slots' := len) (fun x hx hlt => by
    simp only [List.nil_append, copyLocs, List.mem_map, List.mem_range] at hx
    obtain ⟨i, -, rfl⟩ := hx
    exact absurd hlt (Nat.lt_irrefl _)) (Nat.le_refl _) (by omega)
  exact ⟨T6, some (.ref s.heap.size), _, _, _, X8, rfl, rfl, rfl, (fun h => by cases h), ⟨⟨rfl, B6, ba3.like (X3.warmed.alike.symm.trans X6.warmed.alike) p6.1 f6.1 f6.2.1 f6.2.2.1, f6.2.1.trans bv3, by rw [X6.warmed.alike.findClass, f6.1]; exact bf3, by rw [f6.2.2.1, bs3]; simp, fun j hj => by rw [f6.2.2.2 j, if_pos (by omega)]; rfl, kp3.put p6 (Nat.le_refl _)⟩, by rw [p6.2.2, bh3, hh0]; simp⟩, fun fs hl => c8.trans (X8.areturnOut hexec rfl hret rfl (hb hbytes d58) hl)⟩
end Cmp3
namespace CodL
def yN : MethodName := ⟨"java/lang/StringUTF16", "coderFromArrayLen", "([BI)B"⟩
abbrev yB : ByteArray := jdk_52_method_15_code
theorem d0 : decode yB 0 = .ok (.iload_n 1, 1) := by decide +kernel
theorem d1 : decode yB 1 = .ok (.aload_n 0, 1) := by decide +kernel
theorem d2 : decode yB 2 = .ok (.arraylength, 1) := by decide +kernel
theorem d3 : decode yB 3 = .ok (.isub, 1) := by decide +kernel
theorem d4 : decode yB 4 = .ok (.bipush 31, 2) := by decide +kernel
theorem d6 : decode yB 6 = .ok (.iushr, 1) := by decide +kernel
theorem d7 : decode yB 7 = .ok (.i2b, 1) := by decide +kernel
theorem d8 : decode yB 8 = .ok (.ireturn, 1) := by decide +kernel
def site : List Cond := []
def tab : Cond := tabOf yN yB 2 (some .byte) site
def P (d : Addr) (B : Cell) (args : Array Value) (s : State) : Prop := args = #[.ref d, .int (Int32.ofNat B.slots.size)] ∧ Arr .byte d B s
def E (r : Option Value) (s u : State) : Prop := XT.PureE (some (.int 0)) r s u
/-- an array as long as the number of chars: LATIN1 -/
theorem law (l : Launch) (d : Addr) (B : Cell) : Law l yN 2 2 0 0 yB 2 (some .byte) site (P d B) E [] 0 0 := by
  refine Law.of_walk (plainFor_of_name (by decide +kernel)) (by decide +kernel) (by decide +kernel) (by decide) (fun _ _ h => by rw [h.1]; rfl) (fun _ U U' hal hh h => ⟨h.1, h.2.mv hal hh⟩) (fun r U U' V V' h1 hal h2 h => XT.PureE.mv r U U' V V' h1 hal h2 h) ?_
  intro p e s m args below meth c s₁ X0 hexec hbytes hml hret hlk hnm hown hh0 W hP
  obtain ⟨rfl, hB⟩ := hP
  have hB0 := hB.mv X0.warmed.alike hh0
  have c1 : Steps p.tables e below (s₁.setTop (entryFrame m #[.ref d, .int (Int32.ofNat B.slots.size)] 2)) (s₁.setTop (mkF m 0 #[.val (.ref d), .val (.int (Int32.ofNat B.slots.size))] [])) := entry rfl
  have c2 : Steps p.tables e below (s₁.setTop (entryFrame m #[.ref d, .int (Int32.ofNat B.slots.size)] 2)) (s₁.setTop (mkF m 2 #[.val (.ref d), .val (.int (Int32.ofNat B.slots.size))] [.ref d, .int (Int32.ofNat B.slots.size)])) := c1.trans (by
    refine XS.iloadN X0.here hexec rfl (hb hbytes d0) rfl ?_
    refine XS.aloadN X0.here hexec rfl (hb hbytes d1) rfl rfl ?_
    exact Steps.refl _)
  have c3 : Steps p.tables e below (s₁.setTop (entryFrame m #[.ref d, .int (Int32.ofNat B.slots.size)] 2)) (s₁.setTop (mkF m 8 #[.val (.ref d), .val (.int (Int32.ofNat B.slots.size))] [.int (lo8 (ushr (Int32.ofNat B.slots.size - Int32.ofNat B.slots.size) 31))])) := c2.trans (by
    refine X0.alen hexec hB0 rfl rfl (hb hbytes d2) ?_
    refine XS.isub X0.here hexec rfl (hb hbytes d3) rfl ?_
    refine bipushV X0.here hexec rfl 31 (hb hbytes d4) (by decide) ?_
    refine iushr X0.here hexec rfl (hb hbytes d6) rfl ?_
    refine i2b X0.here hexec rfl (hb hbytes d7) rfl ?_
    exact Steps.refl _)
  have e0 : lo8 (ushr (Int32.ofNat B.slots.size - Int32.ofNat B.slots.size) 31) = 0 := by rw [Int32.sub_self]; decide
  rw [e0] at c3
  exact ⟨s₁, some (.int 0), _, _, _, X0, rfl, rfl, rfl, (fun h => by cases h), ⟨rfl, hh0⟩, fun fs hl => c3.trans (X0.ireturnOut hexec hret rfl (Or.inr (Or.inr (Or.inl rfl))) (hb hbytes d8) hl)⟩
end CodL
/-- the String at a is Latin-1 over a new byte[] (the heap's one new cell): the low bytes of the len chars of A from o on; every cell but a is kept -/
def Got (a : Addr) (D : Cell) (fV fC : Field) (A : Cell) (o len : Nat) (r : Option Value) (s u : State) : Prop := r = none ∧ ∃ D' V : Cell, Blank "java/lang/String" a D' u ∧ Same D D' [fV.slot, fC.slot] ∧ D'.slots[fV.slot]? = some (.ref s.heap.size) ∧ D'.slots[fC.slot]? = some (.int 0) ∧ Arr .byte s.heap.size V u ∧ V.vm = .none ∧ u.vm.findClass "[B" = some V.cls ∧ V.slots.size = len ∧ (∀ j, j < len → V.slots[j]? = some (.int (lo8 (cv A (o + j))))) ∧ (∀ (y : Addr) (c : Cell), y ≠ a → s.heap[y]? = some c → u.heap[y]? = some c) ∧ u.heap.size = s.heap.size + 1
theorem Got.mv {a : Addr} {D A : Cell} {fV fC : Field} {o len : Nat} : ∀ r (U U' V V' : State), U'.heap = U.heap → V.vm.Alike V'.vm → V'.heap = V.heap → Got a D fV fC A o len r U V → Got a D fV fC A o len r U' V' :=
  fun r U U' V V' h1 hal h2 ⟨e0, D', X, a1, a2, a3, a4, a5, a6, a7, a8, a9, a10, a11⟩ => ⟨e0, D', X, a1.mv hal h2, a2, by rw [h1]; exact a3, a4, by rw [h1]; exact a5.mv hal h2, a6, by rw [hal.findClass]; exact a7, a8, a9, by rw [h1, h2]; exact a10, by rw [h1, h2]; exact a11⟩
namespace New4
def yN : MethodName := ⟨"java/lang/String", "<init>", "([CIILjava/lang/Void;)V"⟩
abbrev yB : ByteArray := jdk_42_method_149_code
theorem d0 : decode yB 0 = .ok (.aload_n 0, 1) := by decide +kernel
theorem d1 : decode yB 1 = .ok (.invokespecial 1, 3) := by decide +kernel
theorem d4 : decode yB 4 = .ok (.iload_n 3, 1) := by decide +kernel
theorem d5 : decode yB 5 = .ok (.ifCond (.ne) 22, 3) := by decide +kernel
theorem d27 : decode yB 27 = .ok (.getstatic 38, 3) := by decide +kernel
theorem d30 : decode yB 30 = .ok (.ifCond (.eq) 28, 3) := by decide +kernel
theorem d33 : decode yB 33 = .ok (.aload_n 1, 1) := by decide +kernel
theorem d34 : decode yB 34 = .ok (.iload_n 2, 1) := by decide +kernel
theorem d35 : decode yB 35 = .ok (.iload_n 3, 1) := by decide +kernel
theorem d36 : decode yB 36 = .ok (.invokestatic 177, 3) := by decide +kernel
theorem d39 : decode yB 39 = .ok (.astore 5, 2) := by decide +kernel
theorem d41 : decode yB 41 = .ok (.aload_n 0, 1) := by decide +kernel
theorem d42 : decode yB 42 = .ok (.aload 5, 2) := by decide +kernel
theorem d44 : decode yB 44 = .ok (.iload_n 3, 1) := by decide +kernel
theorem d45 : decode yB 45 = .ok (.invokestatic 47, 3) := by decide +kernel
theorem d48 : decode yB 48 = .ok (.putfield 15, 3) := by decide +kernel
theorem d51 : decode yB 51 = .ok (.aload_n 0, 1) := by decide +kernel
theorem d52 : decode yB 52 = .ok (.aload 5, 2) := by decide +kernel
theorem d54 : decode yB 54 = .ok (.putfield 9, 3) := by decide +kernel
theorem d57 : decode yB 57 = .ok (.return_, 1) := by decide +kernel
def site : List Cond := [.fieldLink "java/lang/String" 38 "java/lang/String" "COMPACT_STRINGS" "Z", Cmp3.tab, CodL.tab, .laysFinal "java/lang/String" "java/lang/String" "value" "[B", .fieldLink "java/lang/String" 9 "java/lang/String" "value" "[B", .laysFinal "java/lang/String" "java/lang/String" "coder" "B", .fieldLink "java/lang/String" 15 "java/lang/String" "coder" "B"] ++ objW "java/lang/String" 1 ++ staticW "java/lang/String" 177 Cmp3.yN ++ staticW "java/lang/String" 47 CodL.yN
def tab : Cond := tabOf yN yB 6 none site
def P (a : Addr) (D : Cell) (fV fC : Field) (b : Addr) (A : Cell) (z : Int32) (o len : Nat) (args : Array Value) (s : State) : Prop := args = #[.ref a, .ref b, .int (Int32.ofNat o), .int (Int32.ofNat len), .null] ∧ Blank "java/lang/String" a D s ∧ Found "java/lang/String" "value" "[B" fV s ∧ Found "java/lang/String" "coder" "B" fC s ∧ Ch b A s ∧ StaticIs s "java/lang/String" "COMPACT_STRINGS" "Z" (.int z) ∧ ¬ z = 0 ∧ 0 < len ∧ o + len ≤ A.slots.size ∧ len ≤ 536870912 ∧ ∀ i, i < len → ¬ 255 < cv A (o + i)
def E (a : Addr) (D : Cell) (fV fC : Field) (A : Cell) (o len : Nat) (r : Option Value) (s u : State) : Prop := Got a D fV fC A o len r s u
/-- len > 0, no char of the range above 255: a Latin-1 String of their low bytes -/
theorem law (l : Launch) (a : Addr) (D : Cell) (fV fC : Field) (b : Addr) (A : Cell) (z : Int32) (o len : Nat) : Law l yN 5 4 2 35 yB 6 none site (P a D fV fC b A z o len) (E a D fV fC A o len) [⟨a, fC.slot⟩, ⟨a, fV.slot⟩] 1 len := by
  refine Law.of_walk (plainFor_of_name (by decide +kernel)) (by decide +kernel) (by decide +kernel) (by decide) (fun _ _ h => by rw [h.1]; rfl) (fun _ U U' hal hh h => ⟨h.1, h.2.1.mv hal hh, h.2.2.1.al hal, h.2.2.2.1.al hal, h.2.2.2.2.1.mv hal hh, h.2.2.2.2.2.1.there hal hh, h.2.2.2.2.2.2⟩) (fun r U U' V V' h1 hal h2 h => Got.mv r U U' V V' h1 hal h2 h) ?_
  intro p e s m args below meth c s₁ X0 hexec hbytes hml hret hlk hnm hown hh0 W hP
  obtain ⟨rfl, hB, f1, f2, hA, s1, hz, l0, l1, l2, hp⟩ := hP
  have a31 := hA.1.2.2.2
  have c1 : Steps p.tables e below (s₁.setTop (entryFrame m #[.ref a, .ref b, .int (Int32.ofNat o), .int (Int32.ofNat len), .null] 6)) (s₁.setTop (mkF m 0 #[.val (.ref a), .val (.ref b), .val (.int (Int32.ofNat o)), .val (.int (Int32.ofNat len)), .val .null, .unset] [])) := entry rfl
  have c2 : Steps p.tables e below (s₁.setTop (entryFrame m #[.ref a, .ref b, .int (Int32.ofNat o), .int (Int32.ofNat len), .null] 6)) (s₁.setTop (mkF m 1 #[.val (.ref a), .val (.ref b), .val (.int (Int32.ofNat o)), .val (.int (Int32.ofNat len)), .val .null, .unset] [.ref a])) := c1.trans (by
    refine XS.aloadN X0.here hexec rfl (hb hbytes d0) rfl rfl ?_
    exact Steps.refl _)
  obtain ⟨T3, X3, q3, st3⟩ := X0.oinit hexec hown (wks W (objW "java/lang/String" 1)) (g := (mkF m 1 #[.val (.ref a), .val (.ref b), .val (.int (Int32.ofNat o)), .val (.int (Int32.ofNat len)), .val .null, .unset] [.ref a])) rfl (by rw [hml]; rfl) (rest := []) rfl (hb hbytes d1) (W := 0) (by show 2 * 0 + 0 ≤ _; decide) (Nat.le_of_ble_eq_true rfl) (Nat.le_of_ble_eq_true rfl)
  have hh3 := q3.trans hh0
  have c4 : Steps p.tables e below (s₁.setTop (entryFrame m #[.ref a, .ref b, .int (Int32.ofNat o), .int (Int32.ofNat len), .null] 6)) (T3.setTop (mkF m 27 #[.val (.ref a), .val (.ref b), .val (.int (Int32.ofNat o)), .val (.int (Int32.ofNat len)), .val .null, .unset] [])) := (c2.trans (st3 _ (Steps.refl _))).trans (by
    refine XS.iloadN X3.here hexec rfl (hb hbytes d4) rfl ?_
    refine XS.ifYes X3.here hexec rfl (pc0 := 5) rfl (hb hbytes d5) rfl (i0_ne_t (nz32 (by omega) l0)) (by decide) rfl ?_
    exact Steps.refl _)
  obtain ⟨T5, X5, q5, st5⟩ := X3.sget hexec hown (wk W (.fieldLink "java/lang/String" 38 "java/lang/String" "COMPACT_STRINGS" "Z")) s1 (fun _ _ h => by rw [hh3]; exact h) (g := (mkF m 27 #[.val (.ref a), .val (.ref b), .val (.int (Int32.ofNat o)), .val (.int (Int32.ofNat len)), .val .null, .unset] [])) rfl (hb hbytes d27)
  have hh5 := q5.trans hh3
  have c6 : Steps p.tables e below (s₁.setTop (entryFrame m #[.ref a, .ref b, .int (Int32.ofNat o), .int (Int32.ofNat len), .null] 6)) (T5.setTop (mkF m 30 #[.val (.ref a), .val (.ref b), .val (.int (Int32.ofNat o)), .val (.int (Int32.ofNat len)), .val .null, .unset] [.int z])) := c4.trans (st5 _ (Steps.refl _))
  have c7 : Steps p.tables e below (s₁.setTop (entryFrame m #[.ref a, .ref b, .int (Int32.ofNat o), .int (Int32.ofNat len), .null] 6)) (T5.setTop (mkF m 36 #[.val (.ref a), .val (.ref b), .val (.int (Int32.ofNat o)), .val (.int (Int32.ofNat len)), .val .null, .unset] [.int (Int32.ofNat len), .int (Int32.ofNat o), .ref b])) := c6.trans (by
    refine XS.ifNo X5.here hexec rfl (hb hbytes d30) rfl (i0_eq_f hz) ?_
    refine XS.aloadN X5.here hexec rfl (hb hbytes d33) rfl rfl ?_
    refine XS.iloadN X5.here hexec rfl (hb hbytes d34) rfl ?_
    refine XS.iloadN X5.here hexec rfl (hb hbytes d35) rfl ?_
    exact Steps.refl _)
  obtain ⟨v8, T8, X8, E8, g8⟩ := X5.callS hexec (Cmp3.law l b A o len) hown (wks W (staticW "java/lang/String" 177 Cmp3.yN)) (wk W Cmp3.tab) (W := 0) (Nat.le_of_ble_eq_true rfl) (Nat.le_of_ble_eq_true rfl) (Nat.le_refl _) (by show 0 + len ≤ len; omega) (g := (mkF m 36 #[.val (.ref a), .val (.ref b), .val (.int (Int32.ofNat o)), .val (.int (Int32.ofNat len)), .val .null, .unset] [.int (Int32.ofNat len), .int (Int32.ofNat o), .ref b])) rfl (by rw [hml]; rfl) c7 (argsL := [.ref b, .int (Int32.ofNat o), .int (Int32.ofNat len)]) (rest := []) rfl rfl (by show 2 * 0 + 0 ≤ _; decide) (hb hbytes d36) (⟨rfl, hA.mv X5.warmed.alike hh5, l1, l2, hp⟩)
  obtain ⟨e8, z8⟩ := E8
  obtain ⟨rfl, N, n1, n2, n3, n4, n5, n6⟩ := NewArr.mv _ T5 s _ _ hh5.symm (Vm.Alike.refl _) rfl e8
  rw [hh5] at z8
  have hB1 := hB.keep X8.warmed.alike (n6 _ _ hB.1)
  have hne : s.heap.size ≠ a := (Nat.ne_of_lt (Array.getElem?_eq_some_iff.mp hB.1).1).symm
  have c9 : Steps p.tables e below (s₁.setTop (entryFrame m #[.ref a, .ref b, .int (Int32.ofNat o), .int (Int32.ofNat len), .null] 6)) (T8.setTop (mkF m 39 #[.val (.ref a), .val (.ref b), .val (.int (Int32.ofNat o)), .val (.int (Int32.ofNat len)), .val .null, .unset] [.ref s.heap.size])) := g8
  have c10 : Steps p.tables e below (s₁.setTop (entryFrame m #[.ref a, .ref b, .int (Int32.ofNat o), .int (Int32.ofNat len), .null] 6)) (T8.setTop (mkF m 45 #[.val (.ref a), .val (.ref b), .val (.int (Int32.ofNat o)), .val (.int (Int32.ofNat len)), .val .null, .val (.ref s.heap.size)] [.int (Int32.ofNat N.slots.size), .ref s.heap.size, .ref a])) := by
    have hc : Steps p.tables e below (s₁.setTop (entryFrame m #[.ref a, .ref b, .int (Int32.ofNat o), .int (Int32.ofNat len), .null] 6)) (T8.setTop (mkF m 45 #[.val (.ref a), .val (.ref b), .val (.int (Int32.ofNat o)), .val (.int (Int32.ofNat len)), .val .null, .val (.ref s.heap.size)] [.int (Int32.ofNat len), .ref s.heap.size, .ref a])) := c9.trans (by
      refine XS.astore X8.here hexec rfl (hb hbytes d39) rfl rfl rfl ?_
      refine XS.aloadN X8.here hexec rfl (hb hbytes d41) rfl rfl ?_
      refine XS.aload X8.here hexec rfl (hb hbytes d42) rfl rfl ?_
      refine XS.iloadN X8.here hexec rfl (hb hbytes d44) rfl ?_
      exact Steps.refl _)
    rw [n4]; exact hc
  obtain ⟨v11, T11, X11, E11, g11⟩ := X8.callS hexec (CodL.law l s.heap.size N) hown (wks W (staticW "java/lang/String" 47 CodL.yN)) (wk W CodL.tab) (W := 1) (Nat.le_of_ble_eq_true rfl) (Nat.le_of_ble_eq_true rfl) (Nat.le_refl _) (by show 0 + len + 0 ≤ len; omega) (g := (mkF m 45 #[.val (.ref a), .val (.ref b), .val (.int (Int32.ofNat o)), .val (.int (Int32.ofNat len)), .val .null, .val (.ref s.heap.size)] [.int (Int32.ofNat N.slots.size), .ref s.heap.size, .ref a])) rfl (by rw [hml]; rfl) c10 (argsL := [.ref s.heap.size, .int (Int32.ofNat N.slots.size)]) (rest := [.ref a]) rfl rfl (by show 2 * 0 + (1 + 0) ≤ _; decide) (hb hbytes d45) (⟨rfl, n1⟩)
  obtain ⟨rfl, q11⟩ := E11
  have hB11 := hB1.mv (X8.warmed.alike.symm.trans X11.warmed.alike) q11
  have c12 : Steps p.tables e below (s₁.setTop (entryFrame m #[.ref a, .ref b, .int (Int32.ofNat o), .int (Int32.ofNat len), .null] 6)) (T11.setTop (mkF m 48 #[.val (.ref a), .val (.ref b), .val (.int (Int32.ofNat o)), .val (.int (Int32.ofNat len)), .val .null, .val (.ref s.heap.size)] [.int 0, .ref a])) := g11
  obtain ⟨T13, X13, p13, bl13, sl13, st13⟩ := X11.finit hexec hown (wk W (.fieldLink "java/lang/String" 15 "java/lang/String" "coder" "B")) (Or.inr ⟨_, (wk W (.laysFinal "java/lang/String" "java/lang/String" "coder" "B"))⟩) (Or.inl ⟨rfl, hnm⟩) f2 (Or.inl rfl) hB11 (t := .byte) (by decide +kernel) rfl (g := (mkF m 48 #[.val (.ref a), .val (.ref b), .val (.int (Int32.ofNat o)), .val (.int (Int32.ofNat len)), .val .null, .val (.ref s.heap.size)] [.int 0, .ref a])) rfl (rest := []) rfl (hb hbytes d48)
  have c14 : Steps p.tables e below (s₁.setTop (entryFrame m #[.ref a, .ref b, .int (Int32.ofNat o), .int (Int32.ofNat len), .null] 6)) (T13.setTop (mkF m 54 #[.val (.ref a), .val (.ref b), .val (.int (Int32.ofNat o)), .val (.int (Int32.ofNat len)), .val .null, .val (.ref s.heap.size)] [.ref s.heap.size, .ref a])) := (c12.trans (st13 _ (Steps.refl _))).trans (by
    refine XS.aloadN X13.here hexec rfl (hb hbytes d51) rfl rfl ?_
    refine XS.aload X13.here hexec rfl (hb hbytes d52) rfl rfl ?_
    exact Steps.refl _)
  obtain ⟨T15, X15, p15, bl15, sl15, st15⟩ := X13.finit hexec hown (wk W (.fieldLink "java/lang/String" 9 "java/lang/String" "value" "[B")) (Or.inr ⟨_, (wk W (.laysFinal "java/lang/String" "java/lang/String" "value" "[B"))⟩) (Or.inl ⟨rfl, hnm⟩) f1 (Or.inl rfl) bl13 (t := (.array .byte)) (by decide +kernel) rfl (g := (mkF m 54 #[.val (.ref a), .val (.ref b), .val (.int (Int32.ofNat o)), .val (.int (Int32.ofNat len)), .val .null, .val (.ref s.heap.size)] [.ref s.heap.size, .ref a])) rfl (rest := []) rfl (hb hbytes d54)
  have c16 : Steps p.tables e below (s₁.setTop (entryFrame m #[.ref a, .ref b, .int (Int32.ofNat o), .int (Int32.ofNat len), .null] 6)) (T15.setTop (mkF m 57 #[.val (.ref a), .val (.ref b), .val (.int (Int32.ofNat o)), .val (.int (Int32.ofNat len)), .val .null, .val (.ref s.heap.size)] [])) := c14.trans (st15 _ (Steps.refl _))
  have ap := apart (Or.inr ⟨_, (wk W (.laysFinal "java/lang/String" "java/lang/String" "value" "[B"))⟩) (Or.inr ⟨_, (wk W (.laysFinal "java/lang/String" "java/lang/String" "coder" "B"))⟩) f1 f2 (t₁ := .array .byte) (t₂ := .byte) (by decide +kernel) (by decide +kernel) (by decide)
  have al := X8.warmed.alike.symm.trans X15.warmed.alike
  have n7 : T11.heap[s.heap.size]? = some N := by rw [q11]; exact n1.1
  exact ⟨T15, none, _, _, _, X15, by simp, rfl, by omega, (fun _ => rfl), ⟨rfl, _, N, bl15, ((Same.refl D _).set _ (by simp)).set _ (by simp), sl15, (Cell.slots_setSlot_ne _ ap).trans sl13, n1.keep al (p15.other hne (p13.other hne n7)), n2, by rw [al.findClass]; exact n3, n4, n5, fun y c h1 h2 => p15.other h1 (p13.other h1 (by rw [q11]; exact n6 y c h2)), by rw [p15.2.2, p13.2.2, q11]; exact z8⟩, fun fs hl => c16.trans (X15.returnOut hexec hret (hb hbytes d57) hl)⟩
end New4
namespace New1
def yN : MethodName := ⟨"java/lang/String", "<init>", "([C)V"⟩
abbrev yB : ByteArray := jdk_42_method_3_code
theorem d0 : decode yB 0 = .ok (.aload_n 0, 1) := by decide +kernel
theorem d1 : decode yB 1 = .ok (.aload_n 1, 1) := by decide +kernel
theorem d2 : decode yB 2 = .ok (.iconst 0, 1) := by decide +kernel
theorem d3 : decode yB 3 = .ok (.aload_n 1, 1) := by decide +kernel
theorem d4 : decode yB 4 = .ok (.arraylength, 1) := by decide +kernel
theorem d5 : decode yB 5 = .ok (.aconst_null, 1) := by decide +kernel
theorem d6 : decode yB 6 = .ok (.invokespecial 27, 3) := by decide +kernel
theorem d9 : decode yB 9 = .ok (.return_, 1) := by decide +kernel
def site : List Cond := [New4.tab] ++ initW "java/lang/String" 27 New4.yN
def tab : Cond := tabOf yN yB 2 none site
def P (a : Addr) (D : Cell) (fV fC : Field) (b : Addr) (A : Cell) (z : Int32) (args : Array Value) (s : State) : Prop := args = #[.ref a, .ref b] ∧ Blank "java/lang/String" a D s ∧ Found "java/lang/String" "value" "[B" fV s ∧ Found "java/lang/String" "coder" "B" fC s ∧ Ch b A s ∧ StaticIs s "java/lang/String" "COMPACT_STRINGS" "Z" (.int z) ∧ ¬ z = 0 ∧ 0 < A.slots.size ∧ A.slots.size ≤ 536870912 ∧ ∀ i, i < A.slots.size → ¬ 255 < cv A i
def E (a : Addr) (D : Cell) (fV fC : Field) (A : Cell) (r : Option Value) (s u : State) : Prop := Got a D fV fC A 0 A.slots.size r s u
/-- new String(chars), not empty, no char above 255: a Latin-1 String of their low bytes -/
theorem law (l : Launch) (a : Addr) (D : Cell) (fV fC : Field) (b : Addr) (A : Cell) (z : Int32) : Law l yN 2 1 3 52 yB 2 none site (P a D fV fC b A z) (E a D fV fC A) [⟨a, fC.slot⟩, ⟨a, fV.slot⟩] 1 A.slots.size := by
  refine Law.of_walk (plainFor_of_name (by decide +kernel)) (by decide +kernel) (by decide +kernel) (by decide) (fun _ _ h => by rw [h.1]; rfl) (fun _ U U' hal hh h => ⟨h.1, h.2.1.mv hal hh, h.2.2.1.al hal, h.2.2.2.1.al hal, h.2.2.2.2.1.mv hal hh, h.2.2.2.2.2.1.there hal hh, h.2.2.2.2.2.2⟩) (fun r U U' V V' h1 hal h2 h => Got.mv r U U' V V' h1 hal h2 h) ?_
  intro p e s m args below meth c s₁ X0 hexec hbytes hml hret hlk hnm hown hh0 W hP
  obtain ⟨rfl, hB, f1, f2, hA, s1, hz, l0, l2, hp⟩ := hP
  have c1 : Steps p.tables e below (s₁.setTop (entryFrame m #[.ref a, .ref b] 2)) (s₁.setTop (mkF m 0 #[.val (.ref a), .val (.ref b)] [])) := entry rfl
  have c2 : Steps p.tables e below (s₁.setTop (entryFrame m #[.ref a, .ref b] 2)) (s₁.setTop (mkF m 6 #[.val (.ref a), .val (.ref b)] [.null, .int (Int32.ofNat A.slots.size), .int 0, .ref b, .ref a])) := c1.trans (by
    refine XS.aloadN X0.here hexec rfl (hb hbytes d0) rfl rfl ?_
    refine XS.aloadN X0.here hexec rfl (hb hbytes d1) rfl rfl ?_
    refine iconstV X0.here hexec rfl 0 (hb hbytes d2) (by decide) ?_
    refine XS.aloadN X0.here hexec rfl (hb hbytes d3) rfl rfl ?_
    refine X0.alen hexec (hA.1.mv X0.warmed.alike hh0) rfl rfl (hb hbytes d4) ?_
    refine XS.aconstNull X0.here hexec rfl (hb hbytes d5) ?_
    exact Steps.refl _)
  obtain ⟨v3, T3, X3, E3, g3⟩ := X0.callN hexec (New4.law l a D fV fC b A z 0 A.slots.size) rfl hown (wks W (initW "java/lang/String" 27 New4.yN)) (W New4.tab (by simp only [site, List.mem_cons, List.mem_append, true_or, or_true])) (W := 0) (Nat.le_of_ble_eq_true rfl) (Nat.le_of_ble_eq_true rfl) (Nat.le_refl _) (by show 0 + A.slots.size ≤ A.slots.size; omega) (g := (mkF m 6 #[.val (.ref a), .val (.ref b)] [.null, .int (Int32.ofNat A.slots.size), .int (Int32.ofNat 0), .ref b, .ref a])) rfl (by rw [hml]; rfl) c2 (argsL := [.ref b, .int (Int32.ofNat 0), .int (Int32.ofNat A.slots.size), .null]) (rest := []) rfl rfl (by show 2 * 0 + 0 ≤ _; decide) (hb hbytes d6) (⟨rfl, hB.mv X0.warmed.alike hh0, f1.al X0.warmed.alike, f2.al X0.warmed.alike, hA.mv X0.warmed.alike hh0, s1.there X0.warmed.alike hh0, hz, l0, by omega, l2, fun i hi => by rw [Nat.zero_add]; exact hp i hi⟩)
  have e0 := Got.mv _ s₁ s _ _ hh0.symm (Vm.Alike.refl _) rfl E3
  obtain rfl := e0.1
  have c4 : Steps p.tables e below (s₁.setTop (entryFrame m #[.ref a, .ref b] 2)) (T3.setTop (mkF m 9 #[.val (.ref a), .val (.ref b)] [])) := g3
  exact ⟨T3, none, _, _, _, X3, by simp, rfl, by omega, (fun _ => rfl), e0, fun fs hl => c4.trans (X3.returnOut hexec hret (hb hbytes d9) hl)⟩
theorem pays {l : Launch} {R : Room} {p : Program} {e : Env} {below : List Frame} {s : State} {sargs : Array Value} {len W : Nat} (a : Addr) (D : Cell) (fV fC : Field) (b : Addr) (A : Cell) (z : Int32) (htab : tab.before sargs s = true) (hfr : 4 ≤ R.frames) (hlo : W + 65 ≤ R.locals) :
    Back l R p e below s sargs yN len W (fun A₁ a₁ => A₁.cells + 1 ≤ R.cells ∧ A₁.slots + A.slots.size ≤ R.slots ∧ P a D fV fC b A z a₁ A₁.U) (fun A₁ _ v₁ B₁ => E a D fV fC A v₁ A₁.U B₁.U ∧ B₁.locs = A₁.locs ++ [⟨a, fC.slot⟩, ⟨a, fV.slot⟩] ∧ B₁.cells = A₁.cells + 1 ∧ B₁.slots = A₁.slots + A.slots.size) :=
  (law l a D fV fC b A z).pays htab hfr (by omega)
end New1
/-- the byte, read back as charAt reads it, is the char -/
theorem lo8_mask {x : Int32} (h0 : ¬ x < 0) (h1 : ¬ 255 < x) : lo8 x &&& 255 = x := by
  have t : ∀ k : Fin 256, lo8 (Int32.ofNat k.val) &&& 255 = Int32.ofNat k.val := by decide +kernel
  rw [Int32.lt_iff_toInt_lt] at h0 h1
  have e0 : (0 : Int32).toInt = 0 := rfl
  have e1 : (255 : Int32).toInt = 255 := rfl
  obtain ⟨k, hk⟩ : ∃ k : Nat, x.toInt = k := ⟨x.toInt.toNat, by omega⟩
  have hx : x = Int32.ofNat k := Int32.toInt_inj.mp (by rw [hk, Int32.toInt_ofNat_small (by omega)])
  rw [hx]
  exact t ⟨k, by omega⟩
end StrChars
namespace StrChars.Road
open Jvm Sem ClassFile Op Lib Jvm.Stand Jvm.Free Jvm.Free.XT
open Jvm.Lib.Cold (StaticIs)
abbrev ST : String := "java/lang/String"
/-- every table word that New1's law asks, flat -/
abbrev words : List Jvm.Cond := [.code New1.yN New1.yB 2 none, .initialized ST, .methodLink ST 27 New4.yN, .instanceMethod New4.yN,
  .code New4.yN New4.yB 6 none, .fieldLink ST 38 ST "COMPACT_STRINGS" "Z", .laysFinal ST ST "value" "[B", .fieldLink ST 9 ST "value" "[B", .laysFinal ST ST "coder" "B", .fieldLink ST 15 ST "coder" "B",
  .methodLink ST 1 Lib.objectInit, .instanceMethod Lib.objectInit, .code Lib.objectInit ⟨#[0xb1]⟩ 1 none, .methodLink ST 177 Cmp3.yN, .static Cmp3.yN, .methodLink ST 47 CodL.yN, .static CodL.yN,
  .code Cmp3.yN Cmp3.yB 6 (some (.array .byte)), .initialized U16, .arrayClass .byte, .methodLink U16 115 Cmp5.yN, .static Cmp5.yN, .code Cmp5.yN Cmp5.yB 7 (some .int), .code CodL.yN CodL.yB 2 (some .byte)]
theorem tab_of {a : Array Value} {s : State} (h : ∀ w ∈ words, w.before a s = true) : New1.tab.before a s = true := by
  have h5 : Cmp5.tab.before a s = true := unparts (wk h (.code Cmp5.yN Cmp5.yB 7 (some .int))) (wks h (.initialized Cmp5.yN.cls :: Cmp5.site))
  have hc : CodL.tab.before a s = true := unparts (wk h (.code CodL.yN CodL.yB 2 (some .byte))) (wks h (.initialized CodL.yN.cls :: CodL.site))
  have q5 : ∀ w ∈ Cmp5.tab :: words, w.before a s = true := fun w hw => (List.mem_cons.mp hw).elim (fun e => e ▸ h5) (h w)
  have h3 : Cmp3.tab.before a s = true := unparts (wk q5 (.code Cmp3.yN Cmp3.yB 6 (some (.array .byte)))) (wks q5 (.initialized Cmp3.yN.cls :: Cmp3.site))
  have q3 : ∀ w ∈ Cmp3.tab :: CodL.tab :: words, w.before a s = true := fun w hw => (List.mem_cons.mp hw).elim (fun e => e ▸ h3) fun hw => (List.mem_cons.mp hw).elim (fun e => e ▸ hc) (h w)
  have h4 : New4.tab.before a s = true := unparts (wk q3 (.code New4.yN New4.yB 6 none)) (wks q3 (.initialized New4.yN.cls :: New4.site))
  have q4 : ∀ w ∈ New4.tab :: words, w.before a s = true := fun w hw => (List.mem_cons.mp hw).elim (fun e => e ▸ h4) (h w)
  exact unparts (wk q4 (.code New1.yN New1.yB 2 none)) (wks q4 (.initialized New1.yN.cls :: New1.site))
/-- the words ride from the start Z to the walk's own state -/
theorem moved {Z s : State} {a0 args : Array Value} (hZ : Z.Warmed39 s.vm) (hw : ∀ d ∈ words, d.before a0 Z = true) : ∀ d ∈ words, d.before args s = true := fun d hd => by
  have q := hw d hd
  have t : ∀ d ∈ words, d = .arrayClass .byte ∨ (d.onTables && d.keepsFace) = true := by decide +kernel
  rcases t d hd with rfl | t
  · exact RoadKit.mvA hZ q
  · exact RoadKit.mv hZ q t
/-- WHAT COMES BACK, over the tables of the start Z: h the heap at the call, h' behind it -/
def Q (Z : State) (x : Addr) (A : Cell) (h : Heap) (v : Option Value) (h' : Heap) (L : List Loc) : Prop := v = none ∧ (∀ y ∈ L, y.base = x) ∧ RoadKit.Keep h h' [x] ∧ h'.size = h.size + 1 ∧ RoadKit.Exa Z h' x ST ∧ RoadKit.Fld Z h' x ST "value" "[B" (.ref h.size) ∧ RoadKit.Fld Z h' x ST "coder" "B" (.int 0) ∧
  (∃ V : Cell, RoadKit.Arr Z h' h.size V .byte ∧ V.vm = .none ∧ Z.vm.findClass "[B" = some V.cls ∧ V.slots.size = A.slots.size ∧ ∀ j, j < A.slots.size → V.slots[j]? = some (.int (lo8 (cv A j)))) ∧
  ∀ (O n d : String) (w : Value), RoadKit.Fld Z h x O n d w → RoadKit.slotOf Z O n d ≠ RoadKit.slotOf Z ST "value" "[B" → RoadKit.slotOf Z O n d ≠ RoadKit.slotOf Z ST "coder" "B" → RoadKit.Fld Z h' x O n d w
/-- **new String(chars) AT A CALL, IN THE ROAD'S FORM**: for specialBack behind newO: x the fresh String, b the char[] with the cell A -/
theorem back {p : Program} {l : Launch} {e : Env} {R : Room} {s : State} {args : Array Value} {below : List Frame} {len W : Nat} {Z : State} {a0 : Array Value} {h : Heap} (hZ : Z.Warmed39 s.vm) (hw : ∀ d ∈ words, d.before a0 Z = true) {kI : Nat} (wi : (Jvm.Cond.instantiable ST kI).before a0 Z = true)
    {x b : Addr} {A : Cell} {z : Int32} {v0 c0 : Value} (E : RoadKit.Exa Z h x ST) (V : RoadKit.Fld Z h x ST "value" "[B" v0) (C : RoadKit.Fld Z h x ST "coder" "B" c0) (K : RoadKit.Arr Z h b A .char) (hty : Typed .char A) (S : RoadKit.Sta Z h ST "COMPACT_STRINGS" "Z" (.int z)) (hz : ¬ z = 0)
    (l0 : 0 < A.slots.size) (l2 : A.slots.size ≤ 536870912) (hp : ∀ i, i < A.slots.size → ¬ 255 < cv A i) (hfr : 4 ≤ R.frames) (hlo : W + 65 ≤ R.locals) :
    Back l R p e below s args New1.yN len W (fun P a => a = #[.ref x, .ref b] ∧ P.U.heap = h ∧ P.cells + 1 ≤ R.cells ∧ P.slots + A.slots.size ≤ R.slots)
      (fun P _ v B => ∃ L, Q Z x A h v B.U.heap L ∧ B.locs = P.locs ++ L ∧ B.cells = P.cells + 1 ∧ B.slots = P.slots + A.slots.size) := by
  intro m meth c P g ig mk a X hg hsize hdg hW hn hp'
  obtain ⟨rfl, rfl, r1, r2⟩ := hp'
  have al : Z.vm.Alike P.U.vm := hZ.alike.trans X.warmed.alike
  obtain ⟨D, cfV, kV, iV, fV, hD, gV, stV, knV, obV, asV, slV⟩ := id V
  obtain ⟨D', cfC, kC, iC, fC, hD', gC, stC, -, -, asC, slC⟩ := id C
  cases hD.symm.trans hD'
  obtain ⟨D2, kD, e1, e2, e3, e4, e5⟩ := id E
  cases hD.symm.trans e1
  obtain ⟨c2, k2, i1, i2, i3, -⟩ := Cond.instantiable_spec wi
  cases e2.symm.trans i1
  cases e3.symm.trans i2
  obtain ⟨kU, u1, u2⟩ := al.2.2 _ _ e3
  have hB : Blank ST x D P.U := ⟨hD, ⟨knV, fun q hq => by rw [hq] at obV; cases obV⟩, by rw [al.findClass]; exact e2, kU, u1, by rw [u2]; exact i3, by rw [u2]; exact e5 i3⟩
  have F1 : Found ST "value" "[B" fV P.U := ⟨SBG.found_only al ⟨cfV, kV, iV, gV⟩, stV⟩
  have F2 : Found ST "coder" "B" fC P.U := ⟨SBG.found_only al ⟨cfC, kC, iC, gC⟩, stC⟩
  have hA : Ch b A P.U := ⟨⟨K.1, State.isArrayOf_alike al K.2.1, K.2.2, by omega⟩, hty⟩
  have hS : StaticIs P.U ST "COMPACT_STRINGS" "Z" (.int z) := by
    obtain ⟨cfS, iS, kS, fS, st, cS, t1, t2, t3, t4, t5, t6, t7⟩ := S
    exact StaticIs.there (s := { Z with heap := P.U.heap }) ⟨cfS, iS, kS, fS, st, cS, t1, t2, t3, t4, t5, (fun q => by rw [q] at t6; cases t6), t7⟩ al rfl
  obtain ⟨v, B, X', ⟨⟨hv, E', V', q1, q2, q3, q4, q5, q6, q7, q8, q9, q10, q11⟩, hl, hc, hs⟩, st⟩ := New1.pays x D fV fC b A z (tab_of (moved hZ hw)) hfr hlo m meth c P g ig mk _ X hg hsize hdg hW hn ⟨r1, r2, rfl, hB, F1, F2, hA, hS, hz, l0, l2, hp⟩
  have al' : Z.vm.Alike B.U.vm := hZ.alike.trans X'.warmed.alike
  have hsz : E'.slots.size = D.slots.size := by
    obtain ⟨-, -, -, kB, w1, w2, w3⟩ := q1
    obtain ⟨kB', y1, y2⟩ := al'.2.2 _ _ e3
    rw [q2.2.1] at w1
    cases w1.symm.trans y1
    rw [w3, e5 i3, y2]
  refine ⟨v, B, X', ⟨_, ⟨hv, ?_, ⟨by omega, fun y cy hy hn' => q10 y cy (by simpa using hn') hy, fun y cy hy => ?_⟩, q11, ⟨E', _, q1.1, by rw [q2.2.1]; exact e2, by rw [q2.2.1]; exact e3, by rw [q2.1]; exact obV, fun _ => by rw [hsz]; exact e5 i3⟩,
    ⟨E', cfV, kV, iV, fV, q1.1, gV, stV, by rw [q2.1]; exact knV, by rw [q2.1]; exact obV, by rw [q2.2.1]; exact asV, q3⟩, ⟨E', cfC, kC, iC, fC, q1.1, gC, stC, by rw [q2.1]; exact knV, by rw [q2.1]; exact obV, by rw [q2.2.1]; exact asC, q4⟩,
    ⟨V', ⟨q5.1, State.isArrayOf_alike al'.symm q5.2.1, q5.2.2.1⟩, q6, by rw [← al'.findClass]; exact q7, q8, fun j hj => by have := q9 j hj; rwa [Nat.zero_add] at this⟩, fun O n d w F n1 n2 => ?_⟩, hl, hc, hs⟩, st⟩
  · intro y hy
    simp only [List.mem_cons, List.not_mem_nil, or_false] at hy
    rcases hy with rfl | rfl <;> rfl
  · by_cases q : y = x
    · subst q
      cases hD.symm.trans hy
      exact ⟨E', q1.1, q2.2.1, q2.1, hsz⟩
    · exact ⟨cy, q10 y cy q hy, rfl, rfl, rfl⟩
  · obtain ⟨D3, cf, k, i, f, g1, g2, g3, g4, g5, g6, g7⟩ := F
    cases hD.symm.trans g1
    simp only [RoadKit.slotOf, g2, gV, gC, Option.map_some, Option.getD_some] at n1 n2
    exact ⟨E', cf, k, i, f, q1.1, g2, g3, by rw [q2.1]; exact g4, by rw [q2.1]; exact g5, by rw [q2.2.1]; exact g6, by rw [q2.2.2 f.slot (by simp [n1, n2])]; exact g7⟩
end StrChars.Road
namespace StrChars.Road
open Jvm Sem ClassFile Op Lib Jvm.Stand Jvm.Free Jvm.Free.XT
/-- WHAT COMES BACK, the byte[] as a list of values -/
def QA (Z : State) (x : Addr) (zn : Int32) (cs : List Int32) (h : Heap) (v : Option Value) (h' : Heap) (L : List Loc) : Prop := v = none ∧ (∀ y ∈ L, y.base = x) ∧ RoadKit.Keep h h' [x] ∧ h'.size = h.size + 1 ∧ RoadKit.Exa Z h' x ST ∧ RoadKit.Fld Z h' x ST "value" "[B" (.ref h.size) ∧ RoadKit.Fld Z h' x ST "coder" "B" (.int 0) ∧
  (∃ kb, Z.vm.findClass "[B" = some kb ∧ RoadKit.Arv Z h' h.size kb .byte zn (cs.map fun c => .int (lo8 c)) (.int 0)) ∧
  ∀ (O n d : String) (w : Value), RoadKit.Fld Z h x O n d w → RoadKit.slotOf Z O n d ≠ RoadKit.slotOf Z ST "value" "[B" → RoadKit.slotOf Z O n d ≠ RoadKit.slotOf Z ST "coder" "B" → RoadKit.Fld Z h' x O n d w
/-- **new String(chars) AT A CALL, THE ARRAYS AS LISTS**: the char[] at b holds cs, not empty, no char above 255 -/
theorem backArv {p : Program} {l : Launch} {e : Env} {R : Room} {s : State} {args : Array Value} {below : List Frame} {len W : Nat} {Z : State} {a0 : Array Value} {h : Heap} (hZ : Z.Warmed39 s.vm) (hw : ∀ d ∈ words, d.before a0 Z = true) {kI : Nat} (wi : (Jvm.Cond.instantiable ST kI).before a0 Z = true)
    {x b : Addr} {k : ClassId} {zn z : Int32} {cs : List Int32} {dv v0 c0 : Value} (E : RoadKit.Exa Z h x ST) (V : RoadKit.Fld Z h x ST "value" "[B" v0) (C : RoadKit.Fld Z h x ST "coder" "B" c0) (K : RoadKit.Arv Z h b k .char zn (cs.map Value.int) dv) (S : RoadKit.Sta Z h ST "COMPACT_STRINGS" "Z" (.int z)) (hz : ¬ z = 0)
    (hlen : zn.toNatClampNeg = cs.length) (h0 : 0 < cs.length) (hbig : cs.length ≤ 536870912) (hall : ∀ c ∈ cs, ¬ 255 < c) (hfr : 4 ≤ R.frames) (hlo : W + 65 ≤ R.locals) :
    Back l R p e below s args New1.yN len W (fun P a => a = #[.ref x, .ref b] ∧ P.U.heap = h ∧ P.cells + 1 ≤ R.cells ∧ P.slots + cs.length ≤ R.slots)
      (fun P _ v B => ∃ L, QA Z x zn cs h v B.U.heap L ∧ B.locs = P.locs ++ L ∧ B.cells = P.cells + 1 ∧ B.slots = P.slots + cs.length) := by
  obtain ⟨A, K1, K2, K3, K4, K5, K6⟩ := K
  have e : A.slots.size = cs.length := K3.trans hlen
  have hat : ∀ (i : Nat) (hi : i < cs.length), A.slots[i]? = some (.int cs[i]) := fun i hi => by rw [K5 i (by omega)]; simp [List.getD_eq_getElem?_getD, hi]
  have hcv : ∀ (i : Nat) (hi : i < cs.length), cv A i = cs[i] := fun i hi => by unfold cv; rw [hat i hi]
  have hty : Typed .char A := fun i v hv => by
    have hi : i < A.slots.size := (Array.getElem?_eq_some_iff.mp hv).1
    have q := K5 i hi
    rw [hv] at q
    rw [Option.some.inj q]
    exact K6 i hi
  refine Back.mono (back hZ hw wi E V C K1 hty S hz (by omega) (by omega) (fun i hi => by rw [hcv i (by omega)]; exact hall _ (List.getElem_mem _)) hfr hlo) (fun P a hp => ⟨hp.1, hp.2.1, hp.2.2.1, by rw [e]; exact hp.2.2.2⟩) (fun P a v B hp hq => ?_)
  obtain ⟨L, ⟨q1, q2, q3, q4, q5, q6, q7, ⟨V', v1, v2, v3, v4, v5⟩, q9⟩, hl, hc, hs⟩ := hq
  refine ⟨L, ⟨q1, q2, q3, q4, q5, q6, q7, ⟨V'.cls, v3, V', v1, rfl, by rw [v4, e, hlen], K4, fun i hi => ?_, fun i hi => ?_⟩, q9⟩, hl, hc, by rw [hs, e]⟩
  · have hi' : i < cs.length := by omega
    rw [v5 i (by omega), hcv i hi']; simp [List.getD_eq_getElem?_getD, hi']
  · have hi' : i < cs.length := by omega
    simp only [List.getD_eq_getElem?_getD, List.getElem?_map, List.getElem?_eq_getElem hi', Option.map_some, Option.getD_some]
    exact fits_lo8 _
end StrChars.Road
namespace StrChars.Road
open Jvm Sem ClassFile Op Lib Jvm.Stand Jvm.Free Jvm.Free.XT
/-- WHAT COMES BACK, in the writer's own shape -/
def QV (Z : State) (x : Addr) (N : Int32) (bs : List Int32) (h : Heap) (n0 : Nat) (v : Option Value) (h' : Heap) (L : List Loc) : Prop := v = none ∧ RoadKit.Fr n0 L ∧ RoadKit.Keep h h' [x] ∧ RoadKit.Exa Z h' x ST ∧ RoadKit.Fld Z h' x ST "coder" "B" (.int 0) ∧
  ∃ (t : Addr) (kb : ClassId), n0 ≤ t ∧ h.size ≤ t ∧ ¬ t = x ∧ RoadKit.Fld Z h' x ST "value" "[B" (.ref t) ∧ RoadKit.Arv Z h' t kb .byte N (bs.map Value.int) (.int 0)
/-- **new String(chars) AT A CALL, FOR THE WRITER**: a char[] of n known ints, each 0 to 255 -/
theorem backV {p : Program} {l : Launch} {e : Env} {R : Room} {s : State} {args : Array Value} {below : List Frame} {len W : Nat} {Z : State} {a0 : Array Value} {h : Heap} (hZ : Z.Warmed39 s.vm) (hw : ∀ d ∈ words, d.before a0 Z = true) {kI : Nat} (wi : (Jvm.Cond.instantiable ST kI).before a0 Z = true)
    {x b : Addr} {kC : ClassId} {cs bs : List Int32} {d v0 c0 : Value} {z N : Int32} {n n0 : Nat} (hx0 : n0 ≤ x) (hh0 : n0 ≤ h.size) (E : RoadKit.Exa Z h x ST) (V : RoadKit.Fld Z h x ST "value" "[B" v0) (C : RoadKit.Fld Z h x ST "coder" "B" c0) (K : RoadKit.Arv Z h b kC .char N (cs.map Value.int) d) (S : RoadKit.Sta Z h ST "COMPACT_STRINGS" "Z" (.int z)) (hz : ¬ z = 0)
    (hn : cs.length = n) (hN : N = Int32.ofNat n) (l0 : 0 < n) (l2 : n ≤ 4000) (hp : ∀ c ∈ cs, ¬ c < 0 ∧ ¬ (255 : Int32) < c) (hb : bs = cs.map (fun c => c.toInt8.toInt32)) (hfr : 4 ≤ R.frames) (hlo : W + 65 ≤ R.locals) :
    Back l R p e below s args (⟨"java/lang/String", "<init>", "([C)V"⟩ : MethodName) len W (fun P a => a = #[.ref x, .ref b] ∧ P.U.heap = h ∧ P.cells + 1 ≤ R.cells ∧ P.slots + n ≤ R.slots)
      (fun P _ v B => ∃ L, QV Z x N bs h n0 v B.U.heap L ∧ B.locs = P.locs ++ L ∧ B.cells = P.cells + 1 ∧ B.slots = P.slots + n) := by
  subst hn hN hb
  refine Back.mono (backArv hZ hw wi E V C K S hz (n32 (by omega)) l0 (by omega) (fun c hc => (hp c hc).2) hfr hlo) (fun P a hp => hp) (fun P a v B hp hq => ?_)
  obtain ⟨L, ⟨q1, q2, q3, q4, q5, q6, q7, ⟨kb, v1, v2⟩, q9⟩, hl, hc, hs⟩ := hq
  exact ⟨L, ⟨q1, fun y hy => by rw [q2 y hy]; exact hx0, q3, q5, q7, h.size, kb, hh0, Nat.le_refl _, Nat.ne_of_gt E.lt, q6, by rw [List.map_map]; exact v2⟩, hl, hc, hs⟩
end StrChars.Road
namespace StrChars
open Jvm Sem ClassFile Op Lib Jvm.Stand Jvm.Free.XT Jvm.Free.ALB Jvm.Free.JM Jvm.Free
open Jvm.Lib.Cold (StaticIs)
def hi8 (x : Int32) : Int32 := lo8 (x >>> ((8 : Int32) &&& 31))
/-- what StringUTF16.getChar makes of two bytes -/
def pairCh (u v : Int32) : Int32 := (((u &&& 255) <<< ((0 : Int32) &&& 31)) ||| ((v &&& 255) <<< ((8 : Int32) &&& 31))).toUInt32.toUInt16.toUInt32.toInt32
theorem shr0 (c : Int32) : c >>> ((0 : Int32) &&& 31) = c := by
  have e : ((0 : Int32) &&& 31) = 0 := by decide
  rw [e]
  apply Int32.toBitVec_inj.mp
  rw [Int32.toBitVec_shiftRight]
  have e1 : ((0 : Int32).toBitVec.smod 32) = 0#32 := by decide
  rw [e1, BitVec.sshiftRight_eq']
  exact BitVec.sshiftRight_zero
theorem lo8_and (x : Int32) : (lo8 x &&& 255).toBitVec.toNat = x.toBitVec.toNat % 256 := by
  have h : (lo8 x).toBitVec = (x.toBitVec.signExtend 8).signExtend 32 := by rw [lo8, Int8.toBitVec_toInt32, Int32.toBitVec_toInt8]
  rw [Int32.toBitVec_and, BitVec.toNat_and, h]
  have e : ((x.toBitVec.signExtend 8).signExtend 32).toNat % 256 = x.toBitVec.toNat % 256 := by
    rw [BitVec.toNat_signExtend]
    have hlt := x.toBitVec.isLt
    simp only [BitVec.toNat_setWidth, BitVec.toNat_signExtend]
    split <;> split <;> omega
  rw [← e]
  exact Nat.and_two_pow_sub_one_eq_mod _ 8
theorem pair_says {c : Int32} (h0 : ¬ c < 0) (h1 : ¬ 65535 < c) : pairCh (lo8 c) (hi8 c) = c := by
  rw [Int32.lt_iff_toInt_lt] at h0 h1
  have e0 : (0 : Int32).toInt = 0 := rfl
  have e1 : (65535 : Int32).toInt = 65535 := rfl
  have hc : c.toInt = c.toBitVec.toNat := by
    have := c.toBitVec.isLt
    have e : c.toInt = c.toBitVec.toInt := rfl
    rw [e] at h0 h1
    rw [e]
    rw [BitVec.toInt_eq_toNat_cond] at h0 h1 ⊢
    split at h0 <;> split <;> omega
  have hn : c.toBitVec.toNat < 65536 := by omega
  have a1 := lo8_and c
  have a2 : (hi8 c &&& 255).toBitVec.toNat = c.toBitVec.toNat / 256 := by
    rw [hi8, lo8_and]
    have e : ((8 : Int32) &&& 31) = 8 := by decide
    rw [e, Int32.toBitVec_shiftRight]
    have e2 : ((8 : Int32).toBitVec.smod 32) = 8#32 := by decide
    rw [e2, BitVec.sshiftRight_eq', BitVec.toNat_sshiftRight_of_msb_false (by rw [BitVec.msb_eq_false_iff_two_mul_lt]; omega)]
    show c.toBitVec.toNat >>> 8 % 256 = _
    rw [Nat.shiftRight_eq_div_pow]
    omega
  unfold pairCh
  apply Int32.toBitVec_inj.mp
  apply BitVec.eq_of_toNat_eq
  have f0 : ((0 : Int32) &&& 31) = 0 := by decide
  have f8 : ((8 : Int32) &&& 31) = 8 := by decide
  rw [f0, f8]
  have g : (((lo8 c &&& 255) <<< (0 : Int32)) ||| ((hi8 c &&& 255) <<< (8 : Int32))).toBitVec.toNat = c.toBitVec.toNat := by
    rw [Int32.toBitVec_or, Int32.toBitVec_shiftLeft, Int32.toBitVec_shiftLeft]
    have s0 : ((0 : Int32).toBitVec.smod 32) = 0#32 := by decide
    have s8 : ((8 : Int32).toBitVec.smod 32) = 8#32 := by decide
    rw [s0, s8, BitVec.toNat_or]
    simp only [BitVec.shiftLeft_eq', BitVec.toNat_shiftLeft, a1, a2]
    show (c.toBitVec.toNat % 256) <<< 0 % 2 ^ 32 ||| (c.toBitVec.toNat / 256) <<< 8 % 2 ^ 32 = _
    rw [Nat.shiftLeft_zero, Nat.mod_eq_of_lt (show c.toBitVec.toNat % 256 < 2 ^ 32 by omega), Nat.mod_eq_of_lt (show (c.toBitVec.toNat / 256) <<< 8 < 2 ^ 32 by rw [Nat.shiftLeft_eq]; omega), Nat.or_comm, ← Nat.shiftLeft_add_eq_or_of_lt (by omega), Nat.shiftLeft_eq]
    omega
  show BitVec.toNat (((((lo8 c &&& 255) <<< (0 : Int32)) ||| ((hi8 c &&& 255) <<< (8 : Int32))).toBitVec.setWidth 16).setWidth 32) = _
  rw [BitVec.toNat_setWidth, BitVec.toNat_setWidth, g]
  omega
end StrChars
namespace StrChars
open Jvm Sem ClassFile Op Lib Jvm.Stand Jvm.Free.XT Jvm.Free.ALB Jvm.Free.JM Jvm.Free
open Jvm.Lib.Cold (StaticIs)
theorem shr1 {n : Nat} (h : 2 * n < 2 ^ 31) : Int32.ofNat (2 * n) >>> ((1 : Int32) &&& 31) = Int32.ofNat n := by
  have e : ((1 : Int32) &&& 31) = 1 := by decide
  rw [e]
  apply Int32.toBitVec_inj.mp
  rw [Int32.toBitVec_shiftRight]
  have e1 : ((1 : Int32).toBitVec.smod 32) = 1#32 := by decide
  have hm : (BitVec.ofNat 32 (2 * n)).toNat = 2 * n := by rw [BitVec.toNat_ofNat, Nat.mod_eq_of_lt (by omega)]
  rw [e1, BitVec.sshiftRight_eq']
  apply BitVec.eq_of_toNat_eq
  show ((BitVec.ofNat 32 (2 * n)).sshiftRight 1).toNat = (BitVec.ofNat 32 n).toNat
  rw [BitVec.toNat_sshiftRight_of_msb_false (by rw [BitVec.msb_eq_false_iff_two_mul_lt, hm]; omega), hm, BitVec.toNat_ofNat, Nat.shiftRight_eq_div_pow]
  omega
/-- charAt's cast of a byte read back -/
def chr8 (u : Int32) : Int32 := (u &&& 255).toUInt32.toUInt16.toUInt32.toInt32
theorem chr8_lo8 {c : Int32} (h0 : ¬ c < 0) (h1 : ¬ 255 < c) : chr8 (lo8 c) = c := by
  have t : ∀ k : Fin 256, (Int32.ofNat k.val).toUInt32.toUInt16.toUInt32.toInt32 = Int32.ofNat k.val := by decide +kernel
  unfold chr8
  rw [lo8_mask h0 h1]
  rw [Int32.lt_iff_toInt_lt] at h0 h1
  have e0 : (0 : Int32).toInt = 0 := rfl
  have e1 : (255 : Int32).toInt = 255 := rfl
  obtain ⟨k, hk⟩ : ∃ k : Nat, c.toInt = k := ⟨c.toInt.toNat, by omega⟩
  have hx : c = Int32.ofNat k := Int32.toInt_inj.mp (by rw [hk, Int32.toInt_ofNat_small (by omega)])
  rw [hx]
  exact t ⟨k, by omega⟩
theorem narrow_ch {c : Int32} (h0 : ¬ c < 0) (h1 : ¬ 65535 < c) : narrow .char (.int c) = .int c := by
  have q : narrow .char (.int (pairCh (lo8 c) (hi8 c))) = .int (pairCh (lo8 c) (hi8 c)) := narrow_c _
  rwa [pair_says h0 h1] at q
/-- the array's cell V codes the n chars f 0 .. f (n - 1) by the coder cd, as the JDK does: coder 1 just where some char is above 255 -/
def Cod (cd : Int32) (n : Nat) (f : Nat → Int32) (V : Cell) : Prop := (cd = 0 ∧ V.slots.size = n ∧ ∀ j, j < n → V.slots[j]? = some (.int (lo8 (f j))) ∧ ¬ 255 < f j) ∨ (cd = 1 ∧ V.slots.size = 2 * n ∧ (∀ j, j < n → V.slots[2 * j]? = some (.int (lo8 (f j))) ∧ V.slots[2 * j + 1]? = some (.int (hi8 (f j)))) ∧ ∃ j, j < n ∧ 255 < f j)
theorem Cod.cd {cd : Int32} {n : Nat} {f : Nat → Int32} {V : Cell} (h : Cod cd n f V) : cd = 0 ∨ cd = 1 := h.imp (fun q => q.1) fun q => q.1
theorem Cod.len {cd : Int32} {n : Nat} {f : Nat → Int32} {V : Cell} (h : Cod cd n f V) (hs : V.slots.size < 2 ^ 31) : Int32.ofNat V.slots.size >>> (cd &&& 31) = Int32.ofNat n := by
  rcases h with ⟨rfl, h, -⟩ | ⟨rfl, h, -⟩
  · rw [shr0, h]
  · rw [h, shr1 (by omega)]
/-- **x is a String of the n chars f 0 .. f (n - 1)**, Latin-1 or UTF-16; its array at t has the cell V -/
def Txt (x t : Addr) (V : Cell) (cd : Int32) (n : Nat) (f : Nat → Int32) (U : State) : Prop := Exact "java/lang/String" x U ∧ Has x "java/lang/String" "value" "[B" (.ref t) U ∧ Has x "java/lang/String" "coder" "B" (.int cd) U ∧ XT.Arr .byte t V U ∧ Cod cd n f V ∧ ∀ j, j < n → ¬ f j < 0 ∧ ¬ 65535 < f j
theorem Txt.mv {x t : Addr} {V : Cell} {cd : Int32} {n : Nat} {f : Nat → Int32} {U U' : State} (h : Txt x t V cd n f U) (hal : U.vm.Alike U'.vm) (hh : U'.heap = U.heap) : Txt x t V cd n f U' := ⟨h.1.mv hal hh, h.2.1.mv hal hh, h.2.2.1.mv hal hh, h.2.2.2.1.mv hal hh, h.2.2.2.2⟩
namespace Cdr
def yN : MethodName := ⟨"java/lang/String", "coder", "()B"⟩
abbrev yB : ByteArray := jdk_42_method_152_code
theorem d0 : decode yB 0 = .ok (.getstatic 38, 3) := by decide +kernel
theorem d3 : decode yB 3 = .ok (.ifCond (.eq) 10, 3) := by decide +kernel
theorem d6 : decode yB 6 = .ok (.aload_n 0, 1) := by decide +kernel
theorem d7 : decode yB 7 = .ok (.getfield 15, 3) := by decide +kernel
theorem d10 : decode yB 10 = .ok (.goto 4, 3) := by decide +kernel
theorem d14 : decode yB 14 = .ok (.ireturn, 1) := by decide +kernel
def site : List Cond := [.fieldLink "java/lang/String" 38 "java/lang/String" "COMPACT_STRINGS" "Z", .fieldLink "java/lang/String" 15 "java/lang/String" "coder" "B"]
def tab : Cond := tabOf yN yB 1 (some .byte) site
def P (x : Addr) (cd z : Int32) (args : Array Value) (s : State) : Prop := args = #[.ref x] ∧ Has x "java/lang/String" "coder" "B" (.int cd) s ∧ (cd = 0 ∨ cd = 1) ∧ StaticIs s "java/lang/String" "COMPACT_STRINGS" "Z" (.int z) ∧ ¬ z = 0
def E (cd : Int32) (r : Option Value) (s u : State) : Prop := XT.PureE (some (.int cd)) r s u
theorem law (l : Launch) (x : Addr) (cd z : Int32) : Law l yN 1 0 0 0 yB 1 (some .byte) site (P x cd z) (E cd) [] 0 0 := by
  refine Law.of_walk (plainFor_of_name (by decide +kernel)) (by decide +kernel) (by decide +kernel) (by decide) (fun _ _ h => by rw [h.1]; rfl) (fun _ U U' hal hh h => ⟨h.1, h.2.1.mv hal hh, h.2.2.1, h.2.2.2.1.there hal hh, h.2.2.2.2⟩) (fun r U U' V V' h1 hal h2 h => XT.PureE.mv r U U' V V' h1 hal h2 h) ?_
  intro p e s m args below meth c s₁ X0 hexec hbytes hml hret hlk hnm hown hh0 W hP
  obtain ⟨rfl, hx, hc, s1, hz⟩ := hP
  have c1 : Steps p.tables e below (s₁.setTop (entryFrame m #[.ref x] 1)) (s₁.setTop (mkF m 0 #[.val (.ref x)] [])) := entry rfl
  obtain ⟨T2, X2, q2, st2⟩ := X0.sget hexec hown (wk W (.fieldLink "java/lang/String" 38 "java/lang/String" "COMPACT_STRINGS" "Z")) s1 (fun _ _ h => by rw [hh0]; exact h) (g := (mkF m 0 #[.val (.ref x)] [])) rfl (hb hbytes d0)
  have hh2 := q2.trans hh0
  have c3 : Steps p.tables e below (s₁.setTop (entryFrame m #[.ref x] 1)) (T2.setTop (mkF m 7 #[.val (.ref x)] [.ref x])) := (c1.trans (st2 _ (Steps.refl _))).trans (by
    refine XS.ifNo X2.here hexec rfl (hb hbytes d3) rfl (i0_eq_f hz) ?_
    refine XS.aloadN X2.here hexec rfl (hb hbytes d6) rfl rfl ?_
    exact Steps.refl _)
  obtain ⟨T4, X4, q4, st4⟩ := X2.hget hexec hown (wk W (.fieldLink "java/lang/String" 15 "java/lang/String" "coder" "B")) (hx.mv X2.warmed.alike hh2) (g := (mkF m 7 #[.val (.ref x)] [.ref x])) rfl (rest := []) rfl (hb hbytes d7)
  have c5 : Steps p.tables e below (s₁.setTop (entryFrame m #[.ref x] 1)) (T4.setTop (mkF m 14 #[.val (.ref x)] [.int cd])) := (c3.trans (st4 _ (Steps.refl _))).trans (by
    refine XS.goto X4.here hexec rfl (pc0 := 10) rfl (hb hbytes d10) (by decide) rfl ?_
    exact Steps.refl _)
  exact ⟨T4, some (.int cd), _, _, _, X4, rfl, rfl, rfl, (fun h => by cases h), ⟨rfl, q4.trans hh2⟩, fun fs hl => c5.trans (X4.ireturnOut hexec hret (by rcases hc with rfl | rfl <;> rfl) (Or.inr (Or.inr (Or.inl rfl))) (hb hbytes d14) hl)⟩
end Cdr
namespace Len
def yN : MethodName := ⟨"java/lang/String", "length", "()I"⟩
abbrev yB : ByteArray := jdk_42_method_54_code
theorem d0 : decode yB 0 = .ok (.aload_n 0, 1) := by decide +kernel
theorem d1 : decode yB 1 = .ok (.getfield 9, 3) := by decide +kernel
theorem d4 : decode yB 4 = .ok (.arraylength, 1) := by decide +kernel
theorem d5 : decode yB 5 = .ok (.aload_n 0, 1) := by decide +kernel
theorem d6 : decode yB 6 = .ok (.invokevirtual 335, 3) := by decide +kernel
theorem d9 : decode yB 9 = .ok (.ishr, 1) := by decide +kernel
theorem d10 : decode yB 10 = .ok (.ireturn, 1) := by decide +kernel
def site : List Cond := [.fieldLink "java/lang/String" 9 "java/lang/String" "value" "[B", Cdr.tab] ++ virtW "java/lang/String" 335 "java/lang/String" Cdr.yN Cdr.yN
def tab : Cond := tabOf yN yB 1 (some .int) site
def P (x t : Addr) (V : Cell) (cd : Int32) (n : Nat) (f : Nat → Int32) (z : Int32) (args : Array Value) (s : State) : Prop := args = #[.ref x] ∧ Txt x t V cd n f s ∧ StaticIs s "java/lang/String" "COMPACT_STRINGS" "Z" (.int z) ∧ ¬ z = 0
def E (n : Nat) (r : Option Value) (s u : State) : Prop := XT.PureE (some (.int (Int32.ofNat n))) r s u
/-- length() of a String of n chars, in either coding -/
theorem law (l : Launch) (x t : Addr) (V : Cell) (cd : Int32) (n : Nat) (f : Nat → Int32) (z : Int32) : Law l yN 1 0 1 13 yB 1 (some .int) site (P x t V cd n f z) (E n) [] 0 0 := by
  refine Law.of_walk (plainFor_of_name (by decide +kernel)) (by decide +kernel) (by decide +kernel) (by decide) (fun _ _ h => by rw [h.1]; rfl) (fun _ U U' hal hh h => ⟨h.1, h.2.1.mv hal hh, h.2.2.1.there hal hh, h.2.2.2⟩) (fun r U U' V V' h1 hal h2 h => XT.PureE.mv r U U' V V' h1 hal h2 h) ?_
  intro p e s m args below meth c s₁ X0 hexec hbytes hml hret hlk hnm hown hh0 W hP
  obtain ⟨rfl, hx, s1, hz⟩ := hP
  have v31 := hx.2.2.2.1.2.2.2
  have c1 : Steps p.tables e below (s₁.setTop (entryFrame m #[.ref x] 1)) (s₁.setTop (mkF m 1 #[.val (.ref x)] [.ref x])) := Steps.trans (entry rfl) (by
    show Steps p.tables e below (s₁.setTop (mkF m 0 #[.val (.ref x)] [])) _
    refine XS.aloadN X0.here hexec rfl (hb hbytes d0) rfl rfl ?_
    exact Steps.refl _)
  obtain ⟨T2, X2, q2, st2⟩ := X0.hget hexec hown (wk W (.fieldLink "java/lang/String" 9 "java/lang/String" "value" "[B")) (hx.mv X0.warmed.alike hh0).2.1 (g := (mkF m 1 #[.val (.ref x)] [.ref x])) rfl (rest := []) rfl (hb hbytes d1)
  have hh2 := q2.trans hh0
  have hx2 := hx.mv X2.warmed.alike hh2
  have c3 : Steps p.tables e below (s₁.setTop (entryFrame m #[.ref x] 1)) (T2.setTop (mkF m 6 #[.val (.ref x)] [.ref x, .int (Int32.ofNat V.slots.size)])) := (c1.trans (st2 _ (Steps.refl _))).trans (by
    refine X2.alen hexec hx2.2.2.2.1 rfl rfl (hb hbytes d4) ?_
    refine XS.aloadN X2.here hexec rfl (hb hbytes d5) rfl rfl ?_
    exact Steps.refl _)
  obtain ⟨v4, T4, X4, E4, g4⟩ := X2.callV hexec (Cdr.law l x cd z) hown (wks W (virtW "java/lang/String" 335 "java/lang/String" Cdr.yN Cdr.yN)) rfl (by decide) (wk W Cdr.tab) (W := 1) (Nat.le_of_ble_eq_true rfl) (Nat.le_of_ble_eq_true rfl) (Nat.le_refl _) (Nat.le_refl _) (hx2.1.fc X2.warmed.alike) hx2.1.is (g := (mkF m 6 #[.val (.ref x)] [.ref x, .int (Int32.ofNat V.slots.size)])) rfl (by rw [hml]; rfl) c3 (argsL := []) (rest := [.int (Int32.ofNat V.slots.size)]) rfl rfl (by show 2 * 0 + (1 + 0) ≤ _; decide) (hb hbytes d6) (⟨rfl, hx2.2.2.1, hx.2.2.2.2.1.cd, s1.there X2.warmed.alike hh2, hz⟩)
  obtain ⟨rfl, q4⟩ := E4
  have c5 : Steps p.tables e below (s₁.setTop (entryFrame m #[.ref x] 1)) (T4.setTop (mkF m 10 #[.val (.ref x)] [.int (Int32.ofNat V.slots.size >>> (cd &&& 31))])) := Steps.trans g4 (by
    refine ishr X4.here hexec rfl (hb hbytes d9) rfl ?_
    exact Steps.refl _)
  rw [hx.2.2.2.2.1.len v31] at c5
  exact ⟨T4, some (.int (Int32.ofNat n)), _, _, _, X4, rfl, rfl, rfl, (fun h => by cases h), ⟨rfl, q4.trans hh2⟩, fun fs hl => c5.trans (X4.ireturnOut hexec hret rfl (Or.inl rfl) (hb hbytes d10) hl)⟩
theorem pays {l : Launch} {R : Room} {p : Program} {e : Env} {below : List Frame} {s : State} {sargs : Array Value} {len W : Nat} (x t : Addr) (V : Cell) (cd : Int32) (n : Nat) (f : Nat → Int32) (z : Int32) (htab : tab.before sargs s = true) (hfr : 2 ≤ R.frames) (hlo : W + 25 ≤ R.locals) :
    Back l R p e below s sargs yN len W (fun A₁ a₁ => A₁.cells + 0 ≤ R.cells ∧ A₁.slots + 0 ≤ R.slots ∧ P x t V cd n f z a₁ A₁.U) (fun A₁ _ v₁ B₁ => E n v₁ A₁.U B₁.U ∧ B₁.locs = A₁.locs ++ [] ∧ B₁.cells = A₁.cells + 0 ∧ B₁.slots = A₁.slots + 0) :=
  (law l x t V cd n f z).pays htab hfr (by omega)
end Len
namespace IsL
def yN : MethodName := ⟨"java/lang/String", "isLatin1", "()Z"⟩
abbrev yB : ByteArray := jdk_42_method_154_code
theorem d0 : decode yB 0 = .ok (.getstatic 38, 3) := by decide +kernel
theorem d3 : decode yB 3 = .ok (.ifCond (.eq) 14, 3) := by decide +kernel
theorem d6 : decode yB 6 = .ok (.aload_n 0, 1) := by decide +kernel
theorem d7 : decode yB 7 = .ok (.getfield 15, 3) := by decide +kernel
theorem d10 : decode yB 10 = .ok (.ifCond (.ne) 7, 3) := by decide +kernel
theorem d13 : decode yB 13 = .ok (.iconst 1, 1) := by decide +kernel
theorem d14 : decode yB 14 = .ok (.goto 4, 3) := by decide +kernel
theorem d17 : decode yB 17 = .ok (.iconst 0, 1) := by decide +kernel
theorem d18 : decode yB 18 = .ok (.ireturn, 1) := by decide +kernel
def site : List Cond := [.fieldLink "java/lang/String" 38 "java/lang/String" "COMPACT_STRINGS" "Z", .fieldLink "java/lang/String" 15 "java/lang/String" "coder" "B"]
def tab : Cond := tabOf yN yB 1 (some .boolean) site
def P (x : Addr) (cd z : Int32) (args : Array Value) (s : State) : Prop := args = #[.ref x] ∧ Has x "java/lang/String" "coder" "B" (.int cd) s ∧ (cd = 0 ∨ cd = 1) ∧ StaticIs s "java/lang/String" "COMPACT_STRINGS" "Z" (.int z) ∧ ¬ z = 0
def E (cd : Int32) (r : Option Value) (s u : State) : Prop := XT.PureE (some (.int (1 - cd))) r s u
theorem law (l : Launch) (x : Addr) (cd z : Int32) : Law l yN 1 0 0 0 yB 1 (some .boolean) site (P x cd z) (E cd) [] 0 0 := by
  refine Law.of_walk (plainFor_of_name (by decide +kernel)) (by decide +kernel) (by decide +kernel) (by decide) (fun _ _ h => by rw [h.1]; rfl) (fun _ U U' hal hh h => ⟨h.1, h.2.1.mv hal hh, h.2.2.1, h.2.2.2.1.there hal hh, h.2.2.2.2⟩) (fun r U U' V V' h1 hal h2 h => XT.PureE.mv r U U' V V' h1 hal h2 h) ?_
  intro p e s m args below meth c s₁ X0 hexec hbytes hml hret hlk hnm hown hh0 W hP
  obtain ⟨rfl, hx, hc, s1, hz⟩ := hP
  have c1 : Steps p.tables e below (s₁.setTop (entryFrame m #[.ref x] 1)) (s₁.setTop (mkF m 0 #[.val (.ref x)] [])) := entry rfl
  obtain ⟨T2, X2, q2, st2⟩ := X0.sget hexec hown (wk W (.fieldLink "java/lang/String" 38 "java/lang/String" "COMPACT_STRINGS" "Z")) s1 (fun _ _ h => by rw [hh0]; exact h) (g := (mkF m 0 #[.val (.ref x)] [])) rfl (hb hbytes d0)
  have hh2 := q2.trans hh0
  have c3 : Steps p.tables e below (s₁.setTop (entryFrame m #[.ref x] 1)) (T2.setTop (mkF m 7 #[.val (.ref x)] [.ref x])) := (c1.trans (st2 _ (Steps.refl _))).trans (by
    refine XS.ifNo X2.here hexec rfl (hb hbytes d3) rfl (i0_eq_f hz) ?_
    refine XS.aloadN X2.here hexec rfl (hb hbytes d6) rfl rfl ?_
    exact Steps.refl _)
  obtain ⟨T4, X4, q4, st4⟩ := X2.hget hexec hown (wk W (.fieldLink "java/lang/String" 15 "java/lang/String" "coder" "B")) (hx.mv X2.warmed.alike hh2) (g := (mkF m 7 #[.val (.ref x)] [.ref x])) rfl (rest := []) rfl (hb hbytes d7)
  have c5 : Steps p.tables e below (s₁.setTop (entryFrame m #[.ref x] 1)) (T4.setTop (mkF m 10 #[.val (.ref x)] [.int cd])) := c3.trans (st4 _ (Steps.refl _))
  have c6 : Steps p.tables e below (s₁.setTop (entryFrame m #[.ref x] 1)) (T4.setTop (mkF m 18 #[.val (.ref x)] [.int (1 - cd)])) := by
    rcases hc with rfl | rfl
    · exact c5.trans (by
        refine XS.ifNo X4.here hexec rfl (hb hbytes d10) rfl (i0_ne_f rfl) ?_
        refine iconstV X4.here hexec rfl 1 (hb hbytes d13) (by decide) ?_
        refine XS.goto X4.here hexec rfl (pc0 := 14) rfl (hb hbytes d14) (by decide) rfl ?_
        exact Steps.refl _)
    · exact c5.trans (by
        refine XS.ifYes X4.here hexec rfl (pc0 := 10) rfl (hb hbytes d10) rfl (i0_ne_t (by decide)) (by decide) rfl ?_
        refine iconstV X4.here hexec rfl 0 (hb hbytes d17) (by decide) ?_
        exact Steps.refl _)
  exact ⟨T4, some (.int (1 - cd)), _, _, _, X4, rfl, rfl, rfl, (fun h => by cases h), ⟨rfl, q4.trans hh2⟩, fun fs hl => c6.trans (X4.ireturnOut hexec hret (by rcases hc with rfl | rfl <;> rfl) (Or.inr (Or.inl rfl)) (hb hbytes d18) hl)⟩
end IsL
namespace LChA
def yN : MethodName := ⟨"java/lang/StringLatin1", "charAt", "([BI)C"⟩
abbrev yB : ByteArray := jdk_43_method_2_code
theorem d0 : decode yB 0 = .ok (.iload_n 1, 1) := by decide +kernel
theorem d1 : decode yB 1 = .ok (.aload_n 0, 1) := by decide +kernel
theorem d2 : decode yB 2 = .ok (.arraylength, 1) := by decide +kernel
theorem d3 : decode yB 3 = .ok (.invokestatic 9, 3) := by decide +kernel
theorem d6 : decode yB 6 = .ok (.aload_n 0, 1) := by decide +kernel
theorem d7 : decode yB 7 = .ok (.iload_n 1, 1) := by decide +kernel
theorem d8 : decode yB 8 = .ok (.baload, 1) := by decide +kernel
theorem d9 : decode yB 9 = .ok (.sipush 255, 3) := by decide +kernel
theorem d12 : decode yB 12 = .ok (.iand, 1) := by decide +kernel
theorem d13 : decode yB 13 = .ok (.i2c, 1) := by decide +kernel
theorem d14 : decode yB 14 = .ok (.ireturn, 1) := by decide +kernel
def site : List Cond := [JO.Str_checkIndex.tab] ++ staticW "java/lang/StringLatin1" 9 JO.Str_checkIndex.yN
def tab : Cond := tabOf yN yB 2 (some .char) site
def P (t : Addr) (V : Cell) (i : Nat) (u : Int32) (fm : Value) (args : Array Value) (s : State) : Prop := args = #[.ref t, .int (Int32.ofNat i)] ∧ XT.Arr .byte t V s ∧ V.slots[i]? = some (.int u) ∧ (StaticIs s "jdk/internal/util/Preconditions" "SIOOBE_FORMATTER" "Ljava/util/function/BiFunction;" fm ∧ fm.isRef = true)
def E (u : Int32) (r : Option Value) (s w : State) : Prop := XT.PureE (some (.int (chr8 u))) r s w
theorem law (l : Launch) (t : Addr) (V : Cell) (i : Nat) (u : Int32) (fm : Value) : Law l yN 2 2 2 27 yB 2 (some .char) site (P t V i u fm) (E u) [] 0 0 := by
  refine Law.of_walk (plainFor_of_name (by decide +kernel)) (by decide +kernel) (by decide +kernel) (by decide) (fun _ _ h => by rw [h.1]; rfl) (fun _ U U' hal hh h => ⟨h.1, h.2.1.mv hal hh, h.2.2.1, h.2.2.2.1.there hal hh, h.2.2.2.2⟩) (fun r U U' V V' h1 hal h2 h => XT.PureE.mv r U U' V V' h1 hal h2 h) ?_
  intro p e s m args below meth c s₁ X0 hexec hbytes hml hret hlk hnm hown hh0 W hP
  obtain ⟨rfl, hV, hu, s1, rf⟩ := hP
  have v31 := hV.2.2.2
  have hi : i < V.slots.size := (Array.getElem?_eq_some_iff.mp hu).1
  have c1 : Steps p.tables e below (s₁.setTop (entryFrame m #[.ref t, .int (Int32.ofNat i)] 2)) (s₁.setTop (mkF m 0 #[.val (.ref t), .val (.int (Int32.ofNat i))] [])) := entry rfl
  have c2 : Steps p.tables e below (s₁.setTop (entryFrame m #[.ref t, .int (Int32.ofNat i)] 2)) (s₁.setTop (mkF m 3 #[.val (.ref t), .val (.int (Int32.ofNat i))] [.int (Int32.ofNat V.slots.size), .int (Int32.ofNat i)])) := c1.trans (by
    refine XS.iloadN X0.here hexec rfl (hb hbytes d0) rfl ?_
    refine XS.aloadN X0.here hexec rfl (hb hbytes d1) rfl rfl ?_
    refine X0.alen hexec (hV.mv X0.warmed.alike hh0) rfl rfl (hb hbytes d2) ?_
    exact Steps.refl _)
  obtain ⟨v3, T3, X3, E3, g3⟩ := X0.callS hexec (JO.Str_checkIndex.law l (Int32.ofNat i) (Int32.ofNat V.slots.size) fm) hown (wks W (staticW "java/lang/StringLatin1" 9 JO.Str_checkIndex.yN)) (wk W JO.Str_checkIndex.tab) (W := 0) (Nat.le_of_ble_eq_true rfl) (Nat.le_of_ble_eq_true rfl) (Nat.le_refl _) (Nat.le_refl _) (g := (mkF m 3 #[.val (.ref t), .val (.int (Int32.ofNat i))] [.int (Int32.ofNat V.slots.size), .int (Int32.ofNat i)])) rfl (by rw [hml]; rfl) c2 (argsL := [.int (Int32.ofNat i), .int (Int32.ofNat V.slots.size)]) (rest := []) rfl rfl (by show 2 * 0 + 0 ≤ _; decide) (hb hbytes d3) (⟨rfl, rf, s1.there X0.warmed.alike hh0, Int32.ofNat_not_neg (by omega), lt32 v31 hi⟩)
  obtain ⟨rfl, q3⟩ := E3
  have hh3 := q3.trans hh0
  have c4 : Steps p.tables e below (s₁.setTop (entryFrame m #[.ref t, .int (Int32.ofNat i)] 2)) (T3.setTop (mkF m 14 #[.val (.ref t), .val (.int (Int32.ofNat i))] [.int (chr8 u)])) := Steps.trans g3 (by
    refine XS.aloadN X3.here hexec rfl (hb hbytes d6) rfl rfl ?_
    refine XS.iloadN X3.here hexec rfl (hb hbytes d7) rfl ?_
    refine X3.aget hexec (hV.mv X3.warmed.alike hh3) rfl hu rfl rfl (hb hbytes d8) ?_
    refine sipushV X3.here hexec rfl 255 (hb hbytes d9) (by decide) ?_
    refine XS.iand X3.here hexec rfl (hb hbytes d12) rfl ?_
    refine i2c X3.here hexec rfl (hb hbytes d13) rfl ?_
    exact Steps.refl _)
  exact ⟨T3, some (.int (chr8 u)), _, _, _, X3, rfl, rfl, rfl, (fun h => by cases h), ⟨rfl, hh3⟩, fun fs hl => c4.trans (X3.ireturnOut hexec hret (narrow_c _) (Or.inr (Or.inr (Or.inr (Or.inl rfl)))) (hb hbytes d14) hl)⟩
end LChA
end StrChars
namespace StrChars.Road
open Jvm Sem ClassFile Op Lib Jvm.Stand Jvm.Free Jvm.Free.XT
open Jvm.Lib.Cold (StaticIs)
theorem consq {a : Array Value} {s : State} {c : Jvm.Cond} {L : List Jvm.Cond} (h0 : c.before a s = true) (h : ∀ w ∈ L, w.before a s = true) : ∀ w ∈ c :: L, w.before a s = true := fun w hw => (List.mem_cons.mp hw).elim (fun e => e ▸ h0) (h w)
/-- the words of String.length(), either coding -/
abbrev wordsLen : List Jvm.Cond := [.code Len.yN Len.yB 1 (some .int), .initialized ST, .fieldLink ST 9 ST "value" "[B", .fieldLink ST 38 ST "COMPACT_STRINGS" "Z", .fieldLink ST 15 ST "coder" "B", .code Cdr.yN Cdr.yB 1 (some .byte), .methodLink ST 335 Cdr.yN, .declares Cdr.yN, .selects ST Cdr.yN Cdr.yN, .instanceMethod Cdr.yN]
theorem tabLen_of {a : Array Value} {s : State} (h : ∀ w ∈ wordsLen, w.before a s = true) : Len.tab.before a s = true := by
  have hc : Cdr.tab.before a s = true := unparts (wk h (.code Cdr.yN Cdr.yB 1 (some .byte))) (wks h (.initialized Cdr.yN.cls :: Cdr.site))
  have q := consq hc h
  exact unparts (wk q (.code Len.yN Len.yB 1 (some .int))) (wks q (.initialized Len.yN.cls :: Len.site))
theorem movedLen {Z s : State} {a0 args : Array Value} (hZ : Z.Warmed39 s.vm) (hw : ∀ d ∈ wordsLen, d.before a0 Z = true) : ∀ d ∈ wordsLen, d.before args s = true := fun d hd => by
  have q := hw d hd
  have t : ∀ d ∈ wordsLen, d = .arrayClass .byte ∨ (d.onTables && d.keepsFace) = true := by decide +kernel
  rcases t d hd with rfl | t
  · exact RoadKit.mvA hZ q
  · exact RoadKit.mv hZ q t
/-- the bytes of the chars cs, low before high -/
def wideBytes : List Int32 → List Value
  | [] => []
  | c :: cs => .int (lo8 c) :: .int (hi8 c) :: wideBytes cs
theorem wide_lo (d : Value) : ∀ (cs : List Int32) (j : Nat), j < cs.length → (wideBytes cs).getD (2 * j) d = .int (lo8 (cs.getD j 0))
  | [], j, h => absurd h (Nat.not_lt_zero j)
  | c :: cs, 0, _ => rfl
  | c :: cs, j + 1, h => by
    have q := wide_lo d cs j (by simpa using h)
    rw [show 2 * (j + 1) = 2 * j + 1 + 1 from by omega]
    simpa [wideBytes] using q
theorem wide_hi (d : Value) : ∀ (cs : List Int32) (j : Nat), j < cs.length → (wideBytes cs).getD (2 * j + 1) d = .int (hi8 (cs.getD j 0))
  | [], j, h => absurd h (Nat.not_lt_zero j)
  | c :: cs, 0, _ => rfl
  | c :: cs, j + 1, h => by
    have q := wide_hi d cs j (by simpa using h)
    rw [show 2 * (j + 1) + 1 = 2 * j + 1 + 1 + 1 from by omega]
    simpa [wideBytes] using q
theorem low_at (d : Value) (cs : List Int32) (j : Nat) (h : j < cs.length) : (cs.map fun c => Value.int (lo8 c)).getD j d = .int (lo8 (cs.getD j 0)) := by
  simp [List.getD_eq_getElem?_getD, h]
/-- an array of N2 bytes vs codes the chars cs by the coder cd -/
def CodA (cs : List Int32) (cd N2 : Int32) (vs : List Value) : Prop := (cd = 0 ∧ N2 = Int32.ofNat cs.length ∧ vs = (cs.map fun c => Value.int (lo8 c)) ∧ ∀ c ∈ cs, ¬ 255 < c) ∨ (cd = 1 ∧ N2 = Int32.ofNat (2 * cs.length) ∧ vs = wideBytes cs ∧ ∃ c ∈ cs, 255 < c)
theorem CodA.cod {cs : List Int32} {cd N2 : Int32} {vs : List Value} {V : Cell} (h : CodA cs cd N2 vs) (hn : 2 * cs.length < 2 ^ 31) (hs : V.slots.size = N2.toNatClampNeg) (hv : RoadKit.Has V vs (.int 0)) : Cod cd cs.length (fun j => cs.getD j 0) V := by
  rcases h with ⟨rfl, rfl, rfl, h⟩ | ⟨rfl, rfl, rfl, c, hc, hw⟩
  · rw [n32 (by omega)] at hs
    exact Or.inl ⟨rfl, hs, fun j hj => ⟨by rw [hv j (by omega), low_at _ _ _ hj], by
      have e : cs.getD j 0 = cs[j] := by simp [List.getD_eq_getElem?_getD, hj]
      show ¬ 255 < cs.getD j 0
      rw [e]; exact h _ (List.getElem_mem _)⟩⟩
  · rw [n32 (by omega)] at hs
    obtain ⟨j, hj, rfl⟩ := List.getElem_of_mem hc
    exact Or.inr ⟨rfl, hs, fun j hj => ⟨by rw [hv _ (by omega), wide_lo _ _ _ hj], by rw [hv _ (by omega), wide_hi _ _ _ hj]⟩, j, hj, by
      have e : cs.getD j 0 = cs[j] := by simp [List.getD_eq_getElem?_getD, hj]
      show 255 < cs.getD j 0
      rw [e]; exact hw⟩
/-- an object of exactly java/lang/String, its two fields found: as the laws ask it -/
theorem strObj {Z U : State} {a0 : Array Value} {kI : Nat} (wi : (Jvm.Cond.instantiable ST kI).before a0 Z = true) (al : Z.vm.Alike U.vm) {x : Addr} {v0 c0 : Value} (E : RoadKit.Exa Z U.heap x ST) (V : RoadKit.Fld Z U.heap x ST "value" "[B" v0) (C : RoadKit.Fld Z U.heap x ST "coder" "B" c0) :
    ∃ (D : Cell) (fV fC : Field), Blank ST x D U ∧ Found ST "value" "[B" fV U ∧ Found ST "coder" "B" fC U ∧ D.slots[fV.slot]? = some v0 ∧ D.slots[fC.slot]? = some c0 ∧ RoadKit.slotOf Z ST "value" "[B" = fV.slot ∧ RoadKit.slotOf Z ST "coder" "B" = fC.slot := by
  obtain ⟨D, cfV, kV, iV, fV, hD, gV, stV, knV, obV, asV, slV⟩ := V
  obtain ⟨D', cfC, kC, iC, fC, hD', gC, stC, -, -, asC, slC⟩ := C
  cases hD.symm.trans hD'
  obtain ⟨D2, kD, e1, e2, e3, e4, e5⟩ := E
  cases hD.symm.trans e1
  obtain ⟨c2, k2, i1, i2, i3, -⟩ := Cond.instantiable_spec wi
  cases e2.symm.trans i1
  cases e3.symm.trans i2
  obtain ⟨kU, u1, u2⟩ := al.2.2 _ _ e3
  exact ⟨D, fV, fC, ⟨hD, ⟨knV, fun q hq => by rw [hq] at obV; cases obV⟩, by rw [al.findClass]; exact e2, kU, u1, by rw [u2]; exact i3, by rw [u2]; exact e5 i3⟩, ⟨SBG.found_only al ⟨cfV, kV, iV, gV⟩, stV⟩, ⟨SBG.found_only al ⟨cfC, kC, iC, gC⟩, stC⟩, slV, slC, by simp [RoadKit.slotOf, gV], by simp [RoadKit.slotOf, gC]⟩
theorem sta_is {Z U : State} (al : Z.vm.Alike U.vm) {C n d : String} {v : Value} (S : RoadKit.Sta Z U.heap C n d v) : StaticIs U C n d v := by
  obtain ⟨cfS, iS, kS, fS, st, cS, t1, t2, t3, t4, t5, t6, t7⟩ := S
  exact StaticIs.there (s := { Z with heap := U.heap }) ⟨cfS, iS, kS, fS, st, cS, t1, t2, t3, t4, t5, (fun q => by rw [q] at t6; cases t6), t7⟩ al rfl
/-- **length() OF SUCH A STRING** -/
theorem lenW {p : Program} {l : Launch} {e : Env} {R : Room} {s : State} {args : Array Value} {below : List Frame} {len W : Nat} {Z : State} {a0 : Array Value} {h : Heap} (hZ : Z.Warmed39 s.vm) (hw : ∀ d ∈ wordsLen, d.before a0 Z = true) {kI : Nat} (wi : (Jvm.Cond.instantiable ST kI).before a0 Z = true)
    {x t : Addr} {kb : ClassId} {cs : List Int32} {cd N2 z : Int32} {vs : List Value} (E : RoadKit.Exa Z h x ST) (V : RoadKit.Fld Z h x ST "value" "[B" (.ref t)) (C : RoadKit.Fld Z h x ST "coder" "B" (.int cd)) (K : RoadKit.Arv Z h t kb .byte N2 vs (.int 0)) (hc : CodA cs cd N2 vs) (hb : ∀ c ∈ cs, ¬ c < 0 ∧ ¬ (65535 : Int32) < c)
    (S : RoadKit.Sta Z h ST "COMPACT_STRINGS" "Z" (.int z)) (hz : ¬ z = 0) (l2 : cs.length ≤ 4000) (hfr : 2 ≤ R.frames) (hlo : W + 25 ≤ R.locals) :
    Back l R p e below s args (⟨"java/lang/String", "length", "()I"⟩ : MethodName) len W (fun P a => a = #[.ref x] ∧ P.U.heap = h ∧ P.cells + 0 ≤ R.cells ∧ P.slots + 0 ≤ R.slots)
      (fun P _ v B => ∃ L, (v = some (.int (Int32.ofNat cs.length)) ∧ L = [] ∧ B.U.heap = h) ∧ B.locs = P.locs ++ L ∧ B.cells = P.cells + 0 ∧ B.slots = P.slots + 0) := by
  obtain ⟨A, K1, K2, K3, K4, K5, K6⟩ := K
  have hcod := hc.cod (by omega) K3 K5
  intro m meth c P g ig mk a X hg hsize hdg hW hn hp'
  obtain ⟨rfl, rfl, r1, r2⟩ := hp'
  have al : Z.vm.Alike P.U.vm := hZ.alike.trans X.warmed.alike
  obtain ⟨D, fV, fC, hB, F1, F2, g1, g2, -, -⟩ := strObj wi al E V C
  have hx : Txt x t A cd cs.length (fun j => cs.getD j 0) P.U := ⟨⟨_, hB.2.2.1, D, hB.1, rfl, by cases q : D.vm <;> first | rfl | exact absurd q (hB.2.1.2 _)⟩, Has.of hB F1 g1, Has.of hB F2 g2, ⟨K1.1, State.isArrayOf_alike al K1.2.1, K1.2.2, by rcases hcod with ⟨-, q, -⟩ | ⟨-, q, -⟩ <;> omega⟩, hcod, fun j hj => by
    have e : cs.getD j 0 = cs[j] := by simp [List.getD_eq_getElem?_getD, hj]
    show ¬ cs.getD j 0 < 0 ∧ ¬ 65535 < cs.getD j 0
    rw [e]; exact hb _ (List.getElem_mem _)⟩
  obtain ⟨v, B, X', ⟨⟨hv, hh⟩, hl, hk, hs⟩, st⟩ := Len.pays x t A cd cs.length (fun j => cs.getD j 0) z (tabLen_of (movedLen hZ hw)) hfr hlo m meth c P g ig mk _ X hg hsize hdg hW hn ⟨r1, r2, rfl, hx, sta_is al S, hz⟩
  exact ⟨v, B, X', ⟨[], ⟨hv, rfl, hh⟩, hl, hk, hs⟩, st⟩
end StrChars.Road
namespace StrChars.Road
open Jvm Sem ClassFile Op Lib Jvm.Stand Jvm.Free Jvm.Free.XT
open Jvm.Lib.Cold (StaticIs)
/-- the road's facts of a String, as the laws ask it -/
theorem txt_of {Z U : State} {a0 : Array Value} {kI : Nat} (wi : (Jvm.Cond.instantiable ST kI).before a0 Z = true) (al : Z.vm.Alike U.vm) {x t : Addr} {kb : ClassId} {cs : List Int32} {cd N2 : Int32} {vs : List Value} (E : RoadKit.Exa Z U.heap x ST) (V : RoadKit.Fld Z U.heap x ST "value" "[B" (.ref t)) (C : RoadKit.Fld Z U.heap x ST "coder" "B" (.int cd)) (K : RoadKit.Arv Z U.heap t kb .byte N2 vs (.int 0)) (hc : CodA cs cd N2 vs) (hb : ∀ c ∈ cs, ¬ c < 0 ∧ ¬ (65535 : Int32) < c) (l2 : cs.length ≤ 4000) :
    ∃ A, Txt x t A cd cs.length (fun j => cs.getD j 0) U := by
  obtain ⟨A, K1, K2, K3, K4, K5, K6⟩ := K
  have hcod := hc.cod (by omega) K3 K5
  obtain ⟨D, fV, fC, hB, F1, F2, g1, g2, -, -⟩ := strObj wi al E V C
  exact ⟨A, ⟨_, hB.2.2.1, D, hB.1, rfl, by cases q : D.vm <;> first | rfl | exact absurd q (hB.2.1.2 _)⟩, Has.of hB F1 g1, Has.of hB F2 g2, ⟨K1.1, State.isArrayOf_alike al K1.2.1, K1.2.2, by rcases hcod with ⟨-, q, -⟩ | ⟨-, q, -⟩ <;> omega⟩, hcod, fun j hj => by
    have e : cs.getD j 0 = cs[j] := by simp [List.getD_eq_getElem?_getD, hj]
    show ¬ cs.getD j 0 < 0 ∧ ¬ 65535 < cs.getD j 0
    rw [e]; exact hb _ (List.getElem_mem _)⟩
end StrChars.Road
namespace StrChars
open Jvm Sem ClassFile Op Lib Jvm.Stand Jvm.Free.XT Jvm.Free.ALB Jvm.Free.JM Jvm.Free
open Jvm.Lib.Cold (StaticIs)
namespace ChN
def yN : MethodName := ⟨"java/lang/String", "charAt", "(I)C"⟩
abbrev yB : ByteArray := jdk_42_method_56_code
theorem d0 : decode yB 0 = .ok (.aload_n 0, 1) := by decide +kernel
theorem d1 : decode yB 1 = .ok (.invokevirtual 492, 3) := by decide +kernel
theorem d4 : decode yB 4 = .ok (.ifCond (.eq) 12, 3) := by decide +kernel
theorem d7 : decode yB 7 = .ok (.aload_n 0, 1) := by decide +kernel
theorem d8 : decode yB 8 = .ok (.getfield 9, 3) := by decide +kernel
theorem d11 : decode yB 11 = .ok (.iload_n 1, 1) := by decide +kernel
theorem d12 : decode yB 12 = .ok (.invokestatic 495, 3) := by decide +kernel
theorem d15 : decode yB 15 = .ok (.ireturn, 1) := by decide +kernel
def site : List Cond := [.fieldLink "java/lang/String" 9 "java/lang/String" "value" "[B", IsL.tab, LChA.tab] ++ virtW "java/lang/String" 492 "java/lang/String" IsL.yN IsL.yN ++ staticW "java/lang/String" 495 LChA.yN
def tab : Cond := tabOf yN yB 2 (some .char) site
def P (x t : Addr) (V : Cell) (n : Nat) (f : Nat → Int32) (z : Int32) (fm : Value) (i : Nat) (args : Array Value) (s : State) : Prop := args = #[.ref x, .int (Int32.ofNat i)] ∧ Txt x t V 0 n f s ∧ i < n ∧ StaticIs s "java/lang/String" "COMPACT_STRINGS" "Z" (.int z) ∧ ¬ z = 0 ∧ StaticIs s "jdk/internal/util/Preconditions" "SIOOBE_FORMATTER" "Ljava/util/function/BiFunction;" fm ∧ fm.isRef = true
def E (f : Nat → Int32) (i : Nat) (r : Option Value) (s u : State) : Prop := XT.PureE (some (.int (f i))) r s u
/-- charAt(i) of a Latin-1 String of n chars, i < n: f i -/
theorem law (l : Launch) (x t : Addr) (V : Cell) (n : Nat) (f : Nat → Int32) (z : Int32) (fm : Value) (i : Nat) : Law l yN 2 1 3 40 yB 2 (some .char) site (P x t V n f z fm i) (E f i) [] 0 0 := by
  refine Law.of_walk (plainFor_of_name (by decide +kernel)) (by decide +kernel) (by decide +kernel) (by decide) (fun _ _ h => by rw [h.1]; rfl) (fun _ U U' hal hh h => ⟨h.1, h.2.1.mv hal hh, h.2.2.1, h.2.2.2.1.there hal hh, h.2.2.2.2.1, h.2.2.2.2.2.1.there hal hh, h.2.2.2.2.2.2⟩) (fun r U U' V V' h1 hal h2 h => XT.PureE.mv r U U' V V' h1 hal h2 h) ?_
  intro p e s m args below meth c s₁ X0 hexec hbytes hml hret hlk hnm hown hh0 W hP
  obtain ⟨rfl, hx, hi, s1, hz, s3, rf⟩ := hP
  have v31 := hx.2.2.2.1.2.2.2
  have hr := hx.2.2.2.2.2 i hi
  have hx0 := hx.mv X0.warmed.alike hh0
  have c1 : Steps p.tables e below (s₁.setTop (entryFrame m #[.ref x, .int (Int32.ofNat i)] 2)) (s₁.setTop (mkF m 1 #[.val (.ref x), .val (.int (Int32.ofNat i))] [.ref x])) := Steps.trans (entry rfl) (by
    show Steps p.tables e below (s₁.setTop (mkF m 0 #[.val (.ref x), .val (.int (Int32.ofNat i))] [])) _
    refine XS.aloadN X0.here hexec rfl (hb hbytes d0) rfl rfl ?_
    exact Steps.refl _)
  obtain ⟨v2, T2, X2, E2, g2⟩ := X0.callV hexec (IsL.law l x 0 z) hown (wks W (virtW "java/lang/String" 492 "java/lang/String" IsL.yN IsL.yN)) rfl (by decide) (wk W IsL.tab) (W := 0) (Nat.le_of_ble_eq_true rfl) (Nat.le_of_ble_eq_true rfl) (Nat.le_refl _) (Nat.le_refl _) (hx0.1.fc X0.warmed.alike) hx0.1.is (g := (mkF m 1 #[.val (.ref x), .val (.int (Int32.ofNat i))] [.ref x])) rfl (by rw [hml]; rfl) c1 (argsL := []) (rest := []) rfl rfl (by show 2 * 0 + 0 ≤ _; decide) (hb hbytes d1) (⟨rfl, hx0.2.2.1, hx.2.2.2.2.1.cd, s1.there X0.warmed.alike hh0, hz⟩)
  obtain ⟨rfl, q2⟩ := E2
  have hh2 := q2.trans hh0
  have hx2 := hx.mv X2.warmed.alike hh2
  obtain ⟨-, k1, k2⟩ | ⟨k0, -⟩ := hx.2.2.2.2.1
  · have c3 : Steps p.tables e below (s₁.setTop (entryFrame m #[.ref x, .int (Int32.ofNat i)] 2)) (T2.setTop (mkF m 8 #[.val (.ref x), .val (.int (Int32.ofNat i))] [.ref x])) := Steps.trans g2 (by
      refine XS.ifNo X2.here hexec rfl (hb hbytes d4) rfl (i0_eq_f (by decide)) ?_
      refine XS.aloadN X2.here hexec rfl (hb hbytes d7) rfl rfl ?_
      exact Steps.refl _)
    obtain ⟨T4, X4, q4, st4⟩ := X2.hget hexec hown (wk W (.fieldLink "java/lang/String" 9 "java/lang/String" "value" "[B")) hx2.2.1 (g := (mkF m 8 #[.val (.ref x), .val (.int (Int32.ofNat i))] [.ref x])) rfl (rest := []) rfl (hb hbytes d8)
    have hh4 := q4.trans hh2
    have c5 : Steps p.tables e below (s₁.setTop (entryFrame m #[.ref x, .int (Int32.ofNat i)] 2)) (T4.setTop (mkF m 12 #[.val (.ref x), .val (.int (Int32.ofNat i))] [.int (Int32.ofNat i), .ref t])) := (c3.trans (st4 _ (Steps.refl _))).trans (by
      refine XS.iloadN X4.here hexec rfl (hb hbytes d11) rfl ?_
      exact Steps.refl _)
    obtain ⟨v6, T6, X6, E6, g6⟩ := X4.callS hexec (LChA.law l t V i (lo8 (f i)) fm) hown (wks W (staticW "java/lang/String" 495 LChA.yN)) (wk W LChA.tab) (W := 0) (Nat.le_of_ble_eq_true rfl) (Nat.le_of_ble_eq_true rfl) (Nat.le_refl _) (Nat.le_refl _) (g := (mkF m 12 #[.val (.ref x), .val (.int (Int32.ofNat i))] [.int (Int32.ofNat i), .ref t])) rfl (by rw [hml]; rfl) c5 (argsL := [.ref t, .int (Int32.ofNat i)]) (rest := []) rfl rfl (by show 2 * 0 + 0 ≤ _; decide) (hb hbytes d12) (⟨rfl, hx.2.2.2.1.mv X4.warmed.alike hh4, (k2 i hi).1, s3.there X4.warmed.alike hh4, rf⟩)
    obtain ⟨rfl, q6⟩ := E6
    rw [chr8_lo8 hr.1 (k2 i hi).2] at g6
    exact ⟨T6, some (.int (f i)), _, _, _, X6, rfl, rfl, rfl, (fun h => by cases h), ⟨rfl, q6.trans hh4⟩, fun fs hl => Steps.trans g6 (X6.ireturnOut hexec hret (narrow_ch hr.1 hr.2) (Or.inr (Or.inr (Or.inr (Or.inl rfl)))) (hb hbytes d15) hl)⟩
  · exact absurd k0 (by decide)
theorem pays {l : Launch} {R : Room} {p : Program} {e : Env} {below : List Frame} {s : State} {sargs : Array Value} {len W : Nat} (x t : Addr) (V : Cell) (n : Nat) (f : Nat → Int32) (z : Int32) (fm : Value) (i : Nat) (htab : tab.before sargs s = true) (hfr : 4 ≤ R.frames) (hlo : W + 53 ≤ R.locals) :
    Back l R p e below s sargs yN len W (fun A₁ a₁ => A₁.cells + 0 ≤ R.cells ∧ A₁.slots + 0 ≤ R.slots ∧ P x t V n f z fm i a₁ A₁.U) (fun A₁ _ v₁ B₁ => E f i v₁ A₁.U B₁.U ∧ B₁.locs = A₁.locs ++ [] ∧ B₁.cells = A₁.cells + 0 ∧ B₁.slots = A₁.slots + 0) :=
  (law l x t V n f z fm i).pays htab hfr (by omega)
end ChN
end StrChars
namespace StrChars.Road
open Jvm Sem ClassFile Op Lib Jvm.Stand Jvm.Free Jvm.Free.XT
open Jvm.Lib.Cold (StaticIs)
/-- the words of String.charAt(int), the Latin-1 road alone -/
abbrev wordsChN : List Jvm.Cond := [.code ChN.yN ChN.yB 2 (some .char), .initialized ST, .fieldLink ST 9 ST "value" "[B", .fieldLink ST 38 ST "COMPACT_STRINGS" "Z", .fieldLink ST 15 ST "coder" "B", .code IsL.yN IsL.yB 1 (some .boolean), .methodLink ST 492 IsL.yN, .declares IsL.yN, .selects ST IsL.yN IsL.yN, .instanceMethod IsL.yN,
  .methodLink ST 495 LChA.yN, .static LChA.yN, .code LChA.yN LChA.yB 2 (some .char), .initialized "java/lang/StringLatin1", .methodLink "java/lang/StringLatin1" 9 JO.Str_checkIndex.yN, .static JO.Str_checkIndex.yN, .code JO.Str_checkIndex.yN JO.Str_checkIndex.yB 2 none,
  .fieldLink ST 1053 "jdk/internal/util/Preconditions" "SIOOBE_FORMATTER" "Ljava/util/function/BiFunction;", .methodLink ST 1059 JC.PreCheck.yN, .static JC.PreCheck.yN, .code JC.PreCheck.yN JC.PreCheck.yB 3 (some .int), .initialized "jdk/internal/util/Preconditions"]
theorem tabChN_of {a : Array Value} {s : State} (h : ∀ w ∈ wordsChN, w.before a s = true) : ChN.tab.before a s = true := by
  have hp : JC.PreCheck.tab.before a s = true := unparts (wk h (.code JC.PreCheck.yN JC.PreCheck.yB 3 (some .int))) (wks h (.initialized JC.PreCheck.yN.cls :: JC.PreCheck.site))
  have qk := consq hp h
  have hk : JO.Str_checkIndex.tab.before a s = true := unparts (wk qk (.code JO.Str_checkIndex.yN JO.Str_checkIndex.yB 2 none)) (wks qk (.initialized JO.Str_checkIndex.yN.cls :: JO.Str_checkIndex.site))
  have ql := consq hk h
  have hl : LChA.tab.before a s = true := unparts (wk ql (.code LChA.yN LChA.yB 2 (some .char))) (wks ql (.initialized LChA.yN.cls :: LChA.site))
  have hi : IsL.tab.before a s = true := unparts (wk h (.code IsL.yN IsL.yB 1 (some .boolean))) (wks h (.initialized IsL.yN.cls :: IsL.site))
  have q := consq hi (consq hl h)
  exact unparts (wk q (.code ChN.yN ChN.yB 2 (some .char))) (wks q (.initialized ChN.yN.cls :: ChN.site))
theorem movedChN {Z s : State} {a0 args : Array Value} (hZ : Z.Warmed39 s.vm) (hw : ∀ d ∈ wordsChN, d.before a0 Z = true) : ∀ d ∈ wordsChN, d.before args s = true := fun d hd => by
  have t : ∀ d ∈ wordsChN, (d.onTables && d.keepsFace) = true := by decide +kernel
  exact RoadKit.mv hZ (hw d hd) (t d hd)
/-- **charAt(i) OF A LATIN-1 STRING**, i < n: the char -/
theorem chN {p : Program} {l : Launch} {e : Env} {R : Room} {s : State} {args : Array Value} {below : List Frame} {len W : Nat} {Z : State} {a0 : Array Value} {h : Heap} (hZ : Z.Warmed39 s.vm) (hw : ∀ d ∈ wordsChN, d.before a0 Z = true) {kI : Nat} (wi : (Jvm.Cond.instantiable ST kI).before a0 Z = true)
    {x t : Addr} {kb : ClassId} {cs : List Int32} {N2 z : Int32} {vs : List Value} {fm : Value} {i : Nat} {j : Int32} (E : RoadKit.Exa Z h x ST) (V : RoadKit.Fld Z h x ST "value" "[B" (.ref t)) (C : RoadKit.Fld Z h x ST "coder" "B" (.int 0)) (K : RoadKit.Arv Z h t kb .byte N2 vs (.int 0)) (hc : CodA cs 0 N2 vs) (hb : ∀ c ∈ cs, ¬ c < 0 ∧ ¬ (65535 : Int32) < c)
    (S : RoadKit.Sta Z h ST "COMPACT_STRINGS" "Z" (.int z)) (hz : ¬ z = 0) (F : RoadKit.Sta Z h "jdk/internal/util/Preconditions" "SIOOBE_FORMATTER" "Ljava/util/function/BiFunction;" fm) (rf : fm.isRef = true) (l2 : cs.length ≤ 4000) (hi : i < cs.length) (hj : j = Int32.ofNat i) (hfr : 4 ≤ R.frames) (hlo : W + 53 ≤ R.locals) :
    Back l R p e below s args (⟨"java/lang/String", "charAt", "(I)C"⟩ : MethodName) len W (fun P a => a = #[.ref x, .int j] ∧ P.U.heap = h ∧ P.cells + 0 ≤ R.cells ∧ P.slots + 0 ≤ R.slots)
      (fun P _ v B => ∃ L, (v = some (.int (cs.getD i 0)) ∧ L = [] ∧ B.U.heap = h) ∧ B.locs = P.locs ++ L ∧ B.cells = P.cells + 0 ∧ B.slots = P.slots + 0) := by
  subst hj
  intro m meth c P g ig mk a X hg hsize hdg hW hn hp'
  obtain ⟨rfl, rfl, r1, r2⟩ := hp'
  have al : Z.vm.Alike P.U.vm := hZ.alike.trans X.warmed.alike
  obtain ⟨A, hx⟩ := txt_of wi al E V C K hc hb l2
  obtain ⟨v, B, X', ⟨⟨hv, hh⟩, hl, hk, hs⟩, st⟩ := ChN.pays x t A cs.length (fun j => cs.getD j 0) z fm i (tabChN_of (movedChN hZ hw)) hfr hlo m meth c P g ig mk _ X hg hsize hdg hW hn ⟨r1, r2, rfl, hx, hi, sta_is al S, hz, sta_is al F, rf⟩
  exact ⟨v, B, X', ⟨[], ⟨hv, rfl, hh⟩, hl, hk, hs⟩, st⟩
/-- what backV says of its String, as the contracts of this text ask it: cs's low bytes, coder 0 -/
theorem codOf {cs : List Int32} {n : Nat} (hn : cs.length = n) (hb : ∀ c ∈ cs, ¬ 255 < c) : CodA cs 0 (Int32.ofNat n) ((cs.map lo8).map Value.int) := Or.inl ⟨rfl, by rw [hn], by simp [List.map_map, Function.comp_def], hb⟩
end StrChars.Road
end Jvm.Pilot.@@N@@
namespace Jvm.Pilot.@@N@@
open Jvm Jvm.ClassFile Sem Op Lib Jvm.Free Jvm.Stand Jvm.LawKit Jvm.RoadKit Bundle Jvm.Pilot.@@N@@.Jvm.D
set_option maxRecDepth 65536
set_option maxHeartbeats 40000000
section OwnKit
variable {p : Program} {l : Launch} {e : Env} {R : Room} {s : State} {m : MethodId} {args : Array Value} {below : List Frame} {meth : Method} {c : Code} {T T' U Z : State} {locs : List Loc} {cells slots : Nat} {h h' h0 : Heap} {a b : Addr} {n0 : Nat}
abbrev HW (Z : State) (a0 : Array Value) : Prop := ∀ d ∈ tables_1, d.before a0 Z = true
abbrev vI (x : Int32) : Slot := .val (.int x)
abbrev vJ (x : Int64) : Slot := .val (.long x)
abbrev vR (x : Addr) : Slot := .val (.ref x)
abbrev vN : Slot := .val .null
abbrev vU : Slot := .unset
abbrev vS : Slot := .second
theorem lb {a b : Nat} (q : Nat.ble a b = true) : a ≤ b := Nat.le_of_ble_eq_true q
/-- from T with the frame f on top the invocation comes to its end, and P holds there -/
def own_Fin (tb : Tables) (e : Env) (below : List Frame) (P : State → Outcome → Prop) (T : State) (f : JFrame) : Prop := ∃ s₂ o, Steps tb e below (T.setTop f) s₂ ∧ s₂.status = .running ∧ Ended s₂ below o ∧ P s₂ o
theorem own_go {tb : Tables} {P : State → Outcome → Prop} {g g' : JFrame} (k : ∀ t, Steps tb e below (T'.setTop g') t → Steps tb e below (T.setTop g) t) (q : own_Fin tb e below P T' g') : own_Fin tb e below P T g := by
  obtain ⟨s₂, o, a, r⟩ := q; exact ⟨s₂, o, k _ a, r⟩
theorem own_to {tb : Tables} {P : State → Outcome → Prop} {g g' : JFrame} (k : Steps tb e below (T.setTop g) (T'.setTop g')) (q : own_Fin tb e below P T' g') : own_Fin tb e below P T g := by
  obtain ⟨s₂, o, a, r⟩ := q; exact ⟨s₂, o, k.trans a, r⟩
theorem og {tb : Tables} {P : State → Outcome → Prop} {g : JFrame} (T' : State) (g' : JFrame) (k : ∀ t, Steps tb e below (T'.setTop g') t → Steps tb e below (T.setTop g) t) (q : own_Fin tb e below P T' g') : own_Fin tb e below P T g := own_go k q
theorem ot {tb : Tables} {P : State → Outcome → Prop} {g : JFrame} (T' : State) (g' : JFrame) (k : Steps tb e below (T.setTop g) (T'.setTop g')) (q : own_Fin tb e below P T' g') : own_Fin tb e below P T g := own_to k q
def own_PN (s : State) (Q : Option Value → Heap → List Loc → Prop) (rc rs : Nat) : State → Outcome → Prop := fun U o => ∃ v L, o = .returned v ∧ Q v U.heap L ∧ FrameEnd s o U L rc rs
/-- a body's contract: from the heap h0 it returns, and Q says what -/
def own_CN (l : Launch) (Z : State) (y : MethodName) (bytes : ByteArray) (maxL : Nat) (ret : Option FieldType) (ws : List Jvm.Cond) (rm : Room) (as : Array Value) (h0 : Heap) (Q : Option Value → Heap → List Loc → Prop) : Prop :=
  MetFree l y (head1 (Jvm.Cond.code y bytes maxL ret :: ws) rm) (fun a U => a = as ∧ Z.Warmed39 U.vm ∧ U.heap = h0) (fun _ _ _ _ _ => True) (fun _ U o U' => ∃ v L, o = .returned v ∧ Q v U'.heap L ∧ FrameEnd U o U' L rm.cells rm.slots)
theorem own_entryN {y : MethodName} {bytes : ByteArray} {maxL : Nat} {ret : Option FieldType} {ws : List Jvm.Cond} {rm : Room} {as : Array Value} {Q : Option Value → Heap → List Loc → Prop} (hpn : plainFor y = true)
    (body : ∀ (p : Program) (e : Env) (s : State) (m : MethodId) (below : List Frame) (meth : Method) (c : Code) (s₁ : State), p.tables.exec = Jvm.exec → c.code = bytes → c.maxLocals = maxL → s.vm.findClass y.cls = some m.cls → meth.name = y.name → meth.sig.returnType = ret → meth.locks = false → Z.Warmed39 s.vm → s.heap = h0 →
      Stand p l e rm s m as below meth c s₁ [] 0 0 → s₁.heap = h0 → own_Fin p.tables e below (own_PN s Q rm.cells rm.slots) s₁ (entryFrame m as maxL)) : own_CN l Z y bytes maxL ret ws rm as h0 Q := by
  refine MetFree.of_bodySF hpn hisR ?_
  intro p e s m args below meth c s₁ Bd hml0 hP hK
  obtain ⟨rfl, hZ, hh⟩ := hP
  exact body p e s m below meth c s₁ Bd.exec Bd.bytes hml0 (findClass_of_methodNamed Bd.named) (name_of_methodNamed Bd.named Bd.method).1 Bd.returns Bd.notSynchronized hZ hh (Stand.of_body Bd) (by rw [← hh, Bd.state]; rfl)
section Calls
variable {a0 : Array Value} {own C D : String} {index maxL W : Nat} {y : MethodName} {bytes : ByteArray} {ret : Option FieldType} {rm : Room} {Q : Option Value → Heap → List Loc → Prop} {g : JFrame} {argsL rest : List Value}
def own_nm (a W maxL : Nat) (rm R : Room) (cells slots : Nat) : Bool := Nat.ble a W && (Nat.ble (rm.frames + 1) R.frames && (Nat.ble (W + (maxL + 11) + rm.locals) R.locals && (Nat.ble (cells + rm.cells) R.cells && Nat.ble (slots + rm.slots) R.slots)))
theorem own_nm_e {a W maxL : Nat} {rm R : Room} {cells slots : Nat} (q : own_nm a W maxL rm R cells slots = true) : a ≤ W ∧ rm.frames + 1 ≤ R.frames ∧ W + (maxL + 11) + rm.locals ≤ R.locals ∧ cells + rm.cells ≤ R.cells ∧ slots + rm.slots ≤ R.slots := by
  simpa [own_nm, Nat.ble_eq] using q
theorem own_nr {meth : Method} {t : FieldType} {v : Option Value} (q : meth.sig.returnType = some t) : meth.sig.returnType = none → v = none := fun h => by rw [q] at h; cases h
theorem own_vc (X : Stand p l e R s m args below meth c T locs cells slots) (hx : p.tables.exec = Jvm.exec) (hZ : Z.Warmed39 s.vm) (hown : s.vm.findClass own = some m.cls) (w1 : (Jvm.Cond.methodLink own index y).before a0 Z = true) (w2 : (Jvm.Cond.declares y).before a0 Z = true) (w3 : (Jvm.Cond.selects C y y).before a0 Z = true) (w4 : (Jvm.Cond.instanceMethod y).before a0 Z = true) (E : Exa Z h a C)
    (hM : own_CN l Z y bytes maxL ret [] rm (.ref a :: argsL).toArray h Q) (wc : (Jvm.Cond.code y bytes maxL ret).before a0 Z = true) (wz : (Jvm.Cond.initialized y.cls).before a0 Z = true) (eT : T.heap = h) (hg : g.method = m) (hsize : g.locals.size = c.maxLocals) (hlen : ∀ sig, parseMethodDescriptor y.desc = some sig → argsL.length = sig.parameters.length) (hs : g.stack = argsL.reverse ++ .ref a :: rest)
    (hd : decode c.code g.pc = .ok (.invokevirtual index, 3)) (nq : own_nm (2 * g.monitorRoom + (rest.map fun v => v.category).sum) W maxL rm R cells slots = true) (hy : y.cls ≠ "java/lang/invoke/MethodHandle" ∧ y.cls ≠ "java/lang/invoke/VarHandle" := by decide) :
    ∃ v T' L, Stand p l e R s m args below meth c T' (locs ++ L) (cells + rm.cells) (slots + rm.slots) ∧ Q v T'.heap L ∧ Steps p.tables e below (T.setTop g) (T'.setTop { g with pc := g.pc + 3, stack := v.toList ++ rest }) := by
  obtain ⟨hW, hf, hl, hc, hsl⟩ := own_nm_e nq
  obtain ⟨cB, kB, q1, q2, q3⟩ := isOf hZ eT E
  obtain ⟨v, vm1, ⟨T', L', c', s'⟩, -, X', ⟨L, hQ, l1, l2, l3⟩, st⟩ := X.virtualBack hx (y := y) (z := y) hown (mvT hZ w1) (mvT hZ w2) (notFace_of_selects (args := #[]) (mvT hZ w3)) (mvT hZ w3) (mvT hZ w4) hy (backOf (W := W) hM hZ wc wz hf hl) q1 q3 hg hsize (Steps.refl _) hlen hs hW hd (fun _ _ => ⟨rfl, eT, hc, hsl⟩)
  dsimp only [Pt.U, Pt.locs, Pt.cells, Pt.slots] at X' l1 l2 l3 st hQ
  subst l1 l2 l3
  exact ⟨v, T', L, X', hQ, st⟩
theorem own_sc (X : Stand p l e R s m args below meth c T locs cells slots) (hx : p.tables.exec = Jvm.exec) (hZ : Z.Warmed39 s.vm) (hi : y.name = "<init>") (hown : s.vm.findClass own = some m.cls) (w1 : (Jvm.Cond.methodLink own index y).before a0 Z = true) (w4 : (Jvm.Cond.instanceMethod y).before a0 Z = true)
    (hM : own_CN l Z y bytes maxL none [] rm (.ref a :: argsL).toArray h Q) (wc : (Jvm.Cond.code y bytes maxL none).before a0 Z = true) (wz : (Jvm.Cond.initialized y.cls).before a0 Z = true) (eT : T.heap = h) (hg : g.method = m) (hsize : g.locals.size = c.maxLocals) (hlen : ∀ sig, parseMethodDescriptor y.desc = some sig → argsL.length = sig.parameters.length) (hs : g.stack = argsL.reverse ++ .ref a :: rest)
    (hd : decode c.code g.pc = .ok (.invokespecial index, 3)) (nq : own_nm (2 * g.monitorRoom + (rest.map fun v => v.category).sum) W maxL rm R cells slots = true) (hy : y.cls ≠ "java/lang/invoke/MethodHandle" ∧ y.cls ≠ "java/lang/invoke/VarHandle" := by decide) :
    ∃ v T' L, Stand p l e R s m args below meth c T' (locs ++ L) (cells + rm.cells) (slots + rm.slots) ∧ Q v T'.heap L ∧ Steps p.tables e below (T.setTop g) (T'.setTop { g with pc := g.pc + 3, stack := v.toList ++ rest }) := by
  obtain ⟨hW, hf, hl, hc, hsl⟩ := own_nm_e nq
  obtain ⟨v, vm1, ⟨T', L', c', s'⟩, -, X', ⟨L, hQ, l1, l2, l3⟩, st⟩ := X.specialBack hx (y := y) hi hown (mvT hZ w1) (mvT hZ w4) (mvT hZ wc) hy (backOf (W := W) hM hZ wc wz hf hl) hg hsize (Steps.refl _) (a := a) hlen hs hW hd (fun _ _ => ⟨rfl, eT, hc, hsl⟩)
  dsimp only [Pt.U, Pt.locs, Pt.cells, Pt.slots] at X' l1 l2 l3 st hQ
  subst l1 l2 l3
  exact ⟨v, T', L, X', hQ, st⟩
theorem own_tc (X : Stand p l e R s m args below meth c T locs cells slots) (hx : p.tables.exec = Jvm.exec) (hZ : Z.Warmed39 s.vm) (hown : s.vm.findClass own = some m.cls) (w1 : (Jvm.Cond.methodLink own index y).before a0 Z = true) (w4 : (Jvm.Cond.static y).before a0 Z = true)
    (hM : own_CN l Z y bytes maxL ret [] rm argsL.toArray h Q) (wc : (Jvm.Cond.code y bytes maxL ret).before a0 Z = true) (wz : (Jvm.Cond.initialized y.cls).before a0 Z = true) (eT : T.heap = h) (hg : g.method = m) (hsize : g.locals.size = c.maxLocals) (hlen : ∀ sig, parseMethodDescriptor y.desc = some sig → argsL.length = sig.parameters.length) (hs : g.stack = argsL.reverse ++ rest)
    (hd : decode c.code g.pc = .ok (.invokestatic index, 3)) (nq : own_nm (2 * g.monitorRoom + (rest.map fun v => v.category).sum) W maxL rm R cells slots = true) (hy : y.cls ≠ "java/lang/invoke/MethodHandle" ∧ y.cls ≠ "java/lang/invoke/VarHandle" := by decide) :
    ∃ v T' L, Stand p l e R s m args below meth c T' (locs ++ L) (cells + rm.cells) (slots + rm.slots) ∧ Q v T'.heap L ∧ Steps p.tables e below (T.setTop g) (T'.setTop { g with pc := g.pc + 3, stack := v.toList ++ rest }) := by
  obtain ⟨hW, hf, hl, hc, hsl⟩ := own_nm_e nq
  obtain ⟨v, vm1, ⟨T', L', c', s'⟩, -, X', ⟨L, hQ, l1, l2, l3⟩, st⟩ := Jvm.LawKit.callS X hx (y := y) hown (mvT hZ w1) (mvT hZ w4) (mvT hZ wz) (mvT hZ wc) hy (backOf (W := W) hM hZ wc wz hf hl) hg hsize hlen hs hW hd (fun _ _ => ⟨rfl, eT, hc, hsl⟩)
  dsimp only [Pt.U, Pt.locs, Pt.cells, Pt.slots] at X' l1 l2 l3 st hQ
  subst l1 l2 l3
  exact ⟨v, T', L, X', hQ, st _ (Steps.refl _)⟩
theorem own_sel {s : State} {args : Array Value} {y : MethodName} {C : String} (h : (Cond.selects C y y).before args s = true) (hp : s.PrivateAt y) (hi : (Cond.instanceMethod y).before args s = true) (hy : y.cls ≠ "java/lang/invoke/MethodHandle" ∧ y.cls ≠ "java/lang/invoke/VarHandle") : (Cond.selects y.cls y y).before args s = true := by
  obtain ⟨mk, meth, hn, hm, -, -⟩ := Cond.instanceMethod_spec hi
  obtain ⟨_, _, m2, -, -, q3, -, k, hk, hki⟩ := Cond.selects_spec h
  cases hn.symm.trans q3
  exact Jvm.Stand.selects_self_of_private (findClass_of_methodNamed hn) hk hki hp hi hy
theorem own_pc (X : Stand p l e R s m args below meth c T locs cells slots) (hx : p.tables.exec = Jvm.exec) (hZ : Z.Warmed39 s.vm) (hown : s.vm.findClass own = some m.cls) (w1 : (Jvm.Cond.methodLink own index y).before a0 Z = true) (w3 : (Jvm.Cond.selects D y y).before a0 Z = true) (w4 : (Jvm.Cond.instanceMethod y).before a0 Z = true) (wp : (Jvm.Cond.privateMethod y).before a0 Z = true) (E : Exa Z h a C)
    (hM : own_CN l Z y bytes maxL ret [] rm (.ref a :: argsL).toArray h Q) (wc : (Jvm.Cond.code y bytes maxL ret).before a0 Z = true) (wz : (Jvm.Cond.initialized y.cls).before a0 Z = true) (eT : T.heap = h) (hg : g.method = m) (hsize : g.locals.size = c.maxLocals) (hlen : ∀ sig, parseMethodDescriptor y.desc = some sig → argsL.length = sig.parameters.length) (hs : g.stack = argsL.reverse ++ .ref a :: rest)
    (hd : decode c.code g.pc = .ok (.invokevirtual index, 3)) (nq : own_nm (2 * g.monitorRoom + (rest.map fun v => v.category).sum) W maxL rm R cells slots = true) (hy : y.cls ≠ "java/lang/invoke/MethodHandle" ∧ y.cls ≠ "java/lang/invoke/VarHandle" := by decide) :
    ∃ v T' L, Stand p l e R s m args below meth c T' (locs ++ L) (cells + rm.cells) (slots + rm.slots) ∧ Q v T'.heap L ∧ Steps p.tables e below (T.setTop g) (T'.setTop { g with pc := g.pc + 3, stack := v.toList ++ rest }) := by
  obtain ⟨hW, hf, hl, hc, hsl⟩ := own_nm_e nq
  obtain ⟨cq, q, q'⟩ := Exa.cell E
  obtain ⟨v, vm1, ⟨T', L', c', s'⟩, -, X', ⟨L, hQ, l1, l2, l3⟩, st⟩ := X.privateBack hx (y := y) hown (mvT hZ w1) (mvT hZ w4) (own_sel (mvT hZ w3) (Cond.privateMethod_at (mvP hZ wp (args := #[]))) (mvT hZ w4) hy) (Cond.privateMethod_at (mvP hZ wp (args := #[]))) (mvT hZ wc) hy (backOf (W := W) hM hZ wc wz hf hl) hg hsize (Steps.refl _) (a := a) (by rw [eT]; exact q) q' hlen hs hW hd (fun _ _ => ⟨rfl, eT, hc, hsl⟩)
  dsimp only [Pt.U, Pt.locs, Pt.cells, Pt.slots] at X' l1 l2 l3 st hQ
  subst l1 l2 l3
  exact ⟨v, T', L, X', hQ, st⟩
end Calls
theorem own_leaveN (X : Stand p l e R s m args below meth c T locs cells slots) (hlk : meth.locks = false) {Q : Option Value → Heap → List Loc → Prop} {v : Option Value} (hv : meth.sig.returnType = none → v = none) {rc rs : Nat} (hc : cells ≤ rc) (hs : slots ≤ rs) (hQ : Q v T.heap locs) {f : JFrame}
    (st : ∀ fs, (∀ (f : JFrame) (acts : List Action), f.method = m → f.locked = none → f.entered = [] → (doReturn e (T.setTop f) acts v).1 = T.setFrames fs) → Steps p.tables e below (T.setTop f) (T.setFrames fs)) : own_Fin p.tables e below (own_PN s Q rc rs) T f := by
  obtain ⟨fs, hr, hrun, hended, hW, hsame⟩ := X.leave hv hlk
  exact ⟨_, _, st fs hr, hrun, hended, _, _, rfl, hQ, ⟨_, rfl⟩, hW, hsame.mono hc hs⟩
theorem own_w {a0 : Array Value} (hw : ∀ d ∈ tables_1, d.before a0 Z = true) (i : Nat) {d : Jvm.Cond} (q : tables_1[i]? = some d := by rfl) : d.before a0 Z = true := hw d (List.mem_of_getElem? q)
abbrev own_by (cs : List Int32) : List Value := (cs.map (fun c => c.toInt8.toInt32)).map Value.int
theorem own_by_app (a b : List Int32) : own_by (a ++ b) = own_by a ++ own_by b := by simp [own_by]
theorem own_la {a b : List Int32} {n m : Nat} (h : a.length = n) (k : b.length = m) : (a ++ b).length = n + m := by rw [List.length_append, h, k]
theorem own_happ {a b : List Int32} (h : ∀ c ∈ a, ¬ c < 0 ∧ ¬ (255 : Int32) < c) (k : ∀ c ∈ b, ¬ c < 0 ∧ ¬ (255 : Int32) < c) : ∀ c ∈ a ++ b, ¬ c < 0 ∧ ¬ (255 : Int32) < c := fun c hc => (List.mem_append.mp hc).elim (h c) (k c)
theorem own_hpl (a : List Int32) (h : a.all (fun c => !decide (c < 0) && !decide ((255 : Int32) < c)) = true) : ∀ c ∈ a, ¬ c < 0 ∧ ¬ (255 : Int32) < c := fun c hc => by
  have q := List.all_eq_true.mp h c hc
  simpa using q
theorem own_le4 {a : List Int32} {n : Nat} (h : a.length = n) (q : Nat.ble n 4000 = true) : a.length ≤ 4000 := h ▸ Nat.le_of_ble_eq_true q
theorem own_ltl {a : List Int32} {n i : Nat} (h : a.length = n) (q : Nat.ble (i + 1) n = true) : i < a.length := h ▸ Nat.le_of_ble_eq_true q
theorem own_osz (O : Old Z n0 h) : n0 ≤ h.size := O.1 ▸ O.2.1
theorem own_ne_old (q : a < Z.heap.size) (O : Old Z n0 h) (r : n0 ≤ b) : a ≠ b := O.ne q r
theorem own_ne_arv {a0 : Array Value} {C : String} {k : Nat} {kc : ClassId} {ty : FieldType} {z : Int32} {vs : List Value} {dv : Value} (F : Exa Z h a C) (wi : (Jvm.Cond.instantiable C k).before a0 Z = true) (G : Arv Z h b kc ty z vs dv) : a ≠ b := by
  obtain ⟨_, A, -⟩ := G; exact ne_arr F wi A
theorem own_cat {v : Value} (q : v.isRef = true) : v.category = 1 := by rcases ref_cases q with rfl | ⟨_, rfl⟩ <;> rfl
theorem own_same {s : State} {args : Array Value} {y z : MethodName} {C : String} (h : (Cond.selects C z z).before args s = true) (hi : (Cond.instanceMethod y).before args s = true) (e : z.cls = y.cls) (hy : y.cls ≠ "java/lang/invoke/MethodHandle" ∧ y.cls ≠ "java/lang/invoke/VarHandle") : (Cond.sameMethod y.cls y.cls y.name y.desc).before args s = true := by
  obtain ⟨mk, meth, hn, hm, -, -⟩ := Cond.instanceMethod_spec hi
  obtain ⟨_, _, m2, -, -, q3, -, k, hk, hki⟩ := Cond.selects_spec h
  have f1 := findClass_of_methodNamed hn
  have f2 := findClass_of_methodNamed q3
  rw [e] at f2
  have hc : m2.cls = mk.cls := Option.some.inj (f2.symm.trans f1)
  rw [hc] at hk
  have hf : s.methodFound? y.cls y.name y.desc = some mk := State.methodFound?_of_named hn hy
  simp [Cond.before, Cond.holds, Cond.value, f1, hf, hn, hk, hki]
theorem own_nf {s : State} {args : Array Value} {y z : MethodName} {C : String} (h : (Cond.selects C z z).before args s = true) (e : z.cls = y.cls) : NotFace s y := fun r0 h0 => by
  obtain ⟨_, _, m2, -, -, q3, -, k, hk, hki⟩ := Cond.selects_spec h
  have f1 := findClass_of_methodNamed h0
  have f2 := findClass_of_methodNamed q3
  rw [e] at f2
  have hc : m2.cls = r0.cls := Option.some.inj (f2.symm.trans f1)
  rw [hc] at hk
  exact ⟨k, hk, hki⟩
theorem own_nx {v : Value} {C : String} (q : v.isRef = true) : narrow (.object C) v = v := by rcases ref_cases q with rfl | ⟨_, rfl⟩ <;> rfl
theorem own_nxa {v : Value} {C : FieldType} (q : v.isRef = true) : narrow (.array C) v = v := by rcases ref_cases q with rfl | ⟨_, rfl⟩ <;> rfl
theorem own_fxa {v : Value} {C : FieldType} (q : v.isRef = true) : fits (.array C) v = true := by rcases ref_cases q with rfl | ⟨_, rfl⟩ <;> rfl
theorem own_ob (X : Stand p l e R s m args below meth c T locs cells slots) (hx : p.tables.exec = Jvm.exec) (hZ : Z.Warmed39 s.vm) {a0 : Array Value} {own : String} {idx : Nat} (hown : s.vm.findClass own = some m.cls) (w1 : (Cond.methodLink own idx Lib.objectInit).before a0 Z = true) (w2 : (Cond.instanceMethod Lib.objectInit).before a0 Z = true) (w3 : (Cond.code Lib.objectInit ⟨#[0xb1]⟩ 1 none).before a0 Z = true) (eT : T.heap = h)
    {g : JFrame} (hg : g.method = m) (hsize : g.locals.size = c.maxLocals) {rest : List Value} (hs : g.stack = .ref a :: rest) (hd : decode c.code g.pc = .ok (.invokespecial idx, 3)) (hf : 1 ≤ R.frames) (hlo : 2 * g.monitorRoom + (rest.map fun v => v.category).sum + 12 ≤ R.locals) :
    ∃ T', Stand p l e R s m args below meth c T' locs cells slots ∧ T'.heap = h ∧ ∀ target, Steps p.tables e below (T'.setTop { g with pc := g.pc + 3, stack := rest }) target → Steps p.tables e below (T.setTop g) target := by
  obtain ⟨vm', X', st⟩ := X.initObject hx hown (mvT hZ w1) (mvT hZ w2) (mvT hZ w3) hg hsize hs hd hf hlo
  exact ⟨_, X', eT, st⟩
theorem own_fx {v : Value} {C : String} (q : v.isRef = true) : fits (.object C) v = true := by rcases ref_cases q with rfl | ⟨_, rfl⟩ <;> rfl
theorem own_castz {k : ClassId} {ty : FieldType} {z z' : Int32} {vs : List Value} {d : Value} (q : z = z') (F : Arv Z h a k ty z vs d) : Arv Z h a k ty z' vs d := q ▸ F
/-- the same place of the walk, the state another (no cell written or made meanwhile) -/
def own_at2 (_ : Stand p l e R s m args below meth c T locs cells slots) (T' : State) (locs' : List Loc) (c' s' : Nat) : Prop := Stand p l e R s m args below meth c T' locs' c' s'
theorem own_wk (X : Stand p l e R s m args below meth c T locs cells slots) {c' s' : Nat} (hc : cells ≤ c') (hs : slots ≤ s') : Stand p l e R s m args below meth c T locs c' s' := { X with same := X.same.mono hc hs }
def own_at (_ : Stand p l e R s m args below meth c T locs cells slots) (T' : State) : Prop := Stand p l e R s m args below meth c T' locs cells slots
theorem own_ne_lo (q : a < h.size) (r : h.size ≤ b) : a ≠ b := Nat.ne_of_lt (Nat.lt_of_lt_of_le q r)
end OwnKit
def own_EL : List (String × Nat) := [("com/example/webhooks_to_ledger/webhookstoledger/UnbookableException", 7), ("com/example/webhooks_to_ledger/webhookstoledger/UnbookableException", 33), ("com/example/webhooks_to_ledger/webhookstoledger/UnbookableException", 39), ("java/lang/String", 7)]
theorem own_EW {a0 : Array Value} {Z : State} (hw : ∀ d ∈ tables_1, d.before a0 Z = true) : EW Z a0 own_EL := (EW.cons (own_w hw 212) (by decide) (EW.cons (own_w hw 49) (by decide) (EW.cons (own_w hw 98) (by decide) (EW.cons (own_w hw 14) (by decide) EW.nil))))
theorem own_wS {a0 : Array Value} {Z : State} (hw : ∀ d ∈ tables_1, d.before a0 Z = true) : ∀ d ∈ Bundle.stringAtoms, d.before a0 Z = true := fun d hd => hw d ((by decide +kernel : ∀ d ∈ Bundle.stringAtoms, d ∈ tables_1) d hd)
theorem own_wa {a0 : Array Value} {Z : State} (hw : ∀ d ∈ tables_1, d.before a0 Z = true) : (Jvm.Cond.arrayClass .byte).before a0 Z = true := (own_w hw 15)
theorem own_wi {a0 : Array Value} {Z : State} (hw : ∀ d ∈ tables_1, d.before a0 Z = true) : (Jvm.Cond.instantiable "java/lang/String" 4).before a0 Z = true := (own_w hw 1)
theorem own_held {tb : Tables} {e : Env} {args : Array Value} {s : State} (hc : Calls_1 tb e args s) : ∀ p ∈ own_EL, Jvm.Lit.constHeld s p.1 p.2 := fun p hp => hc.2.2.1 p hp
section OwnKitW
variable {p : Program} {l : Launch} {e : Env} {R : Room} {s : State} {m : MethodId} {args : Array Value} {below : List Frame} {meth : Method} {c : Code} {T T' U Z : State} {locs : List Loc} {cells slots : Nat} {h h' h0 : Heap} {a b : Addr} {n0 : Nat} {vm0 : Vm} {EL : List (String × Nat)} {a0 : Array Value}
def own_PW (s Z : State) (EL : List (String × Nat)) (Q : Option Value → Heap → List Loc → Prop) (rc rs : Nat) : State → Outcome → Prop := fun U o => ∃ v L, o = .returned v ∧ Q v U.heap L ∧ CHr Z EL s.vm s.heap U.vm U.heap ∧ ReturnedEndW s o U L rc rs
def own_K (kn : Bool) : Program → Env → List Frame → State → Array Value → Prop := fun _ _ bl s _ => kn = true → s.vm.MethodsKnown ∧ s.vm.FramesKnown bl
def own_CW (l : Launch) (Z : State) (kn : Bool) (y : MethodName) (bytes : ByteArray) (maxL : Nat) (ret : Option FieldType) (ws : List Jvm.Cond) (rm : Room) (as : Array Value) (h0 : Heap) (sx : List Addr) (Q : Option Value → Heap → List Loc → Prop) : Prop :=
  MetFree l y (head1 (Jvm.Cond.code y bytes maxL ret :: ws) rm) (fun a U => a = as ∧ Z.Warmed39 U.vm ∧ U.heap = h0 ∧ CHv Z own_EL U.vm h0 ∧ ∀ x ∈ sx, Safe Z own_EL U.vm h0 x) (own_K kn) (fun _ U o U' => ∃ v L, o = .returned v ∧ Q v U'.heap L ∧ CHr Z own_EL U.vm U.heap U'.vm U'.heap ∧ ReturnedEndW U o U' L rm.cells rm.slots)
theorem own_entryW {kn : Bool} {y : MethodName} {bytes : ByteArray} {maxL : Nat} {ret : Option FieldType} {ws : List Jvm.Cond} {rm : Room} {as : Array Value} {sx : List Addr} {Q : Option Value → Heap → List Loc → Prop} (hpn : plainFor y = true)
    (body : ∀ (p : Program) (e : Env) (s : State) (m : MethodId) (below : List Frame) (meth : Method) (c : Code) (s₁ : State), p.tables.exec = Jvm.exec → c.code = bytes → c.maxLocals = maxL → s.vm.findClass y.cls = some m.cls → meth.name = y.name → meth.sig.returnType = ret → meth.locks = false → Z.Warmed39 s.vm → s.heap = h0 → CHv Z own_EL s.vm h0 → (∀ x ∈ sx, Safe Z own_EL s.vm h0 x) → (kn = true → s.vm.MethodsKnown ∧ s.vm.FramesKnown below) →
      Stand p l e rm (s.setVm s.vm) m as below meth c s₁ [] 0 0 → s₁.heap = h0 → own_Fin p.tables e below (own_PW s Z own_EL Q rm.cells rm.slots) s₁ (entryFrame m as maxL)) : own_CW l Z kn y bytes maxL ret ws rm as h0 sx Q := by
  refine MetFree.of_bodySF hpn hisR ?_
  intro p e s m args below meth c s₁ Bd hml0 hP hK
  obtain ⟨rfl, hZ, hh, hCH, hSf⟩ := hP
  exact body p e s m below meth c s₁ Bd.exec Bd.bytes hml0 (findClass_of_methodNamed Bd.named) (name_of_methodNamed Bd.named Bd.method).1 Bd.returns Bd.notSynchronized hZ hh hCH hSf hK (Stand.of_body Bd) (by rw [← hh, Bd.state]; rfl)
theorem own_leaveW (X : Stand p l e R (s.setVm vm0) m args below meth c T locs cells slots) {k0 : Nat} (hS : s.Since vm0 k0) (hk : k0 ≤ h.size) (hZ : Z.Warmed39 vm0) (hEL : EW Z a0 EL) (eT : T.heap = h) (hCH : CHr Z EL s.vm h0 vm0 h) (hh : s.heap = h0) (hlk : meth.locks = false) {Q : Option Value → Heap → List Loc → Prop} {v : Option Value} (hv : meth.sig.returnType = none → v = none) {rc rs : Nat} (hc : cells ≤ rc) (hs : slots ≤ rs) (hQ : Q v T.heap locs) {f : JFrame}
    (st : ∀ fs, (∀ (f : JFrame) (acts : List Action), f.method = m → f.locked = none → f.entered = [] → (doReturn e (T.setTop f) acts v).1 = T.setFrames fs) → Steps p.tables e below (T.setTop f) (T.setFrames fs)) : own_Fin p.tables e below (own_PW s Z EL Q rc rs) T f := by
  subst eT
  obtain ⟨fs, hr, hrun, hended, hv', hW, hI, hsame⟩ := X.leaveW hS hk hv hlk
  have q := CHr.trans hCH (CHv.at X hZ hEL hCH.1)
  exact ⟨_, _, st fs hr, hrun, hended, _, _, rfl, hQ, by rw [hh]; exact q, hv', hW, hI, hsame.mono hc hs⟩
theorem own_reb {vm1 : Vm} (X : Stand p l e R ((s.setVm vm0).setVm vm1) m args below meth c T locs cells slots) : Stand p l e R (s.setVm vm1) m args below meth c T locs cells slots := X
theorem own_since (s : State) (n : Nat) : s.Since s.vm n := (State.WarmedH.refl s).since n
theorem own_after (hZ : Z.Warmed39 vm0) {k0 : Nat} (hS : s.Since vm0 k0) (eT : T.heap = h) (hk : k0 ≤ h.size) (h2 : (s.setVm vm0).Since U.vm U.heap.size) (g : T.heap.size ≤ U.heap.size) {own : String} {k : ClassId} (hown : vm0.findClass own = some k) : Z.Warmed39 (s.setVm U.vm).vm ∧ s.Since U.vm U.heap.size ∧ (s.setVm U.vm).vm.findClass own = some k := by
  subst eT
  refine ⟨State.Warmed39.trans (t := s.setVm vm0) hZ h2.1, foldS hS hk h2 g, ?_⟩
  show U.vm.findClass own = some k
  rw [h2.1.alike.findClass]; exact hown
theorem own_backSH {kn : Bool} {y : MethodName} {bytes : ByteArray} {maxL : Nat} {ret : Option FieldType} {rm : Room} {len W : Nat} {as' : Array Value} {Q : Option Value → Heap → List Loc → Prop} {sx : List Addr}
    (hM : MetFree l y (head1 [Cond.code y bytes maxL ret] rm) (fun a U => a = as' ∧ Z.Warmed39 U.vm ∧ U.heap = h ∧ CHv Z EL U.vm h ∧ ∀ x ∈ sx, Safe Z EL U.vm h x) (own_K kn) (fun _ U o U' => ∃ v L, o = .returned v ∧ Q v U'.heap L ∧ CHr Z EL U.vm U.heap U'.vm U'.heap ∧ ReturnedEndW U o U' L rm.cells rm.slots))
    (hZ : Z.Warmed39 vm0) (wc : (Cond.code y bytes maxL ret).before a0 Z = true) (wz : (Cond.initialized y.cls).before a0 Z = true) (hf : rm.frames + 1 ≤ R.frames) (hl : W + (maxL + 11) + rm.locals ≤ R.locals) (hEL : EW Z a0 EL) (H : CHv Z EL vm0 h) (hsx : ∀ x ∈ sx, x < h.size ∧ Safe Z EL vm0 h x) (hkn : kn = true → vm0.MethodsKnown ∧ vm0.FramesKnown below) :
    BackS l R p e below (s.setVm vm0) args y len W (fun A a => a = as' ∧ A.U.heap = h ∧ A.cells + rm.cells ≤ R.cells ∧ A.slots + rm.slots ≤ R.slots)
      (fun A _ v B => ∃ L, Q v B.U.heap L ∧ B.locs = A.locs ++ L ∧ B.cells = A.cells + rm.cells ∧ B.slots = A.slots + rm.slots ∧ CHr Z EL vm0 h B.U.vm B.U.heap) :=
  BackS.of_freeWG (bytes := bytes) (maxL := maxL) (ret := ret) (E := fun _ u o t L k n => (k = rm.cells ∧ n = rm.slots) ∧ (∃ v, o = .returned v ∧ Q v t.heap L) ∧ CHr Z EL u.vm u.heap t.vm t.heap) hM hf hl
    (fun m meth c A a Y hp => by
      have hU : Z.Warmed39 A.U.vm := wtrans (s := s.setVm vm0) hZ Y.warmed
      refine ⟨?_, mv hU wc, mv hU wz, hp.2.2.1, hp.2.2.2⟩
      show (Cond.and _ .tt).before a A.U = true
      rw [Cond.before_and, mv hU wc]; rfl)
    (fun m meth c A a g mk Y hp => ⟨hp.1, wtrans (s := s.setVm vm0) hZ Y.warmed, hp.2.1, (CHv.at Y hZ hEL H).1, fun x hx => CHr.safe (CHv.at Y hZ hEL H) (hsx x hx).1 (hsx x hx).2⟩) (fun m meth c A a g mk Y _ hg hk => Jvm.Free.known_frames Y hg (hkn hk).1 (hkn hk).2)
    (fun _ _ _ _ ⟨v, L, q1, q2, q3, q4⟩ => ⟨L, _, _, q4, ⟨rfl, rfl⟩, ⟨v, q1, q2⟩, q3⟩)
    (fun m meth c A a g mk v t L k n Y hp _ _ ⟨⟨q1, q2⟩, ⟨v', q3, q4⟩, q5⟩ => by
      cases q3; subst q1 q2
      refine ⟨L, q4, rfl, rfl, rfl, CHr.trans (CHv.at Y hZ hEL H) ?_⟩
      rw [← hp.2.1]; exact q5)
theorem own_safe_new {vm : Vm} (H : CHv Z EL vm h) (E : Ext h h') (q : h.size ≤ a) : Safe Z EL vm h' a := Safe.ext E H (Safe.new q)
end OwnKitW
theorem own_of255 (x : Int32) : ∃ k : Fin 256, (x &&& 255) = Int32.ofNat k.val := by
  refine ⟨⟨(x &&& 255).toBitVec.toNat, ?_⟩, ?_⟩
  · simp only [Int32.toBitVec_and, BitVec.toNat_and]
    exact Nat.lt_succ_of_le Nat.and_le_right
  · apply Int32.toBitVec_inj.mp
    show _ = BitVec.ofNat 32 _
    rw [BitVec.ofNat_toNat]; simp
theorem own_m255 (x : Int32) : ¬ (x &&& (255 : Int32)) < 0 ∧ ¬ (255 : Int32) < (x &&& (255 : Int32)) := by
  have t : ∀ k : Fin 256, ¬ (Int32.ofNat k.val) < 0 ∧ ¬ (255 : Int32) < (Int32.ofNat k.val) := by decide +kernel
  obtain ⟨k, hk⟩ := own_of255 x
  rw [hk]; exact t k
theorem own_nc255 (x : Int32) : nar .char (x &&& (255 : Int32)) = (x &&& (255 : Int32)) := i2c_mask x
theorem own_fin {c : Int32} (h : ¬ c < 0 ∧ ¬ (255 : Int32) < c) : ∃ k : Fin 256, c = Int32.ofNat k.val := by
  have h1 := h.1; have h2 := h.2
  rw [Int32.lt_iff_toInt_lt] at h1 h2
  have e0 : (0 : Int32).toInt = 0 := rfl
  have e1 : (255 : Int32).toInt = 255 := rfl
  obtain ⟨k, hk⟩ : ∃ k : Nat, c.toInt = k := ⟨c.toInt.toNat, by omega⟩
  exact ⟨⟨k, by omega⟩, Int32.toInt_inj.mp (by rw [hk, Int32.toInt_ofNat_small (by omega)])⟩
theorem own_ncl {c : Int32} (h : ¬ c < 0 ∧ ¬ (255 : Int32) < c) : nar .char c = c := by
  have t : ∀ k : Fin 256, nar .char (Int32.ofNat k.val) = Int32.ofNat k.val := by decide +kernel
  obtain ⟨k, rfl⟩ := own_fin h
  exact t k
theorem own_nc16 (x : Int32) : nar .char (x.toUInt32.toUInt16.toUInt32.toInt32) = x.toUInt32.toUInt16.toUInt32.toInt32 := by
  show (x.toUInt32.toUInt16.toUInt32.toInt32).toUInt32.toUInt16.toUInt32.toInt32 = _
  simp only [UInt32.toUInt32_toInt32, UInt16.toUInt16_toUInt32]
theorem own_b8 (x : Int32) : nar .byte (x.toInt8.toInt32) = x.toInt8.toInt32 := by
  show (x.toInt8.toInt32).toInt8.toInt32 = _
  rw [Int8.toInt8_toInt32]
theorem own_and3 (x : Int32) : (x &&& (3 : Int32)) = (0 : Int32) ∨ (x &&& (3 : Int32)) = (1 : Int32) ∨ (x &&& (3 : Int32)) = (2 : Int32) ∨ (x &&& (3 : Int32)) = (3 : Int32) := by
  have h : (x &&& 3).toBitVec.toNat ≤ 3 := by
    simp only [Int32.toBitVec_and, BitVec.toNat_and]
    exact Nat.and_le_right
  have e : (x &&& 3) = Int32.ofNat (x &&& 3).toBitVec.toNat := by
    apply Int32.toBitVec_inj.mp
    show _ = BitVec.ofNat 32 _
    rw [BitVec.ofNat_toNat]; simp
  rw [e]
  generalize (x &&& 3).toBitVec.toNat = n at h
  have : n = 0 ∨ n = 1 ∨ n = 2 ∨ n = 3 := by omega
  rcases this with rfl | rfl | rfl | rfl
  · exact Or.inl rfl
  · exact Or.inr (Or.inl rfl)
  · exact Or.inr (Or.inr (Or.inl rfl))
  · exact Or.inr (Or.inr (Or.inr rfl))
theorem own_hws {a0 : Array Value} {Z : State} (hw : ∀ d ∈ tables_1, d.before a0 Z = true) : ∀ d ∈ StrChars.Road.words, d.before a0 Z = true := fun d hd => hw d ((by decide +kernel : ∀ d ∈ StrChars.Road.words, d ∈ tables_1) d hd)
theorem own_hln {a0 : Array Value} {Z : State} (hw : ∀ d ∈ tables_1, d.before a0 Z = true) : ∀ d ∈ StrChars.Road.wordsLen, d.before a0 Z = true := fun d hd => hw d ((by decide +kernel : ∀ d ∈ StrChars.Road.wordsLen, d ∈ tables_1) d hd)
theorem own_hch {a0 : Array Value} {Z : State} (hw : ∀ d ∈ tables_1, d.before a0 Z = true) : ∀ d ∈ StrChars.Road.wordsChN, d.before a0 Z = true := fun d hd => hw d ((by decide +kernel : ∀ d ∈ StrChars.Road.wordsChN, d ∈ tables_1) d hd)
theorem own_up (cs : List Int32) (h : ∀ c ∈ cs, ¬ c < 0 ∧ ¬ (255 : Int32) < c) : ∀ c ∈ cs, ¬ c < 0 ∧ ¬ (65535 : Int32) < c := fun c hc => ⟨(h c hc).1, fun q => (h c hc).2 (by
  rw [Int32.lt_iff_toInt_lt] at q ⊢
  have e1 : (65535 : Int32).toInt = 65535 := rfl
  have e2 : (255 : Int32).toInt = 255 := rfl
  omega)⟩
abbrev y0 : MethodName := ⟨"java/lang/String", "<init>", "([CIILjava/lang/Void;)V"⟩
abbrev y1 : MethodName := ⟨"java/lang/String", "<init>", "([C)V"⟩
abbrev y2 : MethodName := ⟨"java/lang/AbstractStringBuilder", "<init>", "(I)V"⟩
abbrev y3 : MethodName := ⟨"java/lang/StringBuilder", "<init>", "()V"⟩
abbrev y4 : MethodName := ⟨"java/lang/AbstractStringBuilder", "ensureCapacityInternal", "(I)V"⟩
abbrev y5 : MethodName := ⟨"java/lang/String", "coder", "()B"⟩
abbrev y6 : MethodName := ⟨"java/lang/AbstractStringBuilder", "inflateIfNeededFor", "(Ljava/lang/String;)V"⟩
abbrev y7 : MethodName := ⟨"java/lang/String", "getBytes", "([BIB)V"⟩
abbrev y8 : MethodName := ⟨"java/lang/AbstractStringBuilder", "putStringAt", "(ILjava/lang/String;)V"⟩
abbrev y9 : MethodName := ⟨"java/lang/AbstractStringBuilder", "append", "(Ljava/lang/String;)Ljava/lang/AbstractStringBuilder;"⟩
abbrev y10 : MethodName := ⟨"java/lang/StringBuilder", "append", "(Ljava/lang/String;)Ljava/lang/StringBuilder;"⟩
abbrev y11 : MethodName := ⟨"java/lang/Math", "max", "(II)I"⟩
abbrev y12 : MethodName := ⟨"jdk/internal/util/ArraysSupport", "newLength", "(III)I"⟩
abbrev y13 : MethodName := ⟨"java/lang/AbstractStringBuilder", "newCapacity", "(I)I"⟩
abbrev y14 : MethodName := ⟨"java/lang/Math", "min", "(II)I"⟩
abbrev y15 : MethodName := ⟨"java/util/Arrays", "copyOf", "([BI)[B"⟩
abbrev y16 : MethodName := ⟨"java/lang/AbstractStringBuilder", "getValue", "()[B"⟩
abbrev y17 : MethodName := ⟨"java/lang/AbstractStringBuilder", "length", "()I"⟩
abbrev y18 : MethodName := ⟨"java/lang/StringBuilder", "length", "()I"⟩
abbrev y19 : MethodName := ⟨"java/lang/AbstractStringBuilder", "isLatin1", "()Z"⟩
abbrev y20 : MethodName := ⟨"java/util/Arrays", "checkLength", "(II)V"⟩
abbrev y21 : MethodName := ⟨"java/util/Arrays", "copyOfRangeByte", "([BII)[B"⟩
abbrev y22 : MethodName := ⟨"java/util/Arrays", "copyOfRange", "([BII)[B"⟩
abbrev y23 : MethodName := ⟨"java/lang/String", "<init>", "(Ljava/lang/AbstractStringBuilder;Ljava/lang/Void;)V"⟩
abbrev y24 : MethodName := ⟨"java/lang/String", "<init>", "(Ljava/lang/StringBuilder;)V"⟩
abbrev y25 : MethodName := ⟨"java/lang/StringBuilder", "toString", "()Ljava/lang/String;"⟩
abbrev y26 : MethodName := ⟨"java/lang/Throwable", "<init>", "(Ljava/lang/String;)V"⟩
abbrev y27 : MethodName := ⟨"java/lang/Exception", "<init>", "(Ljava/lang/String;)V"⟩
abbrev y28 : MethodName := ⟨"java/util/Objects", "requireNonNull", "(Ljava/lang/Object;Ljava/lang/String;)Ljava/lang/Object;"⟩
abbrev y29 : MethodName := ⟨"com/example/webhooks_to_ledger/webhookstoledger/UnbookableException", "<init>", "(Lcom/example/webhooks_to_ledger/webhookstoledger/HoldReason;Ljava/lang/String;)V"⟩
abbrev y30 : MethodName := ⟨"com/example/webhooks_to_ledger/webhookstoledger/UnbookableException", "unmappedType", "(Ljava/lang/String;)Lcom/example/webhooks_to_ledger/webhookstoledger/UnbookableException;"⟩
abbrev y31 : MethodName := ⟨"com/example/webhooks_to_ledger/webhookstoledger/UnbookableException", "reason", "()Lcom/example/webhooks_to_ledger/webhookstoledger/HoldReason;"⟩
abbrev y32 : MethodName := ⟨"com/example/webhooks_to_ledger/webhookstoledger/UnbookableException", "getCause", "()Ljava/lang/Throwable;"⟩
abbrev y33 : MethodName := ⟨"java/lang/Throwable", "getCause", "()Ljava/lang/Throwable;"⟩
abbrev y34 : MethodName := ⟨"java/lang/Throwable", "getMessage", "()Ljava/lang/String;"⟩
abbrev y35 : MethodName := ⟨"com/example/webhooks_to_ledger/webhookstoledger/UnbookableException", "getMessage", "()Ljava/lang/String;"⟩
abbrev y36 : MethodName := ⟨"com/example/webhooks_to_ledger/webhookstoledger/UnbookableExceptionUnmappedTypePinLaw", "prefixOk", "(Ljava/lang/String;)Z"⟩
abbrev y37 : MethodName := ⟨"com/example/webhooks_to_ledger/webhookstoledger/UnbookableExceptionUnmappedTypePinLaw", "suffixOk", "(Ljava/lang/String;I)Z"⟩
abbrev y38 : MethodName := ⟨"java/lang/StringLatin1", "canEncode", "(C)Z"⟩
abbrev y39 : MethodName := ⟨"java/lang/StringLatin1", "toBytes", "(C)[B"⟩
abbrev y40 : MethodName := ⟨"java/lang/String", "<init>", "([BB)V"⟩
abbrev y41 : MethodName := ⟨"java/lang/String", "valueOf", "(C)Ljava/lang/String;"⟩
section
variable {p : Program} {l : Launch} {e : Env} {R : Room} {s : State} {m : MethodId} {args : Array Value} {below : List Frame} {meth : Method} {c : Code} {T T' U Z : State} {locs : List Loc} {cells slots : Nat} {h h' h0 : Heap} {a b : Addr} {n0 : Nat}
theorem qa (X : Stand p l e R s m args below meth c T locs cells slots) (hx : p.tables.exec = Jvm.exec) {bs : ByteArray} (hby : c.code = bs) {g : JFrame} {k : Fin 4} {v : Value} {t : State} (hd : decode bs g.pc = .ok (.aload_n k, 1)) (hg : g.method = m) (hl : g.locals[k.val]? = some (.val v)) (hv : v.isRef = true) (hr : Steps p.tables e below (T.setTop { g with pc := g.pc + 1, stack := v :: g.stack }) t) : Steps p.tables e below (T.setTop g) t := XS.aloadN X.here hx hg (hb hby hd) hl hv hr
theorem qi (X : Stand p l e R s m args below meth c T locs cells slots) (hx : p.tables.exec = Jvm.exec) {bs : ByteArray} (hby : c.code = bs) {g : JFrame} {k : Fin 4} {v : Int32} {t : State} (hd : decode bs g.pc = .ok (.iload_n k, 1)) (hg : g.method = m) (hl : g.locals[k.val]? = some (.val (.int v))) (hr : Steps p.tables e below (T.setTop { g with pc := g.pc + 1, stack := .int v :: g.stack }) t) : Steps p.tables e below (T.setTop g) t := XS.iloadN X.here hx hg (hb hby hd) hl hr
theorem qb (X : Stand p l e R s m args below meth c T locs cells slots) (hx : p.tables.exec = Jvm.exec) {bs : ByteArray} (hby : c.code = bs) {g : JFrame} {i : Int} {t : State} (hd : decode bs g.pc = .ok (.bipush i, 2)) (hg : g.method = m) (hr : Steps p.tables e below (T.setTop { g with pc := g.pc + 2, stack := .int (Int8.ofInt i).toInt32 :: g.stack }) t) : Steps p.tables e below (T.setTop g) t := XS.bipush X.here hx hg (hb hby hd) hr
theorem qc (X : Stand p l e R s m args below meth c T locs cells slots) (hx : p.tables.exec = Jvm.exec) {bs : ByteArray} (hby : c.code = bs) {g : JFrame} {i : Int} {t : State} (hd : decode bs g.pc = .ok (.iconst i, 1)) (hg : g.method = m) (hr : Steps p.tables e below (T.setTop { g with pc := g.pc + 1, stack := .int (Int32.ofInt i) :: g.stack }) t) : Steps p.tables e below (T.setTop g) t := XS.iconst X.here hx hg (hb hby hd) hr
theorem qn (X : Stand p l e R s m args below meth c T locs cells slots) (hx : p.tables.exec = Jvm.exec) {bs : ByteArray} (hby : c.code = bs) {g : JFrame} {cd : ClassFile.Cond} {o : Int} {x y : Int32} {rest : List Value} {t : State} (hd : decode bs g.pc = .ok (.if_icmp cd o, 3)) (hg : g.method = m) (hs : g.stack = .int y :: .int x :: rest) (hc : if_icmp.holds cd x y = false) (hr : Steps p.tables e below (T.setTop { g with pc := g.pc + 3, stack := rest }) t) : Steps p.tables e below (T.setTop g) t := XS.icmpNo X.here hx hg (hb hby hd) hs hc hr
theorem qp (X : Stand p l e R s m args below meth c T locs cells slots) (hx : p.tables.exec = Jvm.exec) {bs : ByteArray} (hby : c.code = bs) {g : JFrame} {x y : Int32} {rest : List Value} {t : State} (hd : decode bs g.pc = .ok (.iadd, 1)) (hg : g.method = m) (hs : g.stack = .int y :: .int x :: rest) (hr : Steps p.tables e below (T.setTop { g with pc := g.pc + 1, stack := .int (x + y) :: rest }) t) : Steps p.tables e below (T.setTop g) t := XS.iadd X.here hx hg (hb hby hd) hs hr
theorem qf (X : Stand p l e R s m args below meth c T locs cells slots) (hx : p.tables.exec = Jvm.exec) {a0 : Array Value} {C : String} (hZ : Z.Warmed39 s.vm) {own n d : String} {index : Nat} (hown : s.vm.findClass own = some m.cls) (hl : (Cond.fieldLink own index C n d).before a0 Z = true) (eT : T.heap = h) {v : Value} (F : Fld Z h a C n d v) {g : JFrame} {rest : List Value} (hg : g.method = m) (hs : g.stack = .ref a :: rest) {bs : ByteArray} (hby : c.code = bs) (hd : decode bs g.pc = .ok (.getfield index, 3)) : ∃ T', Stand p l e R s m args below meth c T' locs cells slots ∧ T'.heap = h ∧ ∀ target, Steps p.tables e below (T'.setTop { g with pc := g.pc + 3, stack := v :: rest }) target → Steps p.tables e below (T.setTop g) target := getF X hx hZ hown (host := "") (Or.inl hl) Via.refl eT F hg hs (hb hby hd)
theorem zs {g : JFrame} {n : Nat} (q : c.maxLocals = n) (r : g.locals.size = n := by rfl) : g.locals.size = c.maxLocals := r.trans q.symm
theorem tq (n : Int32) : if_icmp.holds .ne n n = false := (teq rfl).2
theorem own_ra (X : Stand p l e R s m args below meth c T locs cells slots) (hx : p.tables.exec = Jvm.exec) {pc : Nat} {Ls : Array Slot} {w : Value} {t : FieldType} {rest : List Value} (hret : meth.sig.returnType = some t) (hn : narrow t w = w) (ht : t.isReference = true) (hw : w.isRef = true) (hd : decode c.code pc = .ok (.areturn, 1)) (fs : List Frame) (hl : ∀ (f : JFrame) (acts : List Action), f.method = m → f.locked = none → f.entered = [] → (doReturn e (T.setTop f) acts (some w)).1 = T.setFrames fs) : Steps p.tables e below (T.setTop (mkF m pc Ls (w :: rest))) (T.setFrames fs) := retOut X hx hret hn (Or.inr (Or.inr (Or.inr (Or.inr ⟨rfl, ht, hw⟩)))) hd hl
abbrev own_L (cs : List Int32) : Prop := ∀ c ∈ cs, ¬ c < 0 ∧ ¬ (255 : Int32) < c
end
theorem ow {Z : State} {a0 : Array Value} (hw : ∀ d ∈ tables_1, d.before a0 Z = true) (i : Nat) {d : Jvm.Cond} (q : tables_1[i]? = some d := by rfl) : d.before a0 Z = true := hw d (List.mem_of_getElem? q)
abbrev B0' : ByteArray := jdk_42_method_3_code
abbrev B1' : ByteArray := jdk_42_method_149_code
abbrev B2' : ByteArray := prog_14_method_3_code
abbrev B3' : ByteArray := jdk_67_method_1_code
abbrev B4' : ByteArray := jdk_68_method_2_code
abbrev B5' : ByteArray := jdk_67_method_7_code
abbrev B6' : ByteArray := jdk_68_method_22_code
abbrev B7' : ByteArray := jdk_42_method_152_code
abbrev B8' : ByteArray := jdk_68_method_9_code
abbrev B9' : ByteArray := jdk_68_method_73_code
abbrev B10' : ByteArray := jdk_68_method_71_code
abbrev B11' : ByteArray := jdk_42_method_147_code
abbrev B12' : ByteArray := jdk_68_method_10_code
abbrev B13' : ByteArray := jdk_48_method_27_code
abbrev B14' : ByteArray := jdk_29_method_65_code
abbrev B15' : ByteArray := jdk_65_method_121_code
abbrev B16' : ByteArray := jdk_29_method_69_code
abbrev B17' : ByteArray := jdk_67_method_42_code
abbrev B18' : ByteArray := jdk_42_method_53_code
abbrev B19' : ByteArray := jdk_42_method_150_code
abbrev B20' : ByteArray := jdk_68_method_64_code
abbrev B21' : ByteArray := jdk_67_method_93_code
abbrev B22' : ByteArray := jdk_68_method_6_code
abbrev B23' : ByteArray := jdk_68_method_68_code
abbrev B24' : ByteArray := jdk_65_method_132_code
abbrev B25' : ByteArray := jdk_65_method_133_code
abbrev B26' : ByteArray := jdk_65_method_131_code
abbrev B27' : ByteArray := prog_14_method_1_code
abbrev B28' : ByteArray := jdk_59_method_2_code
abbrev B29' : ByteArray := jdk_78_method_2_code
abbrev B30' : ByteArray := jdk_31_method_11_code
abbrev B31' : ByteArray := prog_14_method_4_code
abbrev B32' : ByteArray := jdk_78_method_6_code
abbrev B33' : ByteArray := jdk_42_method_139_code
abbrev B34' : ByteArray := jdk_43_method_3_code
abbrev B35' : ByteArray := jdk_43_method_46_code
abbrev B36' : ByteArray := jdk_42_method_151_code
abbrev cL0 : List Int32 := [101, 118, 101, 110, 116, 32, 116, 121, 112, 101, 32, 34]
abbrev cL1 : List Int32 := [34, 32, 105, 115, 32, 110, 111, 116, 32, 109, 97, 112, 112, 101, 100]
abbrev cL2 : List Int32 := [101, 118, 101, 110, 116, 32, 116, 121, 112, 101, 32, 34, 34, 32, 105, 115, 32, 110, 111, 116, 32, 109, 97, 112, 112, 101, 100]
theorem d1_0 : decode B0' 0 = .ok (.aload_n 0, 1) := by decide +kernel
theorem d1_1 : decode B0' 1 = .ok (.aload_n 1, 1) := by decide +kernel
theorem d1_2 : decode B0' 2 = .ok (.iconst 0, 1) := by decide +kernel
theorem d1_3 : decode B0' 3 = .ok (.aload_n 1, 1) := by decide +kernel
theorem d1_4 : decode B0' 4 = .ok (.arraylength, 1) := by decide +kernel
theorem d1_5 : decode B0' 5 = .ok (.aconst_null, 1) := by decide +kernel
theorem d1_6 : decode B0' 6 = .ok (.invokespecial 27, 3) := by decide +kernel
theorem d1_9 : decode B0' 9 = .ok (.return_, 1) := by decide +kernel
theorem d2_0 : decode B1' 0 = .ok (.aload_n 0, 1) := by decide +kernel
theorem d2_1 : decode B1' 1 = .ok (.invokespecial 1, 3) := by decide +kernel
theorem d2_4 : decode B1' 4 = .ok (.iload_n 3, 1) := by decide +kernel
theorem d2_5 : decode B1' 5 = .ok (.ifCond .ne 22, 3) := by decide +kernel
theorem d2_8 : decode B1' 8 = .ok (.aload_n 0, 1) := by decide +kernel
theorem d2_9 : decode B1' 9 = .ok (.ldc 7, 2) := by decide +kernel
theorem d2_11 : decode B1' 11 = .ok (.getfield 9, 3) := by decide +kernel
theorem d2_14 : decode B1' 14 = .ok (.putfield 9, 3) := by decide +kernel
theorem d2_17 : decode B1' 17 = .ok (.aload_n 0, 1) := by decide +kernel
theorem d2_18 : decode B1' 18 = .ok (.ldc 7, 2) := by decide +kernel
theorem d2_20 : decode B1' 20 = .ok (.getfield 15, 3) := by decide +kernel
theorem d2_23 : decode B1' 23 = .ok (.putfield 15, 3) := by decide +kernel
theorem d2_26 : decode B1' 26 = .ok (.return_, 1) := by decide +kernel
theorem d4_0 : decode B2' 0 = .ok (.new 18, 3) := by decide +kernel
theorem d4_3 : decode B2' 3 = .ok (.dup, 1) := by decide +kernel
theorem d4_4 : decode B2' 4 = .ok (.getstatic 25, 3) := by decide +kernel
theorem d4_7 : decode B2' 7 = .ok (.new 28, 3) := by decide +kernel
theorem d4_10 : decode B2' 10 = .ok (.dup, 1) := by decide +kernel
theorem d4_11 : decode B2' 11 = .ok (.invokespecial 30, 3) := by decide +kernel
theorem d4_14 : decode B2' 14 = .ok (.ldc 33, 2) := by decide +kernel
theorem d4_16 : decode B2' 16 = .ok (.invokevirtual 35, 3) := by decide +kernel
theorem d4_19 : decode B2' 19 = .ok (.aload_n 0, 1) := by decide +kernel
theorem d4_20 : decode B2' 20 = .ok (.invokevirtual 35, 3) := by decide +kernel
theorem d4_23 : decode B2' 23 = .ok (.ldc 39, 2) := by decide +kernel
theorem d4_25 : decode B2' 25 = .ok (.invokevirtual 35, 3) := by decide +kernel
theorem d4_28 : decode B2' 28 = .ok (.invokevirtual 41, 3) := by decide +kernel
theorem d4_31 : decode B2' 31 = .ok (.invokespecial 45, 3) := by decide +kernel
theorem d4_34 : decode B2' 34 = .ok (.areturn, 1) := by decide +kernel
theorem d5_0 : decode B3' 0 = .ok (.aload_n 0, 1) := by decide +kernel
theorem d5_1 : decode B3' 1 = .ok (.bipush 16, 2) := by decide +kernel
theorem d5_3 : decode B3' 3 = .ok (.invokespecial 1, 3) := by decide +kernel
theorem d5_6 : decode B3' 6 = .ok (.return_, 1) := by decide +kernel
theorem d6_0 : decode B4' 0 = .ok (.aload_n 0, 1) := by decide +kernel
theorem d6_1 : decode B4' 1 = .ok (.invokespecial 3, 3) := by decide +kernel
theorem d6_4 : decode B4' 4 = .ok (.getstatic 18, 3) := by decide +kernel
theorem d6_7 : decode B4' 7 = .ok (.ifCond .eq 18, 3) := by decide +kernel
theorem d6_10 : decode B4' 10 = .ok (.aload_n 0, 1) := by decide +kernel
theorem d6_11 : decode B4' 11 = .ok (.iload_n 1, 1) := by decide +kernel
theorem d6_12 : decode B4' 12 = .ok (.newarray .byte, 2) := by decide +kernel
theorem d6_14 : decode B4' 14 = .ok (.putfield 15, 3) := by decide +kernel
theorem d6_17 : decode B4' 17 = .ok (.aload_n 0, 1) := by decide +kernel
theorem d6_18 : decode B4' 18 = .ok (.iconst 0, 1) := by decide +kernel
theorem d6_19 : decode B4' 19 = .ok (.putfield 22, 3) := by decide +kernel
theorem d6_22 : decode B4' 22 = .ok (.goto 16, 3) := by decide +kernel
theorem d6_38 : decode B4' 38 = .ok (.return_, 1) := by decide +kernel
theorem d7_0 : decode B5' 0 = .ok (.aload_n 0, 1) := by decide +kernel
theorem d7_1 : decode B5' 1 = .ok (.aload_n 1, 1) := by decide +kernel
theorem d7_2 : decode B5' 2 = .ok (.invokespecial 29, 3) := by decide +kernel
theorem d7_5 : decode B5' 5 = .ok (.pop, 1) := by decide +kernel
theorem d7_6 : decode B5' 6 = .ok (.aload_n 0, 1) := by decide +kernel
theorem d7_7 : decode B5' 7 = .ok (.areturn, 1) := by decide +kernel
theorem d8_0 : decode B6' 0 = .ok (.aload_n 1, 1) := by decide +kernel
theorem d8_1 : decode B6' 1 = .ok (.ifnonnull 8, 3) := by decide +kernel
theorem d8_9 : decode B6' 9 = .ok (.aload_n 1, 1) := by decide +kernel
theorem d8_10 : decode B6' 10 = .ok (.invokevirtual 32, 3) := by decide +kernel
theorem d8_13 : decode B6' 13 = .ok (.istore_n 2, 1) := by decide +kernel
theorem d8_14 : decode B6' 14 = .ok (.aload_n 0, 1) := by decide +kernel
theorem d8_15 : decode B6' 15 = .ok (.aload_n 0, 1) := by decide +kernel
theorem d8_16 : decode B6' 16 = .ok (.getfield 79, 3) := by decide +kernel
theorem d8_19 : decode B6' 19 = .ok (.iload_n 2, 1) := by decide +kernel
theorem d8_20 : decode B6' 20 = .ok (.iadd, 1) := by decide +kernel
theorem d8_21 : decode B6' 21 = .ok (.invokevirtual 100, 3) := by decide +kernel
theorem d8_24 : decode B6' 24 = .ok (.aload_n 0, 1) := by decide +kernel
theorem d8_25 : decode B6' 25 = .ok (.aload_n 0, 1) := by decide +kernel
theorem d8_26 : decode B6' 26 = .ok (.getfield 79, 3) := by decide +kernel
theorem d8_29 : decode B6' 29 = .ok (.aload_n 1, 1) := by decide +kernel
theorem d8_30 : decode B6' 30 = .ok (.invokevirtual 208, 3) := by decide +kernel
theorem d8_33 : decode B6' 33 = .ok (.aload_n 0, 1) := by decide +kernel
theorem d8_34 : decode B6' 34 = .ok (.dup, 1) := by decide +kernel
theorem d8_35 : decode B6' 35 = .ok (.getfield 79, 3) := by decide +kernel
theorem d8_38 : decode B6' 38 = .ok (.iload_n 2, 1) := by decide +kernel
theorem d8_39 : decode B6' 39 = .ok (.iadd, 1) := by decide +kernel
theorem d8_40 : decode B6' 40 = .ok (.putfield 79, 3) := by decide +kernel
theorem d8_43 : decode B6' 43 = .ok (.aload_n 0, 1) := by decide +kernel
theorem d8_44 : decode B6' 44 = .ok (.areturn, 1) := by decide +kernel
theorem d10_0 : decode B7' 0 = .ok (.getstatic 38, 3) := by decide +kernel
theorem d10_3 : decode B7' 3 = .ok (.ifCond .eq 10, 3) := by decide +kernel
theorem d10_6 : decode B7' 6 = .ok (.aload_n 0, 1) := by decide +kernel
theorem d10_7 : decode B7' 7 = .ok (.getfield 15, 3) := by decide +kernel
theorem d10_10 : decode B7' 10 = .ok (.goto 4, 3) := by decide +kernel
theorem d10_14 : decode B7' 14 = .ok (.ireturn, 1) := by decide +kernel
theorem d11_0 : decode B8' 0 = .ok (.aload_n 0, 1) := by decide +kernel
theorem d11_1 : decode B8' 1 = .ok (.getfield 15, 3) := by decide +kernel
theorem d11_4 : decode B8' 4 = .ok (.arraylength, 1) := by decide +kernel
theorem d11_5 : decode B8' 5 = .ok (.aload_n 0, 1) := by decide +kernel
theorem d11_6 : decode B8' 6 = .ok (.getfield 22, 3) := by decide +kernel
theorem d11_9 : decode B8' 9 = .ok (.ishr, 1) := by decide +kernel
theorem d11_10 : decode B8' 10 = .ok (.istore_n 2, 1) := by decide +kernel
theorem d11_11 : decode B8' 11 = .ok (.iload_n 1, 1) := by decide +kernel
theorem d11_12 : decode B8' 12 = .ok (.iload_n 2, 1) := by decide +kernel
theorem d11_13 : decode B8' 13 = .ok (.isub, 1) := by decide +kernel
theorem d11_14 : decode B8' 14 = .ok (.ifCond .le 24, 3) := by decide +kernel
theorem d11_17 : decode B8' 17 = .ok (.aload_n 0, 1) := by decide +kernel
theorem d11_18 : decode B8' 18 = .ok (.aload_n 0, 1) := by decide +kernel
theorem d11_19 : decode B8' 19 = .ok (.getfield 15, 3) := by decide +kernel
theorem d11_22 : decode B8' 22 = .ok (.aload_n 0, 1) := by decide +kernel
theorem d11_23 : decode B8' 23 = .ok (.iload_n 1, 1) := by decide +kernel
theorem d11_24 : decode B8' 24 = .ok (.invokevirtual 104, 3) := by decide +kernel
theorem d11_27 : decode B8' 27 = .ok (.aload_n 0, 1) := by decide +kernel
theorem d11_28 : decode B8' 28 = .ok (.getfield 22, 3) := by decide +kernel
theorem d11_31 : decode B8' 31 = .ok (.ishl, 1) := by decide +kernel
theorem d11_32 : decode B8' 32 = .ok (.invokestatic 108, 3) := by decide +kernel
theorem d11_35 : decode B8' 35 = .ok (.putfield 15, 3) := by decide +kernel
theorem d11_38 : decode B8' 38 = .ok (.return_, 1) := by decide +kernel
theorem d12_0 : decode B9' 0 = .ok (.aload_n 0, 1) := by decide +kernel
theorem d12_1 : decode B9' 1 = .ok (.aload_n 2, 1) := by decide +kernel
theorem d12_2 : decode B9' 2 = .ok (.invokevirtual 397, 3) := by decide +kernel
theorem d12_5 : decode B9' 5 = .ok (.aload_n 2, 1) := by decide +kernel
theorem d12_6 : decode B9' 6 = .ok (.aload_n 0, 1) := by decide +kernel
theorem d12_7 : decode B9' 7 = .ok (.getfield 15, 3) := by decide +kernel
theorem d12_10 : decode B9' 10 = .ok (.iload_n 1, 1) := by decide +kernel
theorem d12_11 : decode B9' 11 = .ok (.aload_n 0, 1) := by decide +kernel
theorem d12_12 : decode B9' 12 = .ok (.getfield 22, 3) := by decide +kernel
theorem d12_15 : decode B9' 15 = .ok (.invokevirtual 399, 3) := by decide +kernel
theorem d12_18 : decode B9' 18 = .ok (.return_, 1) := by decide +kernel
theorem d13_0 : decode B10' 0 = .ok (.getstatic 18, 3) := by decide +kernel
theorem d13_3 : decode B10' 3 = .ok (.ifCond .eq 18, 3) := by decide +kernel
theorem d13_6 : decode B10' 6 = .ok (.aload_n 0, 1) := by decide +kernel
theorem d13_7 : decode B10' 7 = .ok (.getfield 22, 3) := by decide +kernel
theorem d13_10 : decode B10' 10 = .ok (.aload_n 1, 1) := by decide +kernel
theorem d13_11 : decode B10' 11 = .ok (.invokevirtual 40, 3) := by decide +kernel
theorem d13_14 : decode B10' 14 = .ok (.if_icmp .eq 7, 3) := by decide +kernel
theorem d13_21 : decode B10' 21 = .ok (.return_, 1) := by decide +kernel
theorem d14_0 : decode B11' 0 = .ok (.aload_n 0, 1) := by decide +kernel
theorem d14_1 : decode B11' 1 = .ok (.invokevirtual 335, 3) := by decide +kernel
theorem d14_4 : decode B11' 4 = .ok (.iload_n 3, 1) := by decide +kernel
theorem d14_5 : decode B11' 5 = .ok (.if_icmp .ne 23, 3) := by decide +kernel
theorem d14_8 : decode B11' 8 = .ok (.aload_n 0, 1) := by decide +kernel
theorem d14_9 : decode B11' 9 = .ok (.getfield 9, 3) := by decide +kernel
theorem d14_12 : decode B11' 12 = .ok (.iconst 0, 1) := by decide +kernel
theorem d14_13 : decode B11' 13 = .ok (.aload_n 1, 1) := by decide +kernel
theorem d14_14 : decode B11' 14 = .ok (.iload_n 2, 1) := by decide +kernel
theorem d14_15 : decode B11' 15 = .ok (.iload_n 3, 1) := by decide +kernel
theorem d14_16 : decode B11' 16 = .ok (.ishl, 1) := by decide +kernel
theorem d14_17 : decode B11' 17 = .ok (.aload_n 0, 1) := by decide +kernel
theorem d14_18 : decode B11' 18 = .ok (.getfield 9, 3) := by decide +kernel
theorem d14_21 : decode B11' 21 = .ok (.arraylength, 1) := by decide +kernel
theorem d14_22 : decode B11' 22 = .ok (.invokestatic 212, 3) := by decide +kernel
theorem d14_25 : decode B11' 25 = .ok (.goto 18, 3) := by decide +kernel
theorem d14_43 : decode B11' 43 = .ok (.return_, 1) := by decide +kernel
theorem d15_0 : decode B12' 0 = .ok (.aload_n 0, 1) := by decide +kernel
theorem d15_1 : decode B12' 1 = .ok (.getfield 15, 3) := by decide +kernel
theorem d15_4 : decode B12' 4 = .ok (.arraylength, 1) := by decide +kernel
theorem d15_5 : decode B12' 5 = .ok (.istore_n 2, 1) := by decide +kernel
theorem d15_6 : decode B12' 6 = .ok (.iload_n 1, 1) := by decide +kernel
theorem d15_7 : decode B12' 7 = .ok (.aload_n 0, 1) := by decide +kernel
theorem d15_8 : decode B12' 8 = .ok (.getfield 22, 3) := by decide +kernel
theorem d15_11 : decode B12' 11 = .ok (.ishl, 1) := by decide +kernel
theorem d15_12 : decode B12' 12 = .ok (.istore_n 3, 1) := by decide +kernel
theorem d15_13 : decode B12' 13 = .ok (.iload_n 3, 1) := by decide +kernel
theorem d15_14 : decode B12' 14 = .ok (.iload_n 2, 1) := by decide +kernel
theorem d15_15 : decode B12' 15 = .ok (.isub, 1) := by decide +kernel
theorem d15_16 : decode B12' 16 = .ok (.istore 4, 2) := by decide +kernel
theorem d15_18 : decode B12' 18 = .ok (.iload_n 2, 1) := by decide +kernel
theorem d15_19 : decode B12' 19 = .ok (.iload 4, 2) := by decide +kernel
theorem d15_21 : decode B12' 21 = .ok (.iload_n 2, 1) := by decide +kernel
theorem d15_22 : decode B12' 22 = .ok (.iconst 2, 1) := by decide +kernel
theorem d15_23 : decode B12' 23 = .ok (.aload_n 0, 1) := by decide +kernel
theorem d15_24 : decode B12' 24 = .ok (.getfield 22, 3) := by decide +kernel
theorem d15_27 : decode B12' 27 = .ok (.ishl, 1) := by decide +kernel
theorem d15_28 : decode B12' 28 = .ok (.iadd, 1) := by decide +kernel
theorem d15_29 : decode B12' 29 = .ok (.invokestatic 114, 3) := by decide +kernel
theorem d15_32 : decode B12' 32 = .ok (.istore 5, 2) := by decide +kernel
theorem d15_34 : decode B12' 34 = .ok (.iload 5, 2) := by decide +kernel
theorem d15_36 : decode B12' 36 = .ok (.ldc 39, 2) := by decide +kernel
theorem d15_38 : decode B12' 38 = .ok (.if_icmp .ne 13, 3) := by decide +kernel
theorem d15_51 : decode B12' 51 = .ok (.iload 5, 2) := by decide +kernel
theorem d15_53 : decode B12' 53 = .ok (.aload_n 0, 1) := by decide +kernel
theorem d15_54 : decode B12' 54 = .ok (.getfield 22, 3) := by decide +kernel
theorem d15_57 : decode B12' 57 = .ok (.ishr, 1) := by decide +kernel
theorem d15_58 : decode B12' 58 = .ok (.ireturn, 1) := by decide +kernel
theorem d16_0 : decode B13' 0 = .ok (.iload_n 0, 1) := by decide +kernel
theorem d16_1 : decode B13' 1 = .ok (.iload_n 1, 1) := by decide +kernel
theorem d16_2 : decode B13' 2 = .ok (.iload_n 2, 1) := by decide +kernel
theorem d16_3 : decode B13' 3 = .ok (.invokestatic 194, 3) := by decide +kernel
theorem d16_6 : decode B13' 6 = .ok (.iadd, 1) := by decide +kernel
theorem d16_7 : decode B13' 7 = .ok (.istore_n 3, 1) := by decide +kernel
theorem d16_8 : decode B13' 8 = .ok (.iconst 0, 1) := by decide +kernel
theorem d16_9 : decode B13' 9 = .ok (.iload_n 3, 1) := by decide +kernel
theorem d16_10 : decode B13' 10 = .ok (.if_icmp .ge 11, 3) := by decide +kernel
theorem d16_13 : decode B13' 13 = .ok (.iload_n 3, 1) := by decide +kernel
theorem d16_14 : decode B13' 14 = .ok (.ldc 200, 2) := by decide +kernel
theorem d16_16 : decode B13' 16 = .ok (.if_icmp .gt 5, 3) := by decide +kernel
theorem d16_19 : decode B13' 19 = .ok (.iload_n 3, 1) := by decide +kernel
theorem d16_20 : decode B13' 20 = .ok (.ireturn, 1) := by decide +kernel
theorem d17_0 : decode B14' 0 = .ok (.iload_n 0, 1) := by decide +kernel
theorem d17_1 : decode B14' 1 = .ok (.iload_n 1, 1) := by decide +kernel
theorem d17_2 : decode B14' 2 = .ok (.if_icmp .lt 7, 3) := by decide +kernel
theorem d17_9 : decode B14' 9 = .ok (.iload_n 1, 1) := by decide +kernel
theorem d17_10 : decode B14' 10 = .ok (.ireturn, 1) := by decide +kernel
theorem d18_0 : decode B15' 0 = .ok (.iload_n 1, 1) := by decide +kernel
theorem d18_1 : decode B15' 1 = .ok (.aload_n 0, 1) := by decide +kernel
theorem d18_2 : decode B15' 2 = .ok (.arraylength, 1) := by decide +kernel
theorem d18_3 : decode B15' 3 = .ok (.if_icmp .ne 11, 3) := by decide +kernel
theorem d18_14 : decode B15' 14 = .ok (.iload_n 1, 1) := by decide +kernel
theorem d18_15 : decode B15' 15 = .ok (.newarray .byte, 2) := by decide +kernel
theorem d18_17 : decode B15' 17 = .ok (.astore_n 2, 1) := by decide +kernel
theorem d18_18 : decode B15' 18 = .ok (.aload_n 0, 1) := by decide +kernel
theorem d18_19 : decode B15' 19 = .ok (.iconst 0, 1) := by decide +kernel
theorem d18_20 : decode B15' 20 = .ok (.aload_n 2, 1) := by decide +kernel
theorem d18_21 : decode B15' 21 = .ok (.iconst 0, 1) := by decide +kernel
theorem d18_22 : decode B15' 22 = .ok (.aload_n 0, 1) := by decide +kernel
theorem d18_23 : decode B15' 23 = .ok (.arraylength, 1) := by decide +kernel
theorem d18_24 : decode B15' 24 = .ok (.iload_n 1, 1) := by decide +kernel
theorem d18_25 : decode B15' 25 = .ok (.invokestatic 304, 3) := by decide +kernel
theorem d18_28 : decode B15' 28 = .ok (.invokestatic 150, 3) := by decide +kernel
theorem d18_31 : decode B15' 31 = .ok (.aload_n 2, 1) := by decide +kernel
theorem d18_32 : decode B15' 32 = .ok (.areturn, 1) := by decide +kernel
theorem d19_0 : decode B16' 0 = .ok (.iload_n 0, 1) := by decide +kernel
theorem d19_1 : decode B16' 1 = .ok (.iload_n 1, 1) := by decide +kernel
theorem d19_2 : decode B16' 2 = .ok (.if_icmp .gt 7, 3) := by decide +kernel
theorem d19_5 : decode B16' 5 = .ok (.iload_n 0, 1) := by decide +kernel
theorem d19_6 : decode B16' 6 = .ok (.goto 4, 3) := by decide +kernel
theorem d19_9 : decode B16' 9 = .ok (.iload_n 1, 1) := by decide +kernel
theorem d19_10 : decode B16' 10 = .ok (.ireturn, 1) := by decide +kernel
theorem d20_0 : decode B17' 0 = .ok (.new 18, 3) := by decide +kernel
theorem d20_3 : decode B17' 3 = .ok (.dup, 1) := by decide +kernel
theorem d20_4 : decode B17' 4 = .ok (.aload_n 0, 1) := by decide +kernel
theorem d20_5 : decode B17' 5 = .ok (.invokespecial 137, 3) := by decide +kernel
theorem d20_8 : decode B17' 8 = .ok (.areturn, 1) := by decide +kernel
theorem d21_0 : decode B18' 0 = .ok (.aload_n 0, 1) := by decide +kernel
theorem d21_1 : decode B18' 1 = .ok (.aload_n 1, 1) := by decide +kernel
theorem d21_2 : decode B18' 2 = .ok (.aconst_null, 1) := by decide +kernel
theorem d21_3 : decode B18' 3 = .ok (.invokespecial 489, 3) := by decide +kernel
theorem d21_6 : decode B18' 6 = .ok (.return_, 1) := by decide +kernel
theorem d22_0 : decode B19' 0 = .ok (.aload_n 0, 1) := by decide +kernel
theorem d22_1 : decode B19' 1 = .ok (.invokespecial 1, 3) := by decide +kernel
theorem d22_4 : decode B19' 4 = .ok (.aload_n 1, 1) := by decide +kernel
theorem d22_5 : decode B19' 5 = .ok (.invokevirtual 552, 3) := by decide +kernel
theorem d22_8 : decode B19' 8 = .ok (.astore_n 3, 1) := by decide +kernel
theorem d22_9 : decode B19' 9 = .ok (.aload_n 1, 1) := by decide +kernel
theorem d22_10 : decode B19' 10 = .ok (.invokevirtual 549, 3) := by decide +kernel
theorem d22_13 : decode B19' 13 = .ok (.istore 4, 2) := by decide +kernel
theorem d22_15 : decode B19' 15 = .ok (.aload_n 1, 1) := by decide +kernel
theorem d22_16 : decode B19' 16 = .ok (.invokevirtual 1047, 3) := by decide +kernel
theorem d22_19 : decode B19' 19 = .ok (.ifCond .eq 22, 3) := by decide +kernel
theorem d22_22 : decode B19' 22 = .ok (.aload_n 0, 1) := by decide +kernel
theorem d22_23 : decode B19' 23 = .ok (.iconst 0, 1) := by decide +kernel
theorem d22_24 : decode B19' 24 = .ok (.putfield 15, 3) := by decide +kernel
theorem d22_27 : decode B19' 27 = .ok (.aload_n 0, 1) := by decide +kernel
theorem d22_28 : decode B19' 28 = .ok (.aload_n 3, 1) := by decide +kernel
theorem d22_29 : decode B19' 29 = .ok (.iconst 0, 1) := by decide +kernel
theorem d22_30 : decode B19' 30 = .ok (.iload 4, 2) := by decide +kernel
theorem d22_32 : decode B19' 32 = .ok (.invokestatic 54, 3) := by decide +kernel
theorem d22_35 : decode B19' 35 = .ok (.putfield 9, 3) := by decide +kernel
theorem d22_38 : decode B19' 38 = .ok (.goto 59, 3) := by decide +kernel
theorem d22_97 : decode B19' 97 = .ok (.return_, 1) := by decide +kernel
theorem d23_0 : decode B20' 0 = .ok (.aload_n 0, 1) := by decide +kernel
theorem d23_1 : decode B20' 1 = .ok (.getfield 15, 3) := by decide +kernel
theorem d23_4 : decode B20' 4 = .ok (.areturn, 1) := by decide +kernel
theorem d24_0 : decode B21' 0 = .ok (.aload_n 0, 1) := by decide +kernel
theorem d24_1 : decode B21' 1 = .ok (.invokespecial 343, 3) := by decide +kernel
theorem d24_4 : decode B21' 4 = .ok (.ireturn, 1) := by decide +kernel
theorem d25_0 : decode B22' 0 = .ok (.aload_n 0, 1) := by decide +kernel
theorem d25_1 : decode B22' 1 = .ok (.getfield 79, 3) := by decide +kernel
theorem d25_4 : decode B22' 4 = .ok (.ireturn, 1) := by decide +kernel
theorem d26_0 : decode B23' 0 = .ok (.getstatic 18, 3) := by decide +kernel
theorem d26_3 : decode B23' 3 = .ok (.ifCond .eq 14, 3) := by decide +kernel
theorem d26_6 : decode B23' 6 = .ok (.aload_n 0, 1) := by decide +kernel
theorem d26_7 : decode B23' 7 = .ok (.getfield 22, 3) := by decide +kernel
theorem d26_10 : decode B23' 10 = .ok (.ifCond .ne 7, 3) := by decide +kernel
theorem d26_13 : decode B23' 13 = .ok (.iconst 1, 1) := by decide +kernel
theorem d26_14 : decode B23' 14 = .ok (.goto 4, 3) := by decide +kernel
theorem d26_17 : decode B23' 17 = .ok (.iconst 0, 1) := by decide +kernel
theorem d26_18 : decode B23' 18 = .ok (.ireturn, 1) := by decide +kernel
theorem d27_0 : decode B24' 0 = .ok (.iload_n 1, 1) := by decide +kernel
theorem d27_1 : decode B24' 1 = .ok (.ifCond .ne 9, 3) := by decide +kernel
theorem d27_4 : decode B24' 4 = .ok (.iload_n 2, 1) := by decide +kernel
theorem d27_5 : decode B24' 5 = .ok (.aload_n 0, 1) := by decide +kernel
theorem d27_6 : decode B24' 6 = .ok (.arraylength, 1) := by decide +kernel
theorem d27_7 : decode B24' 7 = .ok (.if_icmp .eq 10, 3) := by decide +kernel
theorem d27_10 : decode B24' 10 = .ok (.aload_n 0, 1) := by decide +kernel
theorem d27_11 : decode B24' 11 = .ok (.iload_n 1, 1) := by decide +kernel
theorem d27_12 : decode B24' 12 = .ok (.iload_n 2, 1) := by decide +kernel
theorem d27_13 : decode B24' 13 = .ok (.invokestatic 339, 3) := by decide +kernel
theorem d27_16 : decode B24' 16 = .ok (.areturn, 1) := by decide +kernel
theorem d28_0 : decode B25' 0 = .ok (.iload_n 1, 1) := by decide +kernel
theorem d28_1 : decode B25' 1 = .ok (.iload_n 2, 1) := by decide +kernel
theorem d28_2 : decode B25' 2 = .ok (.invokestatic 343, 3) := by decide +kernel
theorem d28_5 : decode B25' 5 = .ok (.iload_n 2, 1) := by decide +kernel
theorem d28_6 : decode B25' 6 = .ok (.iload_n 1, 1) := by decide +kernel
theorem d28_7 : decode B25' 7 = .ok (.isub, 1) := by decide +kernel
theorem d28_8 : decode B25' 8 = .ok (.istore_n 3, 1) := by decide +kernel
theorem d28_9 : decode B25' 9 = .ok (.iload_n 3, 1) := by decide +kernel
theorem d28_10 : decode B25' 10 = .ok (.newarray .byte, 2) := by decide +kernel
theorem d28_12 : decode B25' 12 = .ok (.astore 4, 2) := by decide +kernel
theorem d28_14 : decode B25' 14 = .ok (.aload_n 0, 1) := by decide +kernel
theorem d28_15 : decode B25' 15 = .ok (.iload_n 1, 1) := by decide +kernel
theorem d28_16 : decode B25' 16 = .ok (.aload 4, 2) := by decide +kernel
theorem d28_18 : decode B25' 18 = .ok (.iconst 0, 1) := by decide +kernel
theorem d28_19 : decode B25' 19 = .ok (.aload_n 0, 1) := by decide +kernel
theorem d28_20 : decode B25' 20 = .ok (.arraylength, 1) := by decide +kernel
theorem d28_21 : decode B25' 21 = .ok (.iload_n 1, 1) := by decide +kernel
theorem d28_22 : decode B25' 22 = .ok (.isub, 1) := by decide +kernel
theorem d28_23 : decode B25' 23 = .ok (.iload_n 3, 1) := by decide +kernel
theorem d28_24 : decode B25' 24 = .ok (.invokestatic 304, 3) := by decide +kernel
theorem d28_27 : decode B25' 27 = .ok (.invokestatic 150, 3) := by decide +kernel
theorem d28_30 : decode B25' 30 = .ok (.aload 4, 2) := by decide +kernel
theorem d28_32 : decode B25' 32 = .ok (.areturn, 1) := by decide +kernel
theorem d29_0 : decode B26' 0 = .ok (.iload_n 1, 1) := by decide +kernel
theorem d29_1 : decode B26' 1 = .ok (.iload_n 0, 1) := by decide +kernel
theorem d29_2 : decode B26' 2 = .ok (.if_icmp .ge 35, 3) := by decide +kernel
theorem d29_37 : decode B26' 37 = .ok (.return_, 1) := by decide +kernel
theorem d30_0 : decode B27' 0 = .ok (.aload_n 0, 1) := by decide +kernel
theorem d30_1 : decode B27' 1 = .ok (.aload_n 2, 1) := by decide +kernel
theorem d30_2 : decode B27' 2 = .ok (.invokespecial 1, 3) := by decide +kernel
theorem d30_5 : decode B27' 5 = .ok (.aload_n 0, 1) := by decide +kernel
theorem d30_6 : decode B27' 6 = .ok (.aload_n 1, 1) := by decide +kernel
theorem d30_7 : decode B27' 7 = .ok (.ldc 7, 2) := by decide +kernel
theorem d30_9 : decode B27' 9 = .ok (.invokestatic 9, 3) := by decide +kernel
theorem d30_12 : decode B27' 12 = .ok (.checkcast 15, 3) := by decide +kernel
theorem d30_15 : decode B27' 15 = .ok (.putfield 17, 3) := by decide +kernel
theorem d30_18 : decode B27' 18 = .ok (.return_, 1) := by decide +kernel
theorem d31_0 : decode B28' 0 = .ok (.aload_n 0, 1) := by decide +kernel
theorem d31_1 : decode B28' 1 = .ok (.aload_n 1, 1) := by decide +kernel
theorem d31_2 : decode B28' 2 = .ok (.invokespecial 7, 3) := by decide +kernel
theorem d31_5 : decode B28' 5 = .ok (.return_, 1) := by decide +kernel
theorem d32_0 : decode B29' 0 = .ok (.aload_n 0, 1) := by decide +kernel
theorem d32_1 : decode B29' 1 = .ok (.invokespecial 1, 3) := by decide +kernel
theorem d32_4 : decode B29' 4 = .ok (.aload_n 0, 1) := by decide +kernel
theorem d32_5 : decode B29' 5 = .ok (.aload_n 0, 1) := by decide +kernel
theorem d32_6 : decode B29' 6 = .ok (.putfield 7, 3) := by decide +kernel
theorem d32_9 : decode B29' 9 = .ok (.aload_n 0, 1) := by decide +kernel
theorem d32_10 : decode B29' 10 = .ok (.getstatic 13, 3) := by decide +kernel
theorem d32_13 : decode B29' 13 = .ok (.putfield 17, 3) := by decide +kernel
theorem d32_16 : decode B29' 16 = .ok (.aload_n 0, 1) := by decide +kernel
theorem d32_17 : decode B29' 17 = .ok (.getstatic 20, 3) := by decide +kernel
theorem d32_20 : decode B29' 20 = .ok (.putfield 24, 3) := by decide +kernel
theorem d32_23 : decode B29' 23 = .ok (.aload_n 0, 1) := by decide +kernel
theorem d32_24 : decode B29' 24 = .ok (.invokevirtual 27, 3) := by decide +kernel
theorem d32_27 : decode B29' 27 = .ok (.pop, 1) := by decide +kernel
theorem d32_28 : decode B29' 28 = .ok (.aload_n 0, 1) := by decide +kernel
theorem d32_29 : decode B29' 29 = .ok (.aload_n 1, 1) := by decide +kernel
theorem d32_30 : decode B29' 30 = .ok (.putfield 31, 3) := by decide +kernel
theorem d32_33 : decode B29' 33 = .ok (.return_, 1) := by decide +kernel
theorem d35_0 : decode B30' 0 = .ok (.aload_n 0, 1) := by decide +kernel
theorem d35_1 : decode B30' 1 = .ok (.ifnonnull 12, 3) := by decide +kernel
theorem d35_13 : decode B30' 13 = .ok (.aload_n 0, 1) := by decide +kernel
theorem d35_14 : decode B30' 14 = .ok (.areturn, 1) := by decide +kernel
theorem d36_0 : decode B31' 0 = .ok (.aload_n 0, 1) := by decide +kernel
theorem d36_1 : decode B31' 1 = .ok (.getfield 17, 3) := by decide +kernel
theorem d36_4 : decode B31' 4 = .ok (.areturn, 1) := by decide +kernel
theorem d38_0 : decode B32' 0 = .ok (.aload_n 0, 1) := by decide +kernel
theorem d38_1 : decode B32' 1 = .ok (.getfield 31, 3) := by decide +kernel
theorem d38_4 : decode B32' 4 = .ok (.areturn, 1) := by decide +kernel
theorem d39_0 : decode method_3_code 0 = .ok (.aload_n 0, 1) := by decide +kernel
theorem d39_1 : decode method_3_code 1 = .ok (.iconst 0, 1) := by decide +kernel
theorem d39_2 : decode method_3_code 2 = .ok (.invokevirtual 50, 3) := by decide +kernel
theorem d39_5 : decode method_3_code 5 = .ok (.bipush 101, 2) := by decide +kernel
theorem d39_7 : decode method_3_code 7 = .ok (.if_icmp .ne 123, 3) := by decide +kernel
theorem d39_10 : decode method_3_code 10 = .ok (.aload_n 0, 1) := by decide +kernel
theorem d39_11 : decode method_3_code 11 = .ok (.iconst 1, 1) := by decide +kernel
theorem d39_12 : decode method_3_code 12 = .ok (.invokevirtual 50, 3) := by decide +kernel
theorem d39_15 : decode method_3_code 15 = .ok (.bipush 118, 2) := by decide +kernel
theorem d39_17 : decode method_3_code 17 = .ok (.if_icmp .ne 113, 3) := by decide +kernel
theorem d39_20 : decode method_3_code 20 = .ok (.aload_n 0, 1) := by decide +kernel
theorem d39_21 : decode method_3_code 21 = .ok (.iconst 2, 1) := by decide +kernel
theorem d39_22 : decode method_3_code 22 = .ok (.invokevirtual 50, 3) := by decide +kernel
theorem d39_25 : decode method_3_code 25 = .ok (.bipush 101, 2) := by decide +kernel
theorem d39_27 : decode method_3_code 27 = .ok (.if_icmp .ne 103, 3) := by decide +kernel
theorem d39_30 : decode method_3_code 30 = .ok (.aload_n 0, 1) := by decide +kernel
theorem d39_31 : decode method_3_code 31 = .ok (.iconst 3, 1) := by decide +kernel
theorem d39_32 : decode method_3_code 32 = .ok (.invokevirtual 50, 3) := by decide +kernel
theorem d39_35 : decode method_3_code 35 = .ok (.bipush 110, 2) := by decide +kernel
theorem d39_37 : decode method_3_code 37 = .ok (.if_icmp .ne 93, 3) := by decide +kernel
theorem d39_40 : decode method_3_code 40 = .ok (.aload_n 0, 1) := by decide +kernel
theorem d39_41 : decode method_3_code 41 = .ok (.iconst 4, 1) := by decide +kernel
theorem d39_42 : decode method_3_code 42 = .ok (.invokevirtual 50, 3) := by decide +kernel
theorem d39_45 : decode method_3_code 45 = .ok (.bipush 116, 2) := by decide +kernel
theorem d39_47 : decode method_3_code 47 = .ok (.if_icmp .ne 83, 3) := by decide +kernel
theorem d39_50 : decode method_3_code 50 = .ok (.aload_n 0, 1) := by decide +kernel
theorem d39_51 : decode method_3_code 51 = .ok (.iconst 5, 1) := by decide +kernel
theorem d39_52 : decode method_3_code 52 = .ok (.invokevirtual 50, 3) := by decide +kernel
theorem d39_55 : decode method_3_code 55 = .ok (.bipush 32, 2) := by decide +kernel
theorem d39_57 : decode method_3_code 57 = .ok (.if_icmp .ne 73, 3) := by decide +kernel
theorem d39_60 : decode method_3_code 60 = .ok (.aload_n 0, 1) := by decide +kernel
theorem d39_61 : decode method_3_code 61 = .ok (.bipush 6, 2) := by decide +kernel
theorem d39_63 : decode method_3_code 63 = .ok (.invokevirtual 50, 3) := by decide +kernel
theorem d39_66 : decode method_3_code 66 = .ok (.bipush 116, 2) := by decide +kernel
theorem d39_68 : decode method_3_code 68 = .ok (.if_icmp .ne 62, 3) := by decide +kernel
theorem d39_71 : decode method_3_code 71 = .ok (.aload_n 0, 1) := by decide +kernel
theorem d39_72 : decode method_3_code 72 = .ok (.bipush 7, 2) := by decide +kernel
theorem d39_74 : decode method_3_code 74 = .ok (.invokevirtual 50, 3) := by decide +kernel
theorem d39_77 : decode method_3_code 77 = .ok (.bipush 121, 2) := by decide +kernel
theorem d39_79 : decode method_3_code 79 = .ok (.if_icmp .ne 51, 3) := by decide +kernel
theorem d39_82 : decode method_3_code 82 = .ok (.aload_n 0, 1) := by decide +kernel
theorem d39_83 : decode method_3_code 83 = .ok (.bipush 8, 2) := by decide +kernel
theorem d39_85 : decode method_3_code 85 = .ok (.invokevirtual 50, 3) := by decide +kernel
theorem d39_88 : decode method_3_code 88 = .ok (.bipush 112, 2) := by decide +kernel
theorem d39_90 : decode method_3_code 90 = .ok (.if_icmp .ne 40, 3) := by decide +kernel
theorem d39_93 : decode method_3_code 93 = .ok (.aload_n 0, 1) := by decide +kernel
theorem d39_94 : decode method_3_code 94 = .ok (.bipush 9, 2) := by decide +kernel
theorem d39_96 : decode method_3_code 96 = .ok (.invokevirtual 50, 3) := by decide +kernel
theorem d39_99 : decode method_3_code 99 = .ok (.bipush 101, 2) := by decide +kernel
theorem d39_101 : decode method_3_code 101 = .ok (.if_icmp .ne 29, 3) := by decide +kernel
theorem d39_104 : decode method_3_code 104 = .ok (.aload_n 0, 1) := by decide +kernel
theorem d39_105 : decode method_3_code 105 = .ok (.bipush 10, 2) := by decide +kernel
theorem d39_107 : decode method_3_code 107 = .ok (.invokevirtual 50, 3) := by decide +kernel
theorem d39_110 : decode method_3_code 110 = .ok (.bipush 32, 2) := by decide +kernel
theorem d39_112 : decode method_3_code 112 = .ok (.if_icmp .ne 18, 3) := by decide +kernel
theorem d39_115 : decode method_3_code 115 = .ok (.aload_n 0, 1) := by decide +kernel
theorem d39_116 : decode method_3_code 116 = .ok (.bipush 11, 2) := by decide +kernel
theorem d39_118 : decode method_3_code 118 = .ok (.invokevirtual 50, 3) := by decide +kernel
theorem d39_121 : decode method_3_code 121 = .ok (.bipush 34, 2) := by decide +kernel
theorem d39_123 : decode method_3_code 123 = .ok (.if_icmp .ne 7, 3) := by decide +kernel
theorem d39_126 : decode method_3_code 126 = .ok (.iconst 1, 1) := by decide +kernel
theorem d39_127 : decode method_3_code 127 = .ok (.goto 4, 3) := by decide +kernel
theorem d39_131 : decode method_3_code 131 = .ok (.ireturn, 1) := by decide +kernel
theorem d45_0 : decode method_4_code 0 = .ok (.aload_n 0, 1) := by decide +kernel
theorem d45_1 : decode method_4_code 1 = .ok (.iload_n 1, 1) := by decide +kernel
theorem d45_2 : decode method_4_code 2 = .ok (.invokevirtual 50, 3) := by decide +kernel
theorem d45_5 : decode method_4_code 5 = .ok (.bipush 34, 2) := by decide +kernel
theorem d45_7 : decode method_4_code 7 = .ok (.if_icmp .ne 184, 3) := by decide +kernel
theorem d45_10 : decode method_4_code 10 = .ok (.aload_n 0, 1) := by decide +kernel
theorem d45_11 : decode method_4_code 11 = .ok (.iload_n 1, 1) := by decide +kernel
theorem d45_12 : decode method_4_code 12 = .ok (.iconst 1, 1) := by decide +kernel
theorem d45_13 : decode method_4_code 13 = .ok (.iadd, 1) := by decide +kernel
theorem d45_14 : decode method_4_code 14 = .ok (.invokevirtual 50, 3) := by decide +kernel
theorem d45_17 : decode method_4_code 17 = .ok (.bipush 32, 2) := by decide +kernel
theorem d45_19 : decode method_4_code 19 = .ok (.if_icmp .ne 172, 3) := by decide +kernel
theorem d45_22 : decode method_4_code 22 = .ok (.aload_n 0, 1) := by decide +kernel
theorem d45_23 : decode method_4_code 23 = .ok (.iload_n 1, 1) := by decide +kernel
theorem d45_24 : decode method_4_code 24 = .ok (.iconst 2, 1) := by decide +kernel
theorem d45_25 : decode method_4_code 25 = .ok (.iadd, 1) := by decide +kernel
theorem d45_26 : decode method_4_code 26 = .ok (.invokevirtual 50, 3) := by decide +kernel
theorem d45_29 : decode method_4_code 29 = .ok (.bipush 105, 2) := by decide +kernel
theorem d45_31 : decode method_4_code 31 = .ok (.if_icmp .ne 160, 3) := by decide +kernel
theorem d45_34 : decode method_4_code 34 = .ok (.aload_n 0, 1) := by decide +kernel
theorem d45_35 : decode method_4_code 35 = .ok (.iload_n 1, 1) := by decide +kernel
theorem d45_36 : decode method_4_code 36 = .ok (.iconst 3, 1) := by decide +kernel
theorem d45_37 : decode method_4_code 37 = .ok (.iadd, 1) := by decide +kernel
theorem d45_38 : decode method_4_code 38 = .ok (.invokevirtual 50, 3) := by decide +kernel
theorem d45_41 : decode method_4_code 41 = .ok (.bipush 115, 2) := by decide +kernel
theorem d45_43 : decode method_4_code 43 = .ok (.if_icmp .ne 148, 3) := by decide +kernel
theorem d45_46 : decode method_4_code 46 = .ok (.aload_n 0, 1) := by decide +kernel
theorem d45_47 : decode method_4_code 47 = .ok (.iload_n 1, 1) := by decide +kernel
theorem d45_48 : decode method_4_code 48 = .ok (.iconst 4, 1) := by decide +kernel
theorem d45_49 : decode method_4_code 49 = .ok (.iadd, 1) := by decide +kernel
theorem d45_50 : decode method_4_code 50 = .ok (.invokevirtual 50, 3) := by decide +kernel
theorem d45_53 : decode method_4_code 53 = .ok (.bipush 32, 2) := by decide +kernel
theorem d45_55 : decode method_4_code 55 = .ok (.if_icmp .ne 136, 3) := by decide +kernel
theorem d45_58 : decode method_4_code 58 = .ok (.aload_n 0, 1) := by decide +kernel
theorem d45_59 : decode method_4_code 59 = .ok (.iload_n 1, 1) := by decide +kernel
theorem d45_60 : decode method_4_code 60 = .ok (.iconst 5, 1) := by decide +kernel
theorem d45_61 : decode method_4_code 61 = .ok (.iadd, 1) := by decide +kernel
theorem d45_62 : decode method_4_code 62 = .ok (.invokevirtual 50, 3) := by decide +kernel
theorem d45_65 : decode method_4_code 65 = .ok (.bipush 110, 2) := by decide +kernel
theorem d45_67 : decode method_4_code 67 = .ok (.if_icmp .ne 124, 3) := by decide +kernel
theorem d45_70 : decode method_4_code 70 = .ok (.aload_n 0, 1) := by decide +kernel
theorem d45_71 : decode method_4_code 71 = .ok (.iload_n 1, 1) := by decide +kernel
theorem d45_72 : decode method_4_code 72 = .ok (.bipush 6, 2) := by decide +kernel
theorem d45_74 : decode method_4_code 74 = .ok (.iadd, 1) := by decide +kernel
theorem d45_75 : decode method_4_code 75 = .ok (.invokevirtual 50, 3) := by decide +kernel
theorem d45_78 : decode method_4_code 78 = .ok (.bipush 111, 2) := by decide +kernel
theorem d45_80 : decode method_4_code 80 = .ok (.if_icmp .ne 111, 3) := by decide +kernel
theorem d45_83 : decode method_4_code 83 = .ok (.aload_n 0, 1) := by decide +kernel
theorem d45_84 : decode method_4_code 84 = .ok (.iload_n 1, 1) := by decide +kernel
theorem d45_85 : decode method_4_code 85 = .ok (.bipush 7, 2) := by decide +kernel
theorem d45_87 : decode method_4_code 87 = .ok (.iadd, 1) := by decide +kernel
theorem d45_88 : decode method_4_code 88 = .ok (.invokevirtual 50, 3) := by decide +kernel
theorem d45_91 : decode method_4_code 91 = .ok (.bipush 116, 2) := by decide +kernel
theorem d45_93 : decode method_4_code 93 = .ok (.if_icmp .ne 98, 3) := by decide +kernel
theorem d45_96 : decode method_4_code 96 = .ok (.aload_n 0, 1) := by decide +kernel
theorem d45_97 : decode method_4_code 97 = .ok (.iload_n 1, 1) := by decide +kernel
theorem d45_98 : decode method_4_code 98 = .ok (.bipush 8, 2) := by decide +kernel
theorem d45_100 : decode method_4_code 100 = .ok (.iadd, 1) := by decide +kernel
theorem d45_101 : decode method_4_code 101 = .ok (.invokevirtual 50, 3) := by decide +kernel
theorem d45_104 : decode method_4_code 104 = .ok (.bipush 32, 2) := by decide +kernel
theorem d45_106 : decode method_4_code 106 = .ok (.if_icmp .ne 85, 3) := by decide +kernel
theorem d45_109 : decode method_4_code 109 = .ok (.aload_n 0, 1) := by decide +kernel
theorem d45_110 : decode method_4_code 110 = .ok (.iload_n 1, 1) := by decide +kernel
theorem d45_111 : decode method_4_code 111 = .ok (.bipush 9, 2) := by decide +kernel
theorem d45_113 : decode method_4_code 113 = .ok (.iadd, 1) := by decide +kernel
theorem d45_114 : decode method_4_code 114 = .ok (.invokevirtual 50, 3) := by decide +kernel
theorem d45_117 : decode method_4_code 117 = .ok (.bipush 109, 2) := by decide +kernel
theorem d45_119 : decode method_4_code 119 = .ok (.if_icmp .ne 72, 3) := by decide +kernel
theorem d45_122 : decode method_4_code 122 = .ok (.aload_n 0, 1) := by decide +kernel
theorem d45_123 : decode method_4_code 123 = .ok (.iload_n 1, 1) := by decide +kernel
theorem d45_124 : decode method_4_code 124 = .ok (.bipush 10, 2) := by decide +kernel
theorem d45_126 : decode method_4_code 126 = .ok (.iadd, 1) := by decide +kernel
theorem d45_127 : decode method_4_code 127 = .ok (.invokevirtual 50, 3) := by decide +kernel
theorem d45_130 : decode method_4_code 130 = .ok (.bipush 97, 2) := by decide +kernel
theorem d45_132 : decode method_4_code 132 = .ok (.if_icmp .ne 59, 3) := by decide +kernel
theorem d45_135 : decode method_4_code 135 = .ok (.aload_n 0, 1) := by decide +kernel
theorem d45_136 : decode method_4_code 136 = .ok (.iload_n 1, 1) := by decide +kernel
theorem d45_137 : decode method_4_code 137 = .ok (.bipush 11, 2) := by decide +kernel
theorem d45_139 : decode method_4_code 139 = .ok (.iadd, 1) := by decide +kernel
theorem d45_140 : decode method_4_code 140 = .ok (.invokevirtual 50, 3) := by decide +kernel
theorem d45_143 : decode method_4_code 143 = .ok (.bipush 112, 2) := by decide +kernel
theorem d45_145 : decode method_4_code 145 = .ok (.if_icmp .ne 46, 3) := by decide +kernel
theorem d45_148 : decode method_4_code 148 = .ok (.aload_n 0, 1) := by decide +kernel
theorem d45_149 : decode method_4_code 149 = .ok (.iload_n 1, 1) := by decide +kernel
theorem d45_150 : decode method_4_code 150 = .ok (.bipush 12, 2) := by decide +kernel
theorem d45_152 : decode method_4_code 152 = .ok (.iadd, 1) := by decide +kernel
theorem d45_153 : decode method_4_code 153 = .ok (.invokevirtual 50, 3) := by decide +kernel
theorem d45_156 : decode method_4_code 156 = .ok (.bipush 112, 2) := by decide +kernel
theorem d45_158 : decode method_4_code 158 = .ok (.if_icmp .ne 33, 3) := by decide +kernel
theorem d45_161 : decode method_4_code 161 = .ok (.aload_n 0, 1) := by decide +kernel
theorem d45_162 : decode method_4_code 162 = .ok (.iload_n 1, 1) := by decide +kernel
theorem d45_163 : decode method_4_code 163 = .ok (.bipush 13, 2) := by decide +kernel
theorem d45_165 : decode method_4_code 165 = .ok (.iadd, 1) := by decide +kernel
theorem d45_166 : decode method_4_code 166 = .ok (.invokevirtual 50, 3) := by decide +kernel
theorem d45_169 : decode method_4_code 169 = .ok (.bipush 101, 2) := by decide +kernel
theorem d45_171 : decode method_4_code 171 = .ok (.if_icmp .ne 20, 3) := by decide +kernel
theorem d45_174 : decode method_4_code 174 = .ok (.aload_n 0, 1) := by decide +kernel
theorem d45_175 : decode method_4_code 175 = .ok (.iload_n 1, 1) := by decide +kernel
theorem d45_176 : decode method_4_code 176 = .ok (.bipush 14, 2) := by decide +kernel
theorem d45_178 : decode method_4_code 178 = .ok (.iadd, 1) := by decide +kernel
theorem d45_179 : decode method_4_code 179 = .ok (.invokevirtual 50, 3) := by decide +kernel
theorem d45_182 : decode method_4_code 182 = .ok (.bipush 100, 2) := by decide +kernel
theorem d45_184 : decode method_4_code 184 = .ok (.if_icmp .ne 7, 3) := by decide +kernel
theorem d45_187 : decode method_4_code 187 = .ok (.iconst 1, 1) := by decide +kernel
theorem d45_188 : decode method_4_code 188 = .ok (.goto 4, 3) := by decide +kernel
theorem d45_192 : decode method_4_code 192 = .ok (.ireturn, 1) := by decide +kernel
theorem d49_0 : decode B33' 0 = .ok (.getstatic 38, 3) := by decide +kernel
theorem d49_3 : decode B33' 3 = .ok (.ifCond .eq 23, 3) := by decide +kernel
theorem d49_6 : decode B33' 6 = .ok (.iload_n 0, 1) := by decide +kernel
theorem d49_7 : decode B33' 7 = .ok (.invokestatic 1015, 3) := by decide +kernel
theorem d49_10 : decode B33' 10 = .ok (.ifCond .eq 16, 3) := by decide +kernel
theorem d49_13 : decode B33' 13 = .ok (.new 10, 3) := by decide +kernel
theorem d49_16 : decode B33' 16 = .ok (.dup, 1) := by decide +kernel
theorem d49_17 : decode B33' 17 = .ok (.iload_n 0, 1) := by decide +kernel
theorem d49_18 : decode B33' 18 = .ok (.invokestatic 1018, 3) := by decide +kernel
theorem d49_21 : decode B33' 21 = .ok (.iconst 0, 1) := by decide +kernel
theorem d49_22 : decode B33' 22 = .ok (.invokespecial 209, 3) := by decide +kernel
theorem d49_25 : decode B33' 25 = .ok (.areturn, 1) := by decide +kernel
theorem d50_0 : decode B34' 0 = .ok (.iload_n 0, 1) := by decide +kernel
theorem d50_1 : decode B34' 1 = .ok (.sipush 255, 3) := by decide +kernel
theorem d50_4 : decode B34' 4 = .ok (.if_icmp .gt 7, 3) := by decide +kernel
theorem d50_7 : decode B34' 7 = .ok (.iconst 1, 1) := by decide +kernel
theorem d50_8 : decode B34' 8 = .ok (.goto 4, 3) := by decide +kernel
theorem d50_12 : decode B34' 12 = .ok (.ireturn, 1) := by decide +kernel
theorem d51_0 : decode B35' 0 = .ok (.iconst 1, 1) := by decide +kernel
theorem d51_1 : decode B35' 1 = .ok (.newarray .byte, 2) := by decide +kernel
theorem d51_3 : decode B35' 3 = .ok (.dup, 1) := by decide +kernel
theorem d51_4 : decode B35' 4 = .ok (.iconst 0, 1) := by decide +kernel
theorem d51_5 : decode B35' 5 = .ok (.iload_n 0, 1) := by decide +kernel
theorem d51_6 : decode B35' 6 = .ok (.i2b, 1) := by decide +kernel
theorem d51_7 : decode B35' 7 = .ok (.bastore, 1) := by decide +kernel
theorem d51_8 : decode B35' 8 = .ok (.areturn, 1) := by decide +kernel
theorem d52_0 : decode B36' 0 = .ok (.aload_n 0, 1) := by decide +kernel
theorem d52_1 : decode B36' 1 = .ok (.invokespecial 1, 3) := by decide +kernel
theorem d52_4 : decode B36' 4 = .ok (.aload_n 0, 1) := by decide +kernel
theorem d52_5 : decode B36' 5 = .ok (.aload_n 1, 1) := by decide +kernel
theorem d52_6 : decode B36' 6 = .ok (.putfield 9, 3) := by decide +kernel
theorem d52_9 : decode B36' 9 = .ok (.aload_n 0, 1) := by decide +kernel
theorem d52_10 : decode B36' 10 = .ok (.iload_n 2, 1) := by decide +kernel
theorem d52_11 : decode B36' 11 = .ok (.putfield 15, 3) := by decide +kernel
theorem d52_14 : decode B36' 14 = .ok (.return_, 1) := by decide +kernel
theorem pd_0 : parseMethodDescriptor "([CIILjava/lang/Void;)V" = some ⟨[(.array .char), .int, .int, (.object "java/lang/Void")], none⟩ := by decide +kernel
theorem pd_1 : parseMethodDescriptor "([C)V" = some ⟨[(.array .char)], none⟩ := by decide +kernel
theorem pd_2 : parseMethodDescriptor "(I)V" = some ⟨[.int], none⟩ := by decide +kernel
theorem pd_3 : parseMethodDescriptor "()V" = some ⟨[], none⟩ := by decide +kernel
theorem pd_4 : parseMethodDescriptor "()B" = some ⟨[], some .byte⟩ := by decide +kernel
theorem pd_5 : parseMethodDescriptor "(Ljava/lang/String;)V" = some ⟨[(.object "java/lang/String")], none⟩ := by decide +kernel
theorem pd_6 : parseMethodDescriptor "([BIB)V" = some ⟨[(.array .byte), .int, .byte], none⟩ := by decide +kernel
theorem pd_7 : parseMethodDescriptor "(ILjava/lang/String;)V" = some ⟨[.int, (.object "java/lang/String")], none⟩ := by decide +kernel
theorem pd_8 : parseMethodDescriptor "(Ljava/lang/String;)Ljava/lang/AbstractStringBuilder;" = some ⟨[(.object "java/lang/String")], some (.object "java/lang/AbstractStringBuilder")⟩ := by decide +kernel
theorem pd_9 : parseMethodDescriptor "(Ljava/lang/String;)Ljava/lang/StringBuilder;" = some ⟨[(.object "java/lang/String")], some (.object "java/lang/StringBuilder")⟩ := by decide +kernel
theorem pd_10 : parseMethodDescriptor "(II)I" = some ⟨[.int, .int], some .int⟩ := by decide +kernel
theorem pd_11 : parseMethodDescriptor "(III)I" = some ⟨[.int, .int, .int], some .int⟩ := by decide +kernel
theorem pd_12 : parseMethodDescriptor "(I)I" = some ⟨[.int], some .int⟩ := by decide +kernel
theorem pd_13 : parseMethodDescriptor "([BI)[B" = some ⟨[(.array .byte), .int], some (.array .byte)⟩ := by decide +kernel
theorem pd_14 : parseMethodDescriptor "()[B" = some ⟨[], some (.array .byte)⟩ := by decide +kernel
theorem pd_15 : parseMethodDescriptor "()I" = some ⟨[], some .int⟩ := by decide +kernel
theorem pd_16 : parseMethodDescriptor "()Z" = some ⟨[], some .boolean⟩ := by decide +kernel
theorem pd_17 : parseMethodDescriptor "(II)V" = some ⟨[.int, .int], none⟩ := by decide +kernel
theorem pd_18 : parseMethodDescriptor "([BII)[B" = some ⟨[(.array .byte), .int, .int], some (.array .byte)⟩ := by decide +kernel
theorem pd_19 : parseMethodDescriptor "(Ljava/lang/AbstractStringBuilder;Ljava/lang/Void;)V" = some ⟨[(.object "java/lang/AbstractStringBuilder"), (.object "java/lang/Void")], none⟩ := by decide +kernel
theorem pd_20 : parseMethodDescriptor "(Ljava/lang/StringBuilder;)V" = some ⟨[(.object "java/lang/StringBuilder")], none⟩ := by decide +kernel
theorem pd_21 : parseMethodDescriptor "()Ljava/lang/String;" = some ⟨[], some (.object "java/lang/String")⟩ := by decide +kernel
theorem pd_22 : parseMethodDescriptor "(Ljava/lang/Object;Ljava/lang/String;)Ljava/lang/Object;" = some ⟨[(.object "java/lang/Object"), (.object "java/lang/String")], some (.object "java/lang/Object")⟩ := by decide +kernel
theorem pd_23 : parseMethodDescriptor "(Lcom/example/webhooks_to_ledger/webhookstoledger/HoldReason;Ljava/lang/String;)V" = some ⟨[(.object "com/example/webhooks_to_ledger/webhookstoledger/HoldReason"), (.object "java/lang/String")], none⟩ := by decide +kernel
theorem pd_24 : parseMethodDescriptor "(Ljava/lang/String;)Lcom/example/webhooks_to_ledger/webhookstoledger/UnbookableException;" = some ⟨[(.object "java/lang/String")], some (.object "com/example/webhooks_to_ledger/webhookstoledger/UnbookableException")⟩ := by decide +kernel
theorem pd_25 : parseMethodDescriptor "()Lcom/example/webhooks_to_ledger/webhookstoledger/HoldReason;" = some ⟨[], some (.object "com/example/webhooks_to_ledger/webhookstoledger/HoldReason")⟩ := by decide +kernel
theorem pd_26 : parseMethodDescriptor "()Ljava/lang/Throwable;" = some ⟨[], some (.object "java/lang/Throwable")⟩ := by decide +kernel
theorem pd_27 : parseMethodDescriptor "(Ljava/lang/String;)Z" = some ⟨[(.object "java/lang/String")], some .boolean⟩ := by decide +kernel
theorem pd_28 : parseMethodDescriptor "(Ljava/lang/String;I)Z" = some ⟨[(.object "java/lang/String"), .int], some .boolean⟩ := by decide +kernel
theorem pd_29 : parseMethodDescriptor "(C)Z" = some ⟨[.char], some .boolean⟩ := by decide +kernel
theorem pd_30 : parseMethodDescriptor "(C)[B" = some ⟨[.char], some (.array .byte)⟩ := by decide +kernel
theorem pd_31 : parseMethodDescriptor "([BB)V" = some ⟨[(.array .byte), .byte], none⟩ := by decide +kernel
theorem pd_32 : parseMethodDescriptor "(C)Ljava/lang/String;" = some ⟨[.char], some (.object "java/lang/String")⟩ := by decide +kernel
theorem pd_33 : parseMethodDescriptor "(I)C" = some ⟨[.int], some .char⟩ := by decide +kernel
theorem pn_0 : plainName "java/lang/String" = true := by first | (simp [plainName, overriddenIn]; done) | decide +kernel
theorem pn_1 : plainName "java/lang/AbstractStringBuilder" = true := by first | (simp [plainName, overriddenIn]; done) | decide +kernel
theorem pn_2 : plainName "java/lang/StringBuilder" = true := by first | (simp [plainName, overriddenIn]; done) | decide +kernel
theorem pn_3 : plainName "jdk/internal/util/ArraysSupport" = true := by first | (simp [plainName, overriddenIn]; done) | decide +kernel
theorem pn_4 : plainName "java/util/Arrays" = true := by first | (simp [plainName, overriddenIn]; done) | decide +kernel
theorem pn_5 : plainName "java/lang/Throwable" = true := by first | (simp [plainName, overriddenIn]; done) | decide +kernel
theorem pn_6 : plainName "java/lang/Exception" = true := by first | (simp [plainName, overriddenIn]; done) | decide +kernel
theorem pn_7 : plainName "java/util/Objects" = true := by first | (simp [plainName, overriddenIn]; done) | decide +kernel
theorem pn_8 : plainName "com/example/webhooks_to_ledger/webhookstoledger/UnbookableException" = true := by first | (simp [plainName, overriddenIn]; done) | decide +kernel
theorem pn_9 : plainName "com/example/webhooks_to_ledger/webhookstoledger/UnbookableExceptionUnmappedTypePinLaw" = true := by first | (simp [plainName, overriddenIn]; done) | decide +kernel
theorem pn_10 : plainName "java/lang/StringLatin1" = true := by first | (simp [plainName, overriddenIn]; done) | decide +kernel
theorem ef_2_4 (m : MethodId) (x0 : Addr) (x1 : Addr) : entryFrame m #[(.ref x0), (.ref x1), (.int (0 : Int32)), (.int (0 : Int32)), .null] 6 = mkF m 0 #[vR x0, vR x1, vI (0 : Int32), vI (0 : Int32), vN, vU] [] := by first | (simp [entryFrame, mkF, argsToLocals, Value.category]; done) | rfl
theorem ef_1_5 (m : MethodId) (x0 : Addr) (x1 : Addr) : entryFrame m #[(.ref x0), (.ref x1)] 2 = mkF m 0 #[vR x0, vR x1] [] := by first | (simp [entryFrame, mkF, argsToLocals, Value.category]; done) | rfl
theorem ef_6_8 (m : MethodId) (x0 : Addr) : entryFrame m #[(.ref x0), (.int (16 : Int32))] 2 = mkF m 0 #[vR x0, vI (16 : Int32)] [] := by first | (simp [entryFrame, mkF, argsToLocals, Value.category]; done) | rfl
theorem ef_5_7 (m : MethodId) (x0 : Addr) : entryFrame m #[(.ref x0)] 1 = mkF m 0 #[vR x0] [] := by first | (simp [entryFrame, mkF, argsToLocals, Value.category]; done) | rfl
theorem ef_11_12 (m : MethodId) (x0 : Addr) : entryFrame m #[(.ref x0), (.int (12 : Int32))] 3 = mkF m 0 #[vR x0, vI (12 : Int32), vU] [] := by first | (simp [entryFrame, mkF, argsToLocals, Value.category]; done) | rfl
theorem ef_14_16 (m : MethodId) (x0 : Addr) (x1 : Addr) : entryFrame m #[(.ref x0), (.ref x1), (.int (0 : Int32)), (.int (0 : Int32))] 4 = mkF m 0 #[vR x0, vR x1, vI (0 : Int32), vI (0 : Int32)] [] := by first | (simp [entryFrame, mkF, argsToLocals, Value.category]; done) | rfl
theorem ef_12_13 (m : MethodId) (x0 : Addr) (x2 : Addr) : entryFrame m #[(.ref x0), (.int (0 : Int32)), (.ref x2)] 3 = mkF m 0 #[vR x0, vI (0 : Int32), vR x2] [] := by first | (simp [entryFrame, mkF, argsToLocals, Value.category]; done) | rfl
theorem ef_8_11 (m : MethodId) (x0 : Addr) (x1 : Addr) : entryFrame m #[(.ref x0), (.ref x1)] 3 = mkF m 0 #[vR x0, vR x1, vU] [] := by first | (simp [entryFrame, mkF, argsToLocals, Value.category]; done) | rfl
theorem ef_14_21 (m : MethodId) (x0 : Addr) (x1 : Addr) : entryFrame m #[(.ref x0), (.ref x1), (.int (12 : Int32)), (.int (0 : Int32))] 4 = mkF m 0 #[vR x0, vR x1, vI (12 : Int32), vI (0 : Int32)] [] := by first | (simp [entryFrame, mkF, argsToLocals, Value.category]; done) | rfl
theorem ef_12_20 (m : MethodId) (x0 : Addr) (x2 : Addr) : entryFrame m #[(.ref x0), (.int (12 : Int32)), (.ref x2)] 3 = mkF m 0 #[vR x0, vI (12 : Int32), vR x2] [] := by first | (simp [entryFrame, mkF, argsToLocals, Value.category]; done) | rfl
theorem ef_17_27 (m : MethodId)  : entryFrame m #[(.int (11 : Int32)), (.int (18 : Int32))] 2 = mkF m 0 #[vI (11 : Int32), vI (18 : Int32)] [] := by first | (simp [entryFrame, mkF, argsToLocals, Value.category]; done) | rfl
theorem ef_16_26 (m : MethodId)  : entryFrame m #[(.int (16 : Int32)), (.int (11 : Int32)), (.int (18 : Int32))] 4 = mkF m 0 #[vI (16 : Int32), vI (11 : Int32), vI (18 : Int32), vU] [] := by first | (simp [entryFrame, mkF, argsToLocals, Value.category]; done) | rfl
theorem ef_15_25 (m : MethodId) (x0 : Addr) : entryFrame m #[(.ref x0), (.int (27 : Int32))] 6 = mkF m 0 #[vR x0, vI (27 : Int32), vU, vU, vU, vU] [] := by first | (simp [entryFrame, mkF, argsToLocals, Value.category]; done) | rfl
theorem ef_19_29 (m : MethodId)  : entryFrame m #[(.int (16 : Int32)), (.int (34 : Int32))] 2 = mkF m 0 #[vI (16 : Int32), vI (34 : Int32)] [] := by first | (simp [entryFrame, mkF, argsToLocals, Value.category]; done) | rfl
theorem ef_18_28 (m : MethodId) (x0 : Addr) : entryFrame m #[(.ref x0), (.int (34 : Int32))] 3 = mkF m 0 #[vR x0, vI (34 : Int32), vU] [] := by first | (simp [entryFrame, mkF, argsToLocals, Value.category]; done) | rfl
theorem ef_11_24 (m : MethodId) (x0 : Addr) : entryFrame m #[(.ref x0), (.int (27 : Int32))] 3 = mkF m 0 #[vR x0, vI (27 : Int32), vU] [] := by first | (simp [entryFrame, mkF, argsToLocals, Value.category]; done) | rfl
theorem ef_29_41 (m : MethodId)  : entryFrame m #[(.int (0 : Int32)), (.int (27 : Int32))] 2 = mkF m 0 #[vI (0 : Int32), vI (27 : Int32)] [] := by first | (simp [entryFrame, mkF, argsToLocals, Value.category]; done) | rfl
theorem ef_19_42 (m : MethodId)  : entryFrame m #[(.int (34 : Int32)), (.int (27 : Int32))] 2 = mkF m 0 #[vI (34 : Int32), vI (27 : Int32)] [] := by first | (simp [entryFrame, mkF, argsToLocals, Value.category]; done) | rfl
theorem ef_28_40 (m : MethodId) (x0 : Addr) : entryFrame m #[(.ref x0), (.int (0 : Int32)), (.int (27 : Int32))] 5 = mkF m 0 #[vR x0, vI (0 : Int32), vI (27 : Int32), vU, vU] [] := by first | (simp [entryFrame, mkF, argsToLocals, Value.category]; done) | rfl
theorem ef_27_39 (m : MethodId) (x0 : Addr) : entryFrame m #[(.ref x0), (.int (0 : Int32)), (.int (27 : Int32))] 3 = mkF m 0 #[vR x0, vI (0 : Int32), vI (27 : Int32)] [] := by first | (simp [entryFrame, mkF, argsToLocals, Value.category]; done) | rfl
theorem ef_22_34 (m : MethodId) (x0 : Addr) (x1 : Addr) : entryFrame m #[(.ref x0), (.ref x1), .null] 5 = mkF m 0 #[vR x0, vR x1, vN, vU, vU] [] := by first | (simp [entryFrame, mkF, argsToLocals, Value.category]; done) | rfl
theorem ef_30_48 (m : MethodId) (x0 : Addr) (x1 : Addr) (x2 : Addr) : entryFrame m #[(.ref x0), (.ref x1), (.ref x2)] 3 = mkF m 0 #[vR x0, vR x1, vR x2] [] := by first | (simp [entryFrame, mkF, argsToLocals, Value.category]; done) | rfl
theorem ef_45_53 (m : MethodId) (x0 : Addr) : entryFrame m #[(.ref x0), (.int (12 : Int32))] 2 = mkF m 0 #[vR x0, vI (12 : Int32)] [] := by first | (simp [entryFrame, mkF, argsToLocals, Value.category]; done) | rfl
theorem ef_50_55 (m : MethodId) (x0 : Int32) : entryFrame m #[(.int x0)] 1 = mkF m 0 #[vI x0] [] := by first | (simp [entryFrame, mkF, argsToLocals, Value.category]; done) | rfl
theorem ef_52_57 (m : MethodId) (x0 : Addr) (x1 : Addr) (x2 : Int32) : entryFrame m #[(.ref x0), (.ref x1), (.int x2)] 3 = mkF m 0 #[vR x0, vR x1, vI x2] [] := by first | (simp [entryFrame, mkF, argsToLocals, Value.category]; done) | rfl
theorem ef_11_62 (m : MethodId) (x0 : Addr) : entryFrame m #[(.ref x0), (.int (13 : Int32))] 3 = mkF m 0 #[vR x0, vI (13 : Int32), vU] [] := by first | (simp [entryFrame, mkF, argsToLocals, Value.category]; done) | rfl
theorem ef_17_70 (m : MethodId)  : entryFrame m #[(.int (12 : Int32)), (.int (18 : Int32))] 2 = mkF m 0 #[vI (12 : Int32), vI (18 : Int32)] [] := by first | (simp [entryFrame, mkF, argsToLocals, Value.category]; done) | rfl
theorem ef_16_69 (m : MethodId)  : entryFrame m #[(.int (16 : Int32)), (.int (12 : Int32)), (.int (18 : Int32))] 4 = mkF m 0 #[vI (16 : Int32), vI (12 : Int32), vI (18 : Int32), vU] [] := by first | (simp [entryFrame, mkF, argsToLocals, Value.category]; done) | rfl
theorem ef_15_68 (m : MethodId) (x0 : Addr) : entryFrame m #[(.ref x0), (.int (28 : Int32))] 6 = mkF m 0 #[vR x0, vI (28 : Int32), vU, vU, vU, vU] [] := by first | (simp [entryFrame, mkF, argsToLocals, Value.category]; done) | rfl
theorem ef_11_67 (m : MethodId) (x0 : Addr) : entryFrame m #[(.ref x0), (.int (28 : Int32))] 3 = mkF m 0 #[vR x0, vI (28 : Int32), vU] [] := by first | (simp [entryFrame, mkF, argsToLocals, Value.category]; done) | rfl
theorem ef_14_73 (m : MethodId) (x0 : Addr) (x1 : Addr) : entryFrame m #[(.ref x0), (.ref x1), (.int (13 : Int32)), (.int (0 : Int32))] 4 = mkF m 0 #[vR x0, vR x1, vI (13 : Int32), vI (0 : Int32)] [] := by first | (simp [entryFrame, mkF, argsToLocals, Value.category]; done) | rfl
theorem ef_12_72 (m : MethodId) (x0 : Addr) (x2 : Addr) : entryFrame m #[(.ref x0), (.int (13 : Int32)), (.ref x2)] 3 = mkF m 0 #[vR x0, vI (13 : Int32), vR x2] [] := by first | (simp [entryFrame, mkF, argsToLocals, Value.category]; done) | rfl
theorem ef_29_79 (m : MethodId)  : entryFrame m #[(.int (0 : Int32)), (.int (28 : Int32))] 2 = mkF m 0 #[vI (0 : Int32), vI (28 : Int32)] [] := by first | (simp [entryFrame, mkF, argsToLocals, Value.category]; done) | rfl
theorem ef_19_80 (m : MethodId)  : entryFrame m #[(.int (34 : Int32)), (.int (28 : Int32))] 2 = mkF m 0 #[vI (34 : Int32), vI (28 : Int32)] [] := by first | (simp [entryFrame, mkF, argsToLocals, Value.category]; done) | rfl
theorem ef_28_78 (m : MethodId) (x0 : Addr) : entryFrame m #[(.ref x0), (.int (0 : Int32)), (.int (28 : Int32))] 5 = mkF m 0 #[vR x0, vI (0 : Int32), vI (28 : Int32), vU, vU] [] := by first | (simp [entryFrame, mkF, argsToLocals, Value.category]; done) | rfl
theorem ef_27_77 (m : MethodId) (x0 : Addr) : entryFrame m #[(.ref x0), (.int (0 : Int32)), (.int (28 : Int32))] 3 = mkF m 0 #[vR x0, vI (0 : Int32), vI (28 : Int32)] [] := by first | (simp [entryFrame, mkF, argsToLocals, Value.category]; done) | rfl
theorem ef_45_82 (m : MethodId) (x0 : Addr) : entryFrame m #[(.ref x0), (.int (13 : Int32))] 2 = mkF m 0 #[vR x0, vI (13 : Int32)] [] := by first | (simp [entryFrame, mkF, argsToLocals, Value.category]; done) | rfl
theorem ef_11_87 (m : MethodId) (x0 : Addr) : entryFrame m #[(.ref x0), (.int (14 : Int32))] 3 = mkF m 0 #[vR x0, vI (14 : Int32), vU] [] := by first | (simp [entryFrame, mkF, argsToLocals, Value.category]; done) | rfl
theorem ef_17_95 (m : MethodId)  : entryFrame m #[(.int (13 : Int32)), (.int (18 : Int32))] 2 = mkF m 0 #[vI (13 : Int32), vI (18 : Int32)] [] := by first | (simp [entryFrame, mkF, argsToLocals, Value.category]; done) | rfl
theorem ef_16_94 (m : MethodId)  : entryFrame m #[(.int (16 : Int32)), (.int (13 : Int32)), (.int (18 : Int32))] 4 = mkF m 0 #[vI (16 : Int32), vI (13 : Int32), vI (18 : Int32), vU] [] := by first | (simp [entryFrame, mkF, argsToLocals, Value.category]; done) | rfl
theorem ef_15_93 (m : MethodId) (x0 : Addr) : entryFrame m #[(.ref x0), (.int (29 : Int32))] 6 = mkF m 0 #[vR x0, vI (29 : Int32), vU, vU, vU, vU] [] := by first | (simp [entryFrame, mkF, argsToLocals, Value.category]; done) | rfl
theorem ef_11_92 (m : MethodId) (x0 : Addr) : entryFrame m #[(.ref x0), (.int (29 : Int32))] 3 = mkF m 0 #[vR x0, vI (29 : Int32), vU] [] := by first | (simp [entryFrame, mkF, argsToLocals, Value.category]; done) | rfl
theorem ef_14_98 (m : MethodId) (x0 : Addr) (x1 : Addr) : entryFrame m #[(.ref x0), (.ref x1), (.int (14 : Int32)), (.int (0 : Int32))] 4 = mkF m 0 #[vR x0, vR x1, vI (14 : Int32), vI (0 : Int32)] [] := by first | (simp [entryFrame, mkF, argsToLocals, Value.category]; done) | rfl
theorem ef_12_97 (m : MethodId) (x0 : Addr) (x2 : Addr) : entryFrame m #[(.ref x0), (.int (14 : Int32)), (.ref x2)] 3 = mkF m 0 #[vR x0, vI (14 : Int32), vR x2] [] := by first | (simp [entryFrame, mkF, argsToLocals, Value.category]; done) | rfl
theorem ef_29_104 (m : MethodId)  : entryFrame m #[(.int (0 : Int32)), (.int (29 : Int32))] 2 = mkF m 0 #[vI (0 : Int32), vI (29 : Int32)] [] := by first | (simp [entryFrame, mkF, argsToLocals, Value.category]; done) | rfl
theorem ef_19_105 (m : MethodId)  : entryFrame m #[(.int (34 : Int32)), (.int (29 : Int32))] 2 = mkF m 0 #[vI (34 : Int32), vI (29 : Int32)] [] := by first | (simp [entryFrame, mkF, argsToLocals, Value.category]; done) | rfl
theorem ef_28_103 (m : MethodId) (x0 : Addr) : entryFrame m #[(.ref x0), (.int (0 : Int32)), (.int (29 : Int32))] 5 = mkF m 0 #[vR x0, vI (0 : Int32), vI (29 : Int32), vU, vU] [] := by first | (simp [entryFrame, mkF, argsToLocals, Value.category]; done) | rfl
theorem ef_27_102 (m : MethodId) (x0 : Addr) : entryFrame m #[(.ref x0), (.int (0 : Int32)), (.int (29 : Int32))] 3 = mkF m 0 #[vR x0, vI (0 : Int32), vI (29 : Int32)] [] := by first | (simp [entryFrame, mkF, argsToLocals, Value.category]; done) | rfl
theorem ef_45_107 (m : MethodId) (x0 : Addr) : entryFrame m #[(.ref x0), (.int (14 : Int32))] 2 = mkF m 0 #[vR x0, vI (14 : Int32)] [] := by first | (simp [entryFrame, mkF, argsToLocals, Value.category]; done) | rfl
theorem ef_11_112 (m : MethodId) (x0 : Addr) : entryFrame m #[(.ref x0), (.int (15 : Int32))] 3 = mkF m 0 #[vR x0, vI (15 : Int32), vU] [] := by first | (simp [entryFrame, mkF, argsToLocals, Value.category]; done) | rfl
theorem ef_17_120 (m : MethodId)  : entryFrame m #[(.int (14 : Int32)), (.int (18 : Int32))] 2 = mkF m 0 #[vI (14 : Int32), vI (18 : Int32)] [] := by first | (simp [entryFrame, mkF, argsToLocals, Value.category]; done) | rfl
theorem ef_16_119 (m : MethodId)  : entryFrame m #[(.int (16 : Int32)), (.int (14 : Int32)), (.int (18 : Int32))] 4 = mkF m 0 #[vI (16 : Int32), vI (14 : Int32), vI (18 : Int32), vU] [] := by first | (simp [entryFrame, mkF, argsToLocals, Value.category]; done) | rfl
theorem ef_15_118 (m : MethodId) (x0 : Addr) : entryFrame m #[(.ref x0), (.int (30 : Int32))] 6 = mkF m 0 #[vR x0, vI (30 : Int32), vU, vU, vU, vU] [] := by first | (simp [entryFrame, mkF, argsToLocals, Value.category]; done) | rfl
theorem ef_11_117 (m : MethodId) (x0 : Addr) : entryFrame m #[(.ref x0), (.int (30 : Int32))] 3 = mkF m 0 #[vR x0, vI (30 : Int32), vU] [] := by first | (simp [entryFrame, mkF, argsToLocals, Value.category]; done) | rfl
theorem ef_14_123 (m : MethodId) (x0 : Addr) (x1 : Addr) : entryFrame m #[(.ref x0), (.ref x1), (.int (15 : Int32)), (.int (0 : Int32))] 4 = mkF m 0 #[vR x0, vR x1, vI (15 : Int32), vI (0 : Int32)] [] := by first | (simp [entryFrame, mkF, argsToLocals, Value.category]; done) | rfl
theorem ef_12_122 (m : MethodId) (x0 : Addr) (x2 : Addr) : entryFrame m #[(.ref x0), (.int (15 : Int32)), (.ref x2)] 3 = mkF m 0 #[vR x0, vI (15 : Int32), vR x2] [] := by first | (simp [entryFrame, mkF, argsToLocals, Value.category]; done) | rfl
theorem ef_29_129 (m : MethodId)  : entryFrame m #[(.int (0 : Int32)), (.int (30 : Int32))] 2 = mkF m 0 #[vI (0 : Int32), vI (30 : Int32)] [] := by first | (simp [entryFrame, mkF, argsToLocals, Value.category]; done) | rfl
theorem ef_19_130 (m : MethodId)  : entryFrame m #[(.int (34 : Int32)), (.int (30 : Int32))] 2 = mkF m 0 #[vI (34 : Int32), vI (30 : Int32)] [] := by first | (simp [entryFrame, mkF, argsToLocals, Value.category]; done) | rfl
theorem ef_28_128 (m : MethodId) (x0 : Addr) : entryFrame m #[(.ref x0), (.int (0 : Int32)), (.int (30 : Int32))] 5 = mkF m 0 #[vR x0, vI (0 : Int32), vI (30 : Int32), vU, vU] [] := by first | (simp [entryFrame, mkF, argsToLocals, Value.category]; done) | rfl
theorem ef_27_127 (m : MethodId) (x0 : Addr) : entryFrame m #[(.ref x0), (.int (0 : Int32)), (.int (30 : Int32))] 3 = mkF m 0 #[vR x0, vI (0 : Int32), vI (30 : Int32)] [] := by first | (simp [entryFrame, mkF, argsToLocals, Value.category]; done) | rfl
theorem ef_45_132 (m : MethodId) (x0 : Addr) : entryFrame m #[(.ref x0), (.int (15 : Int32))] 2 = mkF m 0 #[vR x0, vI (15 : Int32)] [] := by first | (simp [entryFrame, mkF, argsToLocals, Value.category]; done) | rfl
theorem ef_law (m : MethodId) (x0 : Int32) (x1 : Int32) (x2 : Int32) (x3 : Int32) : entryFrame m #[(.int x0), (.int x1), (.int x2), (.int x3)] maxLocals = mkF m 0 #[vI x0, vI x1, vI x2, vI x3, vU, vU, vU, vU, vU, vU, vU] [] := by first | (simp [entryFrame, mkF, argsToLocals, Value.category, maxLocals]; done) | rfl
theorem own_cpB {p : Program} {l : Launch} {e : Env} {R : Room} {s : State} {m : MethodId} {args : Array Value} {below : List Frame} {meth : Method} {c : Code} {T : State} {locs : List Loc} {cells slots : Nat} {Z : State} {h : Heap} {a b : Addr} {k k' : ClassId} {z z' : Int32} {cs ds : List Int32}
    (X : Stand p l e R s m args below meth c T locs cells slots) (hx : p.tables.exec = Jvm.exec) (hZ : Z.Warmed39 s.vm) {a0 : Array Value} {own : String} {index : Nat} (hown : s.vm.findClass own = some m.cls)
    (w1 : (Jvm.Cond.methodLink own index Jvm.Stand.acN).before a0 Z = true) (w2 : (Jvm.Cond.native Jvm.Stand.acN).before a0 Z = true) (w3 : (Jvm.Cond.static Jvm.Stand.acN).before a0 Z = true) (w4 : (Jvm.Cond.initialized "java/lang/System").before a0 Z = true) (eT : T.heap = h)
    (A : Arv Z h a k .byte z (own_by cs) (.int (0 : Int32))) (B : Arv Z h b k' .byte z' (own_by ds) (.int (0 : Int32))) {sp dp nn : Int32} (h1 : sp = (0 : Int32)) (h2 : ¬ dp < 0) (h3 : ¬ nn < 0) (h4 : nn.toNatClampNeg ≤ z.toNatClampNeg) (h5 : dp.toNatClampNeg + nn.toNatClampNeg ≤ z'.toNatClampNeg)
    (h6 : ds.length = dp.toNatClampNeg) (h7 : cs.length ≤ nn.toNatClampNeg) {n0 : Nat} (N : Fr n0 locs) (ge : n0 ≤ b)
    {g : JFrame} (hg : g.method = m) (hsize : g.locals.size = c.maxLocals) {rest : List Value} (hs : g.stack = .int nn :: .int dp :: .ref b :: .int sp :: .ref a :: rest) (hd : decode c.code g.pc = .ok (.invokestatic index, 3))
    (hf : 1 ≤ R.frames) {W : Nat} (hW : 2 * g.monitorRoom + (rest.map fun v => v.category).sum ≤ W) (hlo : W + 18 ≤ R.locals) :
    ∃ T' h' L, Stand p l e R s m args below meth c T' L cells slots ∧ T'.heap = h' ∧ Fr n0 L ∧ Keep h h' [b] ∧ Arv Z h' b k' .byte z' (own_by (ds ++ cs)) (.int (0 : Int32)) ∧
      ∀ target, Steps p.tables e below (T'.setTop { g with pc := g.pc + 3, stack := rest }) target → Steps p.tables e below (T.setTop g) target := by
  subst h1
  have e0 : (0 : Int32).toNatClampNeg = 0 := rfl
  have B2 : Arv Z h b k' .byte z' (own_by ds ++ List.replicate nn.toNatClampNeg (.int (0 : Int32))) (.int (0 : Int32)) := B.pad (pad_rep _ _ _)
  have ld : (own_by ds).length = dp.toNatClampNeg := by simp [own_by, h6]
  have lc : (own_by cs).length = cs.length := by simp [own_by]
  obtain ⟨T', h', L, X', e', N', K', V', st⟩ := cpA X hx hZ hown w1 w2 w3 w4 eT A B2 (us := (List.range nn.toNatClampNeg).map fun i => (own_by cs).getD ((0 : Int32).toNatClampNeg + i) (.int (0 : Int32))) (Or.inl ⟨rfl, rfl⟩) (by decide) h2 h3 (by rw [e0]; omega) h5 rfl (by simp [own_by]; omega) N ge hg hsize hs hd hf hW (by show W + (7 + 11) ≤ _; omega)
  refine ⟨T', h', L, X', e', N', K', ?_, st⟩
  refine V'.pad fun i => ?_
  rw [own_by_app]
  have t1 : (own_by ds ++ List.replicate nn.toNatClampNeg (Value.int 0)).take dp.toNatClampNeg = own_by ds := by rw [← ld, List.take_left']; rfl
  have t2 : (own_by ds ++ List.replicate nn.toNatClampNeg (Value.int 0)).drop (dp.toNatClampNeg + nn.toNatClampNeg) = [] := by apply List.drop_eq_nil_of_le; simp [own_by]; omega
  rw [t1, t2, List.append_nil]
  by_cases q : i < dp.toNatClampNeg
  · simp only [List.getD_eq_getElem?_getD]; rw [List.getElem?_append_left (by omega), List.getElem?_append_left (by omega)]
  · simp only [List.getD_eq_getElem?_getD]; rw [List.getElem?_append_right (by omega), List.getElem?_append_right (by omega)]
    generalize i - (own_by ds).length = j
    by_cases r : j < nn.toNatClampNeg
    · simp [r, e0]
    · rw [List.getElem?_eq_none (by simp [own_by]; omega), List.getElem?_eq_none (by simp [own_by]; omega)]
theorem own_lenA {p : Program} {l : Launch} {e : Env} {R : Room} {s : State} {m : MethodId} {args : Array Value} {below : List Frame} {meth : Method} {c : Code} {T : State} {locs : List Loc} {cells slots : Nat} {Z : State} {h : Heap} {x t : Addr} {kb : ClassId} {cs : List Int32} {n W index : Nat} {G1 : Int32} {a0 : Array Value} {own : String}
    (X : Stand p l e R s m args below meth c T locs cells slots) (hx : p.tables.exec = Jvm.exec) (hZ : Z.Warmed39 s.vm) (hown : s.vm.findClass own = some m.cls) (w1 : (Jvm.Cond.methodLink own index ⟨"java/lang/String", "length", "()I"⟩).before a0 Z = true) (hw : HW Z a0) (E : Exa Z h x "java/lang/String") (V : Fld Z h x "java/lang/String" "value" "[B" (.ref t)) (C : Fld Z h x "java/lang/String" "coder" "B" (.int 0)) (K : Arv Z h t kb .byte (Int32.ofNat n) (own_by cs) (.int 0)) (hn : cs.length = n) (hp : ∀ c ∈ cs, ¬ c < 0 ∧ ¬ (255 : Int32) < c) (eT : T.heap = h)
    (S : Sta Z h "java/lang/String" "COMPACT_STRINGS" "Z" (.int G1)) (P5 : ¬ G1 = 0) {g : JFrame} (hg : g.method = m) (hsize : g.locals.size = c.maxLocals) {rest : List Value} (hs : g.stack = .ref x :: rest) (hd : decode c.code g.pc = .ok (.invokevirtual index, 3)) (nq : (Nat.ble (2 * g.monitorRoom + (rest.map fun v => v.category).sum) W && (Nat.ble n 4000 && (Nat.ble 2 R.frames && (Nat.ble (W + 25) R.locals && (Nat.ble cells R.cells && Nat.ble slots R.slots))))) = true) :
    ∃ T', Stand p l e R s m args below meth c T' locs cells slots ∧ T'.heap = h ∧ ∀ target, Steps p.tables e below (T'.setTop { g with pc := g.pc + 3, stack := .int (Int32.ofNat n) :: rest }) target → Steps p.tables e below (T.setTop g) target := by
  obtain ⟨hW, l2, hfr, hlo, hcs⟩ : 2 * g.monitorRoom + (rest.map fun v => v.category).sum ≤ W ∧ n ≤ 4000 ∧ 2 ≤ R.frames ∧ W + 25 ≤ R.locals ∧ cells ≤ R.cells ∧ slots ≤ R.slots := by simpa [Nat.ble_eq] using nq
  subst hn
  obtain ⟨cB, kB, q1, q2, q3⟩ := isOf hZ eT E
  obtain ⟨v, vm1, ⟨T', L', c', s'⟩, -, X', ⟨L, ⟨rfl, rfl, eq⟩, l1, l2', l3⟩, st⟩ := X.virtualBack hx (y := ⟨"java/lang/String", "length", "()I"⟩) (z := ⟨"java/lang/String", "length", "()I"⟩) hown (mvT hZ w1) (mvT hZ (own_w hw 61)) (notFace_of_selects (args := #[]) (mvT hZ (own_w hw 63))) (mvT hZ (own_w hw 63)) (mvT hZ (own_w hw 62)) (by decide) (StrChars.Road.lenW (W := W) hZ (own_hln hw) (kI := 4) (own_w hw 1) (cs := cs) E V C K (StrChars.Road.codOf rfl (fun c hc => (hp c hc).2)) (own_up _ hp) S P5 l2 hfr hlo) q1 q3 hg hsize (Steps.refl _) (argsL := []) (rest := rest) (lenOf pd_15 rfl) hs hW hd (fun _ _ => ⟨rfl, eT, hcs.1, hcs.2⟩)
  dsimp only [Pt.U, Pt.locs, Pt.cells, Pt.slots] at X' l1 l2' l3 st eq
  subst l1 l2' l3
  rw [List.append_nil] at X'
  exact ⟨T', X', eq, fun target k => st.trans k⟩
theorem own_chA {p : Program} {l : Launch} {e : Env} {R : Room} {s : State} {m : MethodId} {args : Array Value} {below : List Frame} {meth : Method} {c : Code} {T : State} {locs : List Loc} {cells slots : Nat} {Z : State} {h : Heap} {x t : Addr} {kb : ClassId} {cs : List Int32} {n W index : Nat} {G1 : Int32} {G3 : Value} {a0 : Array Value} {own : String}
    (X : Stand p l e R s m args below meth c T locs cells slots) (hx : p.tables.exec = Jvm.exec) (hZ : Z.Warmed39 s.vm) (hown : s.vm.findClass own = some m.cls) (w1 : (Jvm.Cond.methodLink own index ⟨"java/lang/String", "charAt", "(I)C"⟩).before a0 Z = true) (hw : HW Z a0) (E : Exa Z h x "java/lang/String") (V : Fld Z h x "java/lang/String" "value" "[B" (.ref t)) (C : Fld Z h x "java/lang/String" "coder" "B" (.int 0)) (K : Arv Z h t kb .byte (Int32.ofNat n) (own_by cs) (.int 0)) (hn : cs.length = n) (hp : ∀ c ∈ cs, ¬ c < 0 ∧ ¬ (255 : Int32) < c) (eT : T.heap = h)
    (S : Sta Z h "java/lang/String" "COMPACT_STRINGS" "Z" (.int G1)) (P5 : ¬ G1 = 0) (F : Sta Z h "jdk/internal/util/Preconditions" "SIOOBE_FORMATTER" "Ljava/util/function/BiFunction;" G3) (rf : G3.isRef = true) {i : Nat} (hi : i + 1 ≤ n) {g : JFrame} (hg : g.method = m) (hsize : g.locals.size = c.maxLocals) {rest : List Value} (hs : g.stack = .int (Int32.ofNat i) :: .ref x :: rest) (hd : decode c.code g.pc = .ok (.invokevirtual index, 3)) (nq : (Nat.ble (2 * g.monitorRoom + (rest.map fun v => v.category).sum) W && (Nat.ble n 4000 && (Nat.ble 4 R.frames && (Nat.ble (W + 53) R.locals && (Nat.ble cells R.cells && Nat.ble slots R.slots))))) = true) :
    ∃ T', Stand p l e R s m args below meth c T' locs cells slots ∧ T'.heap = h ∧ ∀ target, Steps p.tables e below (T'.setTop { g with pc := g.pc + 3, stack := .int (cs.getD i 0) :: rest }) target → Steps p.tables e below (T.setTop g) target := by
  obtain ⟨hW, l2, hfr, hlo, hcs⟩ : 2 * g.monitorRoom + (rest.map fun v => v.category).sum ≤ W ∧ n ≤ 4000 ∧ 4 ≤ R.frames ∧ W + 53 ≤ R.locals ∧ cells ≤ R.cells ∧ slots ≤ R.slots := by simpa [Nat.ble_eq] using nq
  subst hn
  obtain ⟨cB, kB, q1, q2, q3⟩ := isOf hZ eT E
  obtain ⟨v, vm1, ⟨T', L', c', s'⟩, -, X', ⟨L, ⟨rfl, rfl, eq⟩, l1, l2', l3⟩, st⟩ := X.virtualBack hx (y := ⟨"java/lang/String", "charAt", "(I)C"⟩) (z := ⟨"java/lang/String", "charAt", "(I)C"⟩) hown (mvT hZ w1) (mvT hZ (own_w hw 245)) (notFace_of_selects (args := #[]) (mvT hZ (own_w hw 247))) (mvT hZ (own_w hw 247)) (mvT hZ (own_w hw 246)) (by decide) (StrChars.Road.chN (W := W) hZ (own_hch hw) (kI := 4) (own_w hw 1) (cs := cs) (i := i) E V C K (StrChars.Road.codOf rfl (fun c hc => (hp c hc).2)) (own_up _ hp) S P5 F rf l2 hi rfl hfr hlo) q1 q3 hg hsize (Steps.refl _) (argsL := [.int (Int32.ofNat i)]) (rest := rest) (lenOf pd_33 rfl) hs hW hd (fun _ _ => ⟨rfl, eT, hcs.1, hcs.2⟩)
  dsimp only [Pt.U, Pt.locs, Pt.cells, Pt.slots] at X' l1 l2' l3 st eq
  subst l1 l2' l3
  rw [List.append_nil] at X'
  exact ⟨T', X', eq, fun target k => st.trans k⟩
section OwnExc
variable {p : Program} {l : Launch} {e : Env} {R : Room} {s : State} {m : MethodId} {args : Array Value} {below : List Frame} {meth : Method} {c : Code} {T U Z : State} {locs : List Loc} {cells slots : Nat} {h h' : Heap} {a : Addr} {a0 : Array Value} {rc : String}
/-- Throwable's words as this sheet has them: the library's list but for 'suppressedExceptions' under Throwable itself -/
def own_xw (rc : String) : List Jvm.Cond := (Jvm.Free.Exc.excAtoms rc).eraseIdx 18
theorem own_xok : (own_xw rc).all xOk = true := rfl
/-- Throwable's links out of these words: 'suppressedExceptions' by the receiver's class -/
theorem own_links {pl : Platform} (ho : pl.frameOwnsMonitors = true) (hf : pl.finalization = false) (hp : pl.magicAccessors = ({} : Platform).magicAccessors) (h : ∀ d ∈ own_xw rc, d.before args s = true) :
    ∃ Q : ThrowableC, Q.Links pl s ∧ s.vm.findClass tN = some Q.cT ∧ s.methodNamed? tFill = some Q.fill ∧ s.methodNamed? tFill0 = some Q.fill0 ∧ s.fieldFound? tN "stackTrace" steD = some (Q.cT, Q.kT, Q.i17, Q.fStack) ∧
      s.fieldFound? tN "UNASSIGNED_STACK" steD = some (Q.cT, Q.kT, Q.i13, Q.fUnassigned) ∧ Q.fStack.type = .array (.object "java/lang/StackTraceElement") := by
  have A : ∀ {d : Jvm.Cond} (i : Nat), (own_xw rc)[i]? = some d → d.holds args s none s [] = true := fun i q => h _ (List.mem_of_getElem? q)
  obtain ⟨⟨ct, j0⟩, m0, n0, e0, t0, c0, k0, g0⟩ := Jvm.Cond.native_spec (A (d := .native tFill0) 5 rfl)
  have hc : s.vm.findClass tN = some ct := findClass_of_methodNamed n0
  obtain ⟨k, hk, hnm⟩ := Vm.findClass_spec hc
  obtain ⟨_, k1, _, _, hk1, _, _, _, _, hni⟩ := Jvm.Cond.superclass_spec hc (A (d := .superclass tN "java/lang/Object") 1 rfl)
  cases hk.symm.trans hk1
  obtain ⟨jF, mF, nF, eF, aF, sF, bF, -, -⟩ := Jvm.Cond.ownMethod (x := tFill) hc hk (A 2 rfl)
  obtain ⟨mF', cF, eF', qF, yF, lF, rF, oF, -, gF⟩ := Jvm.Cond.codeSync_spec nF (A (d := .codeSync tFill LibCode.Throwable.Fill.code 1 (some (.object tN))) 3 rfl)
  cases eF.symm.trans eF'
  obtain ⟨j1, m1, n1, e1, a1, s1, b1, nm1, ds1⟩ := Jvm.Cond.ownMethod (x := tFill0) hc hk (A 4 rfl)
  cases n0.symm.trans n1
  cases e0.symm.trans e1
  obtain ⟨mO, tO, nO, eO, sO, bO⟩ := Jvm.Cond.instanceMethod_spec (A (d := .instanceMethod oInit) 8 rfl)
  obtain ⟨tO', cO, eO', qO, yO, lO, -, oO, -, gO⟩ := Jvm.Cond.code_spec nO (A (d := .code oInit ⟨#[0xb1]⟩ 1 none) 9 rfl)
  cases eO.symm.trans eO'
  obtain ⟨kO, hkO, hnO⟩ := Vm.findClass_spec (findClass_of_methodNamed nO)
  obtain ⟨u1, u2⟩ := name_of_methodNamed nO eO
  obtain ⟨ci1, x1, cf, l1, r1, f1, p1⟩ := Jvm.Cond.linkedMethod hc hk nO (A (d := .methodLink tN 1 oInit) 10 rfl) pl hp
  obtain ⟨ci2, x2, cf2, l2, r2, f2, p2⟩ := Jvm.Cond.linkedMethod hc hk nF (A (d := .methodLink tN 27 tFill) 11 rfl) pl hp
  cases f1.symm.trans f2
  obtain ⟨ci3, x3, cf3, l3, r3, f3, p3⟩ := Jvm.Cond.linkedMethod hc hk n0 (A (d := .methodLink tN 202 tFill0) 12 rfl) pl hp
  cases f1.symm.trans f3
  obtain ⟨ci7, i7, f7, L7, R7, A7, S7, F7, N7, T7, D7⟩ := Jvm.Cond.ownField (t := .object tN) hc hk (by decide +kernel) (A (d := .fieldLink tN 7 tN "cause" "Ljava/lang/Throwable;") 13 rfl) (A (d := .lays tN tN "cause" "Ljava/lang/Throwable;") 14 rfl) pl hp
  obtain ⟨ciS, iS, fS, LS, RS, AS, SS, FS, NS, TS, DS⟩ := Jvm.Cond.ownField (t := .array (.object "java/lang/StackTraceElement")) hc hk (by decide +kernel) (A (d := .fieldLink tN 17 tN "stackTrace" steD) 15 rfl) (A (d := .lays rc tN "stackTrace" steD) 27 rfl) pl hp
  obtain ⟨ciP, iP, fP, LP, RP, AP, SP, FP, NP, TP, DP⟩ := Jvm.Cond.ownField (t := .object "java/util/List") hc hk (by decide +kernel) (A (d := .fieldLink tN 24 tN "suppressedExceptions" listD) 17 rfl) (A (d := .lays rc tN "suppressedExceptions" listD) 28 rfl) pl hp
  obtain ⟨ciU, iU, fU, aS, cS, LU, RU, AU, SU, -, -, hst, hcS, hiS, -, -, DU⟩ := Jvm.Cond.ownStatic (t := .array (.object "java/lang/StackTraceElement")) hc hk (by decide +kernel) (A (d := .fieldLink tN 13 tN "UNASSIGNED_STACK" steD) 18 rfl) (A (d := .laysStatic tN "UNASSIGNED_STACK" steD) 19 rfl) pl hp
  obtain ⟨ciV, iV, fV, _, _, LV, RV, AV, SV, -, -, -, -, -, -, -, DV⟩ := Jvm.Cond.ownStatic (t := .object "java/util/List") hc hk (by decide +kernel) (A (d := .fieldLink tN 20 tN "SUPPRESSED_SENTINEL" listD) 20 rfl) (A (d := .laysStatic tN "SUPPRESSED_SENTINEL" listD) 21 rfl) pl hp
  obtain ⟨_, _, cM, kM, iM, fM, _, _, DM, SM, FM, _⟩ := Jvm.Cond.lays_spec (A (d := .lays tN tN "detailMessage" "Ljava/lang/String;") 22 rfl)
  have apart : fS.slot ≠ fP.slot := Jvm.Cond.lays_apart (A (d := .lays rc tN "stackTrace" steD) 27 rfl) (A (d := .lays rc tN "suppressedExceptions" listD) 28 rfl) DS DP (by rw [NS, NP]; decide)
  have pF : mF.sig.parameters = [] := by
    have q : (parseMethodDescriptor tFill.desc).map (·.parameters) = some [] := by decide +kernel
    rw [gF] at q; simpa using q
  have p0 : m0.sig.parameters = [.int] := by
    have q : (parseMethodDescriptor tFill0.desc).map (·.parameters) = some [.int] := by decide +kernel
    rw [g0] at q; simpa using q
  have pO : tO.sig.parameters.length = 0 := by
    have q : (parseMethodDescriptor oInit.desc).map (·.parameters.length) = some 0 := by decide +kernel
    rw [gO] at q; simpa using q
  exact ⟨{ cT := ct, kT := k, cO := ct, aS := aS, fillIdx := jF, fill0Idx := j0, initSIdx := 0, obj := mO, kObj := kO, methFill := mF, methFill0 := m0, methInitS := mF, methObj := tO, codeFill := cF, codeInitS := cF, codeObj := cO, fBack := f7, fDepth := f7, fStack := fS, fCause := f7, fSupp := fP, fMsg := fM, fUnassigned := fU, fSentinel := fV, cfT := cf, ci1 := ci1, n1 := x1, ci27 := ci2, n27 := x2, ci202 := ci3, n202 := x3, ci7 := ci7, i7 := i7, ci13 := ciU, i13 := iU, ci17 := ciS, i17 := iS, ci20 := ciV, i20 := iV, ci24 := ciP, i24 := iP },
    ⟨ho, hf, hk, hnm, Vm.findClass_boot hc hk, hni, Jvm.Cond.initialized_spec hc hk (A 0 rfl), hst, aF, qF, yF, lF, oF, sF, bF, rF, pF, a1, nm1, ds1, p0, s1, t0, c0, k0, b1, SS, FS, SU, hkO, hnO, eO, u1, sO, bO, by rw [u2]; exact lookupSpecial_of_named nO eO sO, pO, qO, yO, oO, S7, F7, SV, SP, FP, SM, FM, apart, f1, l1, r1, p1, l2, r2, p2, l3, r3, p3, L7, R7, A7, LU, RU, AU, LS, RS, AS, LV, RV, AV, LP, RP, AP⟩,
    hc, nF, n0, DS, DU, TS⟩
/-- the call of fillInStackTrace() inside a constructor of Throwable: ahead of it nothing is made and only the receiver is written -/
theorem own_fill {W n : Nat} (X : Stand p l e R s m args below meth c T locs 0 0) (hx : p.tables.exec = Jvm.exec) (hl : l.stackTraces = true) (hZ : Z.Warmed39 s.vm) (hown : s.vm.findClass tN = some m.cls) (w : ∀ d ∈ own_xw rc, d.before a0 Z = true)
    (wi : (Jvm.Cond.instantiable rc n).before a0 Z = true) (hT0 : ThS Z s.heap) (hTK : s.vm.MethodsKnown) (hBe : s.vm.FramesKnown below) (eT : T.heap = h) (bl : ∀ y ∈ locs, y.base = a) (E : Exa Z h a rc) (N : Unt h a) (B : Fld Z h a tN "backtrace" "Ljava/lang/Object;" .null)
    {u : Value} (hu : u.isRef = true) (S : Fld Z h a tN "stackTrace" "[Ljava/lang/StackTraceElement;" u) (G : Sta Z h tN "UNASSIGNED_STACK" "[Ljava/lang/StackTraceElement;" u) {g : JFrame} (hg : g.method = m) (hsize : g.locals.size = c.maxLocals) {rest : List Value} (hs : g.stack = .ref a :: rest) (hd : decode c.code g.pc = .ok (.invokevirtual 27, 3))
    (hW : 2 * g.monitorRoom + (rest.map fun v => v.category).sum ≤ W) (hf : 3 ≤ R.frames) (hlo : W + 42 ≤ R.locals) (hc : 1 ≤ R.cells) (hsl : 2752 ≤ R.slots) :
    ∃ T' h' L, Stand p l e R s m args below meth c T' (locs ++ L) 1 2752 ∧ T'.heap = h' ∧ (∀ y ∈ L, y.base = a) ∧ Keep h h' [a] ∧ Unt h' a ∧
      (∀ {O nm d : String} {v : Value}, Jvm.RoadKit.slotOf Z O nm d ≠ Jvm.RoadKit.slotOf Z tN "backtrace" "Ljava/lang/Object;" → Jvm.RoadKit.slotOf Z O nm d ≠ Jvm.RoadKit.slotOf Z tN "depth" "I" → Jvm.RoadKit.slotOf Z O nm d ≠ Jvm.RoadKit.slotOf Z tN "stackTrace" "[Ljava/lang/StackTraceElement;" → Fld Z h a O nm d v → Fld Z h' a O nm d v) ∧
      ∀ target, Steps p.tables e below (T'.setTop { g with pc := g.pc + 3, stack := .ref a :: rest }) target → Steps p.tables e below (T.setTop g) target := by
  subst eT
  have ws : ∀ d ∈ own_xw rc, d.before args s = true := fun d q => mvX hT0 hZ (List.all_eq_true.mp own_xok d q) (w d q)
  have A : ∀ {d : Jvm.Cond} (i : Nat), (own_xw rc)[i]? = some d → d.before args s = true := fun i q => ws _ (List.mem_of_getElem? q)
  have htr : e.platform.stackTraces = true := by rw [X.admits.platform]; exact hl
  have hpl : e.platform.magicAccessors = ({} : Platform).magicAccessors := by rw [X.admits.platform]
  obtain ⟨Q, L, q1, q2, q3, q4, q5, q6⟩ := own_links (pl := e.platform) (by rw [X.admits.platform]) (by rw [X.admits.platform]) hpl ws
  obtain ⟨ce, kc, h1, h2, h3, -, h5⟩ := E
  obtain ⟨_, u1, u2, u3⟩ := N
  cases h1.symm.trans u1
  obtain ⟨_, k2, i1, i2, i3, -⟩ := Jvm.Cond.instantiable_spec wi
  cases h2.symm.trans i1
  cases h3.symm.trans i2
  obtain ⟨kX, x1, x2⟩ := hZ.alike.2.2 _ _ h3
  have hR : s.vm.findClass rc = some ce.cls := by rw [hZ.alike.findClass]; exact h2
  have ord : kX.kind = .ordinary := by rw [x2]; exact i3
  have hsz : ce.slots.size = kX.instanceTypes.size := by rw [x2]; exact h5 i3
  have tk : ∀ {f : Field} {v : Value}, kX.instanceTypes[f.slot]? = some f.type → fits f.type v = true → Jvm.Takes s ce f v := fun {f v} y1 y2 => by
    obtain ⟨y3, y4⟩ := Takes.of_laid (v := v) x1 ord y1 y2
    exact ⟨by rw [hsz]; simpa using y3, by rw [u2]; exact y4⟩
  -- the places of the fields
  obtain ⟨_, _, _, _, fs, v1, v2, -, -, -, -, v7⟩ := S
  cases h1.symm.trans v1
  obtain ⟨kq, v3, -⟩ := State.fieldFound?_setVm (s := Z) hZ.alike v2
  cases q4.symm.trans (show s.fieldFound? tN "stackTrace" steD = _ from v3)
  obtain ⟨_, _, kg, fg, st, cg, g1, -, -, g4, g5, g6, g7⟩ := G
  obtain ⟨kh, g8, g9⟩ := State.fieldFound?_setVm (s := Z) hZ.alike g1
  have g10 : kh.statics = some st := by rw [g9]; exact g4
  cases q5.symm.trans (show s.fieldFound? tN "UNASSIGNED_STACK" steD = _ from g8)
  cases L.statics.symm.trans g10
  obtain ⟨_, _, _, ib, fb, b1, b2, -, -, -, -, b7⟩ := B
  cases h1.symm.trans b1
  obtain ⟨ciB, iB, fB, LB, RB, AB, SB, -, NB, TB, DB⟩ := Jvm.Cond.ownField (t := .object "java/lang/Object") q1 L.cls (by decide +kernel) (A (d := .fieldLink tN 198 tN "backtrace" "Ljava/lang/Object;") 30 rfl) (A (d := .lays rc tN "backtrace" "Ljava/lang/Object;") 32 rfl) e.platform hpl
  obtain ⟨kr, b3, -⟩ := State.fieldFound?_setVm (s := Z) hZ.alike b2
  cases DB.symm.trans (show s.fieldFound? tN "backtrace" "Ljava/lang/Object;" = _ from b3)
  obtain ⟨_, _, cD, kD, iD, fD, -, -, DD, SD, -, -, -, -⟩ := Jvm.Cond.lays_spec (A (d := .lays rc tN "depth" "I") 36 rfl)
  cases (Jvm.Cond.lays_declared (A (d := .lays rc tN "depth" "I") 36 rfl) DD).symm.trans q1
  obtain ⟨d1, d2⟩ := State.fieldFound?_spec DD
  cases d1.symm.trans L.cls
  obtain ⟨ND, TD⟩ := State.fieldFound?_type DD (t := .int) (by decide +kernel)
  have fb' := Jvm.Cond.soleField_find q1 L.cls (A (d := .soleField tN "backtrace") 34 rfl) AB NB SB
  have fd' := Jvm.Cond.soleField_find q1 L.cls (A (d := .soleField tN "depth") 35 rfl) d2 ND SD
  obtain ⟨comp, cO, kO, -, -, hkO, hki, hO⟩ := Jvm.Cond.arrayOver_spec (A (d := .arrayOver (.object "java/lang/Object")) 33 rfl)
  have tS := (Jvm.Cond.laysAt hR x1 q4 (A (d := .lays rc tN "stackTrace" steD) 27 rfl)).1
  have tB := (Jvm.Cond.laysAt hR x1 DB (A (d := .lays rc tN "backtrace" "Ljava/lang/Object;") 32 rfl)).1
  have tD := (Jvm.Cond.laysAt hR x1 DD (A (d := .lays rc tN "depth" "I") 36 rfl)).1
  have sel0 : selectMethod e.platform s.vm ce.cls Q.fill0 = .method Q.fill0 := by
    obtain ⟨_, _, _, y1, y2, y3, y4, -⟩ := Jvm.Cond.selects_spec (A (d := .selects rc tFill0 tFill0) 24 rfl)
    cases y1.symm.trans hR
    cases y2.symm.trans (State.methodFound?_of_named q3 (by decide))
    cases y3.symm.trans q3
    rw [Launch.admits_selectMethod X.admits]; exact y4
  have neS : Q.aS ≠ a := fun z => by
    rw [z, h1] at g5; cases g5; rw [u2] at g6; cases g6
  have hse := A (d := .selects rc tFill tFill) 25 rfl
  obtain ⟨v6, vm6, ⟨T6, L6, c6, n6⟩, -, X6, ⟨hv6, C6, n', hn, D6, z1, z2, z3, z4, hL6, hc6, hn6⟩, st6⟩ := X.virtualBack hx (own := tN) (C := rc) (index := 27) (y := tFill) (z := tFill) hown (A (d := .methodLink tN 27 tFill) 11 rfl) (A (d := .declares tFill) 23 rfl) (notFace_of_selects hse) hse (A (d := .instanceMethod tFill) 2 rfl) (by decide)
    (Jvm.Free.Exc.fillPaysAny (l := l) (W := W) hx htr Q L q2 (u0 := ⟨u, hu⟩) (self := a) (cell := ce) (cellS := cg) (fun _ => by rw [u2]; simp) (by rw [u2]; simp) (by rw [u3]) (by rw [u3]) v7 sel0 neS (fun z => by rw [z] at g6; cases g6) g7 (tk tS (by rw [q6]; exact fits_refV_array _ ⟨u, hu⟩))
      ⟨{ ci198 := ciB, i198 := ib, fBack := fb }, ⟨LB, RB, AB, SB⟩, b7⟩ hTK hBe q1 hO hkO hki fb' fd' (fun x => tk tB (by rw [TB]; rfl)) (fun x => tk tD (by rw [TD]; rfl)) (by omega) hlo)
    (b := a) (cB := ce.cls) hR ⟨ce, h1, rfl, by rw [u2]; rfl⟩ hg hsize (Steps.refl _) (argsL := []) (rest := rest)
    (fun sig q => by rw [show parseMethodDescriptor tFill.desc = some ⟨[], some (.object tN)⟩ from by decide +kernel] at q; rw [← Option.some.inj q]; rfl) hs hW hd (fun _ _ => ⟨rfl, by show 0 + 1 ≤ R.cells; omega, by show 0 + 2752 ≤ R.slots; omega, h1, g5⟩)
  dsimp only [Pt.U, Pt.locs, Pt.cells, Pt.slots] at X6 D6 hL6 hc6 hn6 st6
  subst hv6 hL6 hc6 hn6
  have hL : ∀ y ∈ locs ++ [(⟨a, fb.slot⟩ : Loc), ⟨a, fD.slot⟩, ⟨a, Q.fStack.slot⟩], y.base = a := fun y hy => by
    rcases List.mem_append.mp hy with q | q
    · exact bl y q
    · simp only [List.mem_cons, List.not_mem_nil, or_false] at q; rcases q with rfl | rfl | rfl <;> rfl
  -- the heaps: s, then T, then T6
  have SE : ∀ {V : State} {M : List Loc} {x y : Nat}, Stand p l e R s m args below meth c V M x y → (∀ y ∈ M, y.base = a) → ∀ (b : Addr) (cb : Cell), s.heap[b]? = some cb → ∃ c' : Cell, V.heap[b]? = some c' ∧ c' = { cb with slots := c'.slots } ∧ c'.slots.size = cb.slots.size ∧ (b ≠ a → c' = cb) := fun {V M x y} Y hM b cb hb => by
    obtain ⟨-, -, -, -, -, q⟩ := Y.same
    obtain ⟨c', r1, r2, r3, r4⟩ := q b cb hb
    refine ⟨c', r1, r2, r3, fun ne => ?_⟩
    have : c'.slots = cb.slots := Array.ext_getElem? fun i => r4 i fun hm => ne (hM _ hm)
    rw [r2, this]
  have sz : T.heap.size ≤ s.heap.size := by obtain ⟨-, -, q, -⟩ := X.same; simpa using q
  have back : ∀ (b : Addr) (cb : Cell), T.heap[b]? = some cb → ∃ c' : Cell, T6.heap[b]? = some c' ∧ c' = { cb with slots := c'.slots } ∧ c'.slots.size = cb.slots.size ∧ (b ≠ a → c' = cb) := fun b cb hb => by
    have hlt : b < s.heap.size := Nat.lt_of_lt_of_le (Array.getElem?_eq_some_iff.mp hb).1 sz
    obtain ⟨c', r1, r2, r3, r4⟩ := SE X bl b _ (Array.getElem?_eq_getElem hlt)
    obtain ⟨c2, t1, t2, t3, t4⟩ := SE X6 hL b _ (Array.getElem?_eq_getElem hlt)
    cases hb.symm.trans r1
    exact ⟨c2, t1, by rw [t2, r2], by rw [t3, r3], fun ne => by rw [t4 ne, r4 ne]⟩
  refine ⟨T6, T6.heap, _, X6.more (Nat.le_of_eq (Nat.zero_add 1)) (by omega), rfl, fun y hy => hL y (List.mem_append_right _ hy), ⟨?_, fun b cb hb ne => ?_, fun b cb hb => ?_⟩, ?_, fun {O nm d v} ne1 ne2 ne3 F => ?_, fun target q => st6.trans q⟩
  · have : s.heap.size ≤ T6.heap.size := by obtain ⟨-, q, -⟩ := X6.same; simpa using q
    omega
  · obtain ⟨c', r1, -, -, r4⟩ := back b cb hb
    rw [r1, r4 (fun z => ne (by rw [z]; exact List.mem_singleton.mpr rfl))]
  · obtain ⟨c', r1, r2, r3, -⟩ := back b cb hb
    exact ⟨c', r1, by rw [r2], by rw [r2], r3⟩
  · obtain ⟨c', r1, r2, -⟩ := back a ce h1
    exact ⟨c', r1, by rw [r2]; exact u2, by rw [r2]; exact u3⟩
  · obtain ⟨_, cf, kf, i, f, f1, f2, f3, f4, f5, f6, f7⟩ := F
    cases h1.symm.trans f1
    simp only [Jvm.RoadKit.slotOf, f2, b2, v2, Option.map_some, Option.getD_some] at ne1 ne2 ne3
    obtain ⟨kz, dz, -⟩ := State.fieldFound?_setVm (s := s) (vm' := Z.vm) hZ.alike.symm DD
    rw [show Z.fieldFound? tN "depth" "I" = _ from dz] at ne2
    obtain ⟨c', r1, r2, -⟩ := back a ce h1
    cases D6.symm.trans r1
    exact ⟨C6, cf, kf, i, f, D6, f2, f3, by rw [z2]; exact f4, by rw [z2]; exact f5, by rw [z1]; exact f6, by rw [z4 _ ne1 ne2 ne3]; exact f7⟩
end OwnExc
theorem own_xt {a0 : Array Value} {Z : State} (hw : HW Z a0) : ∀ d ∈ own_xw "com/example/webhooks_to_ledger/webhookstoledger/UnbookableException", d.before a0 Z = true := fun d q => hw d ((by decide +kernel : ∀ d ∈ own_xw "com/example/webhooks_to_ledger/webhookstoledger/UnbookableException", d ∈ tables_1) d q)
abbrev cN0 : String := "java/lang/AbstractStringBuilder"
abbrev cN1 : String := "java/lang/String"
abbrev cN2 : String := "com/example/webhooks_to_ledger/webhookstoledger/UnbookableException"
abbrev cN3 : String := "java/lang/StringBuilder"
abbrev cN4 : String := "com/example/webhooks_to_ledger/webhookstoledger/HoldReason"
abbrev cN5 : String := "java/lang/Throwable"
abbrev cN6 : String := "java/lang/StackTraceElement"
abbrev R2_4 : Room := { frames := 1, cells := 4, slots := 8, locals := 12 }
def Q2_4 (Z : State) (ra0 ra1 : Addr) (kc2 : ClassId) (h0 : Heap) (n0 : Nat) (v : Option Value) (h : Heap) (L : List Loc) : Prop := (∃ (lb2 : Addr) (lk2 : ClassId), v = none ∧ Fr n0 L ∧ Keep h0 h [ra0] ∧ lb2 < h.size ∧ Fld Z h ra0 cN1 "coder" "B" (.int 0) ∧ Fld Z h ra0 cN1 "value" "[B" (.ref lb2) ∧ Arv Z h lb2 lk2 .byte (0 : Int32) (own_by ([] : List Int32)) (.int 0))
theorem rm2_4 l Z a0 (hw : HW Z a0) ra0 ra1 kc2 h0 n0 (OLD : Old Z n0 h0) (A' : Exa Z h0 ra0 cN1) (B' : Fld Z h0 ra0 cN1 "coder" "B" (.int 0)) (C' : Fld Z h0 ra0 cN1 "value" "[B" .null) (D' : Arv Z h0 ra1 kc2 .char (0 : Int32) [] (.int 0)) (E' : n0 ≤ ra0) :
    own_CW l Z false y0 jdk_42_method_149_code 6 none [] R2_4 #[.ref ra0, .ref ra1, .int 0, .int 0, .null] h0 [ra0] (Q2_4 Z ra0 ra1 kc2 h0 n0) := by
  refine own_entryW (plainFor_of_name pn_0) fun p e s m below meth c s₁ hx hby hml hown hnm hret hlk hZ hh hCH hSf hKn X0 e0 => ?_
  have N0 := Fr.nil n0
  have hS0 : s.Since s.vm h0.size := own_since s _
  have hk0 : h0.size ≤ h0.size := Nat.le_refl _
  have CH0 : CHr Z own_EL s.vm h0 s.vm h0 := CHr.refl hCH
  rw [ef_2_4 m ra0 ra1]
  refine og s₁ (mkF m 1 #[vR ra0, vR ra1, vI 0, vI 0, vN, vU] [.ref ra0]) (fun _ k => qa X0 hx hby d2_0 rfl rfl rfl k) ?_
  obtain ⟨T1, X1, e1, st1⟩ := initO X0 hx hZ hown (ow hw 11) (ow hw 12) (ow hw 13) e0 (g := (mkF m 1 #[vR ra0, vR ra1, vI 0, vI 0, vN, vU] [.ref ra0])) rfl (zs hml) rfl (hb hby d2_1) (by decide) (W := 0) (lb rfl) (by decide)
  refine og T1 (mkF m 9 #[vR ra0, vR ra1, vI 0, vI 0, vN, vU] [.ref ra0]) (fun _ k => st1 _ (qi X1 hx hby d2_4 rfl rfl (XS.ifNo X1.here hx rfl (hb hby d2_5) rfl ((if0 _ _).trans (tq 0)) (qa X1 hx hby d2_8 rfl rfl rfl k)))) ?_
  obtain ⟨l2, T2, h2, k2, lb2, lk2, X2, e2, E2, hS2, hk2, hZ2, hown2, Ex2, Fc2, Fv2, Av2, la2, lz2, ch2, Lt2, sf2, st2⟩ := ldcCH X1 hx hZ hown (ow hw 14) (own_wS hw) e1 hS0 hk0 (own_EW hw) (by decide) CH0.1 (vs := []) (z := (0 : Int32)) (by decide) (by decide) (by decide) (g := (mkF m 9 #[vR ra0, vR ra1, vI 0, vI 0, vN, vU] [.ref ra0])) rfl (hb hby d2_9) (n := 0) (by decide) (by decide) (lb rfl) (lb rfl)
  have CH3 := CHr.trans CH0 ch2
  have Ay2 : Arv Z h2 lb2 lk2 .byte (0 : Int32) (own_by ([] : List Int32)) (.int 0) := Av2
  refine og T2 (mkF m 11 #[vR ra0, vR ra1, vI 0, vI 0, vN, vU] [.ref l2, .ref ra0]) st2 ?_
  obtain ⟨T4, X4, e4, st4⟩ := qf X2 hx hZ2 hown2 (ow hw 20) e2 Fv2 (g := (mkF m 11 #[vR ra0, vR ra1, vI 0, vI 0, vN, vU] [.ref l2, .ref ra0])) rfl rfl hby d2_11
  refine og T4 (mkF m 14 #[vR ra0, vR ra1, vI 0, vI 0, vN, vU] [.ref lb2, .ref ra0]) st4 ?_
  have F5 := (A'.ext E2)
  have F6 := (C'.ext E2)
  obtain ⟨T7, h7, X7, e7, W7, st7⟩ := putF X4 hx hZ2 hown2 (host := "") (Or.inl (ow hw 20)) Via.refl e4 F6 F5 (Or.inr ⟨(ow hw 16), rfl, hnm⟩) (ow hw 1) (ty := (.array .byte)) (by decide) rfl rfl (g := (mkF m 14 #[vR ra0, vR ra1, vI 0, vI 0, vN, vU] [.ref lb2, .ref ra0])) rfl rfl (hb hby d2_14)
  have Fw7 := F6.same W7
  have ch8 := CHr.wr W7 (CHr.safe ch2 A'.lt (hSf _ (List.mem_of_getElem? (i := 0) rfl))) CH3.1
  have CH9 := CHr.trans CH3 ch8
  have N7 := Fr.snoc X7 N0 E'
  refine og T7 (mkF m 18 #[vR ra0, vR ra1, vI 0, vI 0, vN, vU] [.ref ra0]) (fun _ k => st7 _ (qa X7 hx hby d2_17 rfl rfl rfl k)) ?_
  have F11 := (Nat.le_trans hk2 (Nat.le_of_eq W7.size.symm))
  have F12 := (Nat.le_trans (Nat.le_trans (Nat.le_refl _) E2.1) (Nat.le_of_eq W7.size.symm))
  obtain ⟨l10, T10, h10, k10, lb10, lk10, X10, e10, E10, hS10, hk10, hZ10, hown10, Ex10, Fc10, Fv10, Av10, la10, lz10, ch10, Lt10, sf10, st10⟩ := ldcCH X7 hx hZ2 hown2 (ow hw 14) (own_wS hw) e7 hS2 F11 (own_EW hw) (by decide) CH9.1 (vs := []) (z := (0 : Int32)) (by decide) (by decide) (by decide) (g := (mkF m 18 #[vR ra0, vR ra1, vI 0, vI 0, vN, vU] [.ref ra0])) rfl (hb hby d2_18) (n := 0) (by decide) (by decide) (lb rfl) (lb rfl)
  have CH13 := CHr.trans CH9 ch10
  have Ay10 : Arv Z h10 lb10 lk10 .byte (0 : Int32) (own_by ([] : List Int32)) (.int 0) := Av10
  refine og T10 (mkF m 20 #[vR ra0, vR ra1, vI 0, vI 0, vN, vU] [.ref l10, .ref ra0]) st10 ?_
  obtain ⟨T14, X14, e14, st14⟩ := qf X10 hx hZ10 hown10 (ow hw 21) e10 Fc10 (g := (mkF m 20 #[vR ra0, vR ra1, vI 0, vI 0, vN, vU] [.ref l10, .ref ra0])) rfl rfl hby d2_20
  refine og T14 (mkF m 23 #[vR ra0, vR ra1, vI 0, vI 0, vN, vU] [.int 0, .ref ra0]) st14 ?_
  have F15 := ((F5.wr W7).ext E10)
  have F16 := (((B'.ext E2).other W7 (Or.inr (slot_ne (Or.inr (ow hw 17)) (Or.inr (ow hw 16)) (by decide) (t := .byte) (t' := (.array .byte)) (by decide) (by decide)))).ext E10)
  obtain ⟨T17, h17, X17, e17, W17, st17⟩ := putFN X14 hx hZ10 hown10 (ow hw 21) Via.refl e14 F16 F15 (Or.inr ⟨(ow hw 17), rfl, hnm⟩) (ow hw 1) (ty := .byte) (v' := (.int (nar .byte (0 : Int32)))) (by decide) rfl (fits_nar_byte _) (g := (mkF m 23 #[vR ra0, vR ra1, vI 0, vI 0, vN, vU] [.int 0, .ref ra0])) rfl rfl (hb hby d2_23)
  rw [show nar .byte (0 : Int32) = (0 : Int32) from rfl] at W17
  have Fw17 := F16.same W17
  have ch18 := CHr.wr W17 (CHr.safe ch10 (Nat.lt_of_lt_of_le (Nat.lt_of_lt_of_le A'.lt E2.1) (Nat.le_of_eq W7.size.symm)) (CHr.safe ch8 (Nat.lt_of_lt_of_le A'.lt E2.1) (CHr.safe ch2 A'.lt (hSf _ (List.mem_of_getElem? (i := 0) rfl))))) CH13.1
  have CH19 := CHr.trans CH13 ch18
  have N17 := Fr.snoc X17 N7 E'
  refine og T17 (mkF m 26 #[vR ra0, vR ra1, vI 0, vI 0, vN, vU] []) st17 ?_
  have F20 := (Nat.lt_of_lt_of_le (Nat.lt_of_lt_of_le (Nat.lt_of_lt_of_le lz2 (Nat.le_of_eq W7.size.symm)) E10.1) (Nat.le_of_eq W17.size.symm))
  have F21 := ((Fw7.ext E10).other W17 (Or.inr (slot_ne (Or.inr (ow hw 16)) (Or.inr (ow hw 17)) (by decide) (t := (.array .byte)) (t' := .byte) (by decide) (by decide))))
  have F22 := (((Ay2.other W7 (Ne.symm (own_ne_arv F5 (ow hw 1) Ay2))).ext E10).other W17 (Ne.symm (own_ne_arv F5 (ow hw 1) Ay2)))
  have K24 := (((((Keep.refl h0 [ra0]).ext E2).wr W7 (Or.inl (List.mem_of_getElem? (i := 0) rfl))).ext E10).wr W17 (Or.inl (List.mem_of_getElem? (i := 0) rfl)))
  have KEEP := K24
  have F23 := (Nat.le_trans hk10 (Nat.le_of_eq W17.size.symm))
  exact own_leaveW (s := s) (vm0 := T10.vm) X17 hS10 F23 hZ10 (own_EW hw) e17 CH19 hh hlk (v := none) (fun _ => rfl) (lb rfl) (lb rfl) (by rw [e17]; exact ⟨lb2, lk2, rfl, N17, KEEP, F20, Fw17, F21, F22⟩) (fun fs hr => X17.returnOut hx hret (hb hby d2_26) hr)
abbrev R1_5 : Room := { frames := 2, cells := 4, slots := 8, locals := 29 }
def Q1_5 (Z : State) (ra0 ra1 : Addr) (kc2 : ClassId) (h0 : Heap) (n0 : Nat) (v : Option Value) (h : Heap) (L : List Loc) : Prop := (∃ (o3 : Addr) (kc4 : ClassId), v = none ∧ Fr n0 L ∧ Keep h0 h [ra0] ∧ o3 < h.size ∧ Fld Z h ra0 cN1 "coder" "B" (.int 0) ∧ Fld Z h ra0 cN1 "value" "[B" (.ref o3) ∧ Arv Z h o3 kc4 .byte (0 : Int32) (own_by ([] : List Int32)) (.int 0))
theorem rm1_5 l Z a0 (hw : HW Z a0) ra0 ra1 kc2 h0 n0 (OLD : Old Z n0 h0) (A' : Exa Z h0 ra0 cN1) (B' : Fld Z h0 ra0 cN1 "coder" "B" (.int 0)) (C' : Fld Z h0 ra0 cN1 "value" "[B" .null) (D' : Arv Z h0 ra1 kc2 .char (0 : Int32) [] (.int 0)) (E' : n0 ≤ ra0) :
    own_CW l Z false y1 jdk_42_method_3_code 2 none [] R1_5 #[.ref ra0, .ref ra1] h0 [ra0] (Q1_5 Z ra0 ra1 kc2 h0 n0) := by
  refine own_entryW (plainFor_of_name pn_0) fun p e s m below meth c s₁ hx hby hml hown hnm hret hlk hZ hh hCH hSf hKn X0 e0 => ?_
  have N0 := Fr.nil n0
  have hS0 : s.Since s.vm h0.size := own_since s _
  have hk0 : h0.size ≤ h0.size := Nat.le_refl _
  have CH0 : CHr Z own_EL s.vm h0 s.vm h0 := CHr.refl hCH
  rw [ef_1_5 m ra0 ra1]
  refine og s₁ (mkF m 4 #[vR ra0, vR ra1] [.ref ra1, .int 0, .ref ra1, .ref ra0]) (fun _ k => qa X0 hx hby d1_0 rfl rfl rfl (qa X0 hx hby d1_1 rfl rfl rfl (qc X0 hx hby d1_2 rfl (qa X0 hx hby d1_3 rfl rfl rfl k)))) ?_
  obtain ⟨cl1, Ar1, -, Sr1, Nr1, -, -⟩ := id D'
  refine og s₁ (mkF m 5 #[vR ra0, vR ra1] [.int 0, .int 0, .ref ra1, .ref ra0]) (fun t k => X0.arraylength hx (by rw [e0]; exact Ar1.1) (State.isArrayOf_alike hZ.alike Ar1.2.1) (g := (mkF m 4 #[vR ra0, vR ra1] [.ref ra1, .int 0, .ref ra1, .ref ra0])) rfl rfl (hb hby d1_4) t (by rw [len_of Sr1 Nr1]; exact k)) ?_
  refine og s₁ (mkF m 6 #[vR ra0, vR ra1] [.null, .int 0, .int 0, .ref ra1, .ref ra0]) (fun _ k => XS.aconstNull X0.here hx rfl (hb hby d1_5) k) ?_
  obtain ⟨_, _, ⟨T2, L2, k2, n2⟩, -, X2, hs2, hg2, ⟨Lc2, hQ2, l2, y2, z2, ch2⟩, st2⟩ := X0.specialBackS hx (y := y0) rfl hown (mvT hZ (ow hw 7)) (mvT hZ (ow hw 8)) (mvT hZ (ow hw 10)) (by decide) (own_backSH (W := 0) (rm2_4 l Z a0 hw ra0 ra1 kc2 h0 n0 OLD A' B' C' D' E') hZ (ow hw 10) (ow hw 2) (lb rfl) (lb rfl) (own_EW hw) CH0.1 (allS ⟨A'.lt, (hSf _ (List.mem_of_getElem? (i := 0) rfl))⟩ all0) nofun) (g := (mkF m 6 #[vR ra0, vR ra1] [.null, .int 0, .int 0, .ref ra1, .ref ra0])) rfl (zs hml) (Steps.refl _) (a := ra0) (argsL := [.ref ra1, .int 0, .int 0, .null]) (rest := []) (lenOf pd_0 rfl) rfl (lb rfl) (hb hby d1_6) (fun _ _ => ⟨rfl, e0, (lb rfl), (lb rfl)⟩)
  dsimp only [Pt.U, Pt.locs, Pt.cells, Pt.slots] at X2 l2 y2 z2 st2 hQ2 hs2 hg2 ch2
  subst l2 y2 z2
  replace X2 := own_reb X2
  obtain ⟨hZ2, hS2, hown2⟩ := own_after hZ hS0 e0 hk0 hs2 hg2 hown
  obtain ⟨o3, kc4, rfl, Nq2, K2, f5, f6, f7, f8⟩ := hQ2
  have N2 := Fr.app N0 Nq2
  have CH9 := CHr.trans CH0 ch2
  refine ot T2 (mkF m 9 #[vR ra0, vR ra1] []) st2 ?_
  have KEEP := ((Keep.refl h0 [ra0]).trans K2 (allS (Or.inl (List.mem_of_getElem? (i := 0) rfl)) all0))
  exact own_leaveW (s := s) (vm0 := T2.vm) X2 hS2 (Nat.le_refl _) hZ2 (own_EW hw) rfl CH9 hh hlk (v := none) (fun _ => rfl) (lb rfl) (lb rfl) (by exact ⟨o3, kc4, rfl, N2, KEEP, f5, f6, f7, f8⟩) (fun fs hr => X2.returnOut hx hret (hb hby d1_9) hr)
abbrev R6_8 : Room := { frames := 1, cells := 1, slots := 16, locals := 12 }
def Q6_8 (Z : State) (ra0 : Addr) (G1 : Int32) (h0 : Heap) (n0 : Nat) (v : Option Value) (h : Heap) (L : List Loc) : Prop := (∃ (b3 : Addr) (k3 : ClassId), v = none ∧ Fr n0 L ∧ Keep h0 h [ra0] ∧ h0.size ≤ b3 ∧ Fld Z h ra0 cN0 "coder" "B" (.int 0) ∧ Fld Z h ra0 cN0 "count" "I" (.int 0) ∧ Fld Z h ra0 cN0 "value" "[B" (.ref b3) ∧ Arv Z h b3 k3 .byte (16 : Int32) (own_by ([] : List Int32)) (.int 0))
theorem rm6_8 l Z a0 (hw : HW Z a0) ra0 (G1 : Int32) h0 n0 (OLD : Old Z n0 h0) (A' : Exa Z h0 ra0 cN3) (B' : Fld Z h0 ra0 cN0 "coder" "B" (.int 0)) (C' : Fld Z h0 ra0 cN0 "count" "I" (.int 0)) (D' : Fld Z h0 ra0 cN0 "value" "[B" .null) (O2 : Sta Z Z.heap cN1 "COMPACT_STRINGS" "Z" (.int G1)) (P5 : ¬ (G1 = (0 : Int32))) (E' : n0 ≤ ra0) :
    own_CN l Z y2 jdk_68_method_2_code 2 none [] R6_8 #[.ref ra0, .int 16] h0 (Q6_8 Z ra0 G1 h0 n0) := by
  refine own_entryN (plainFor_of_name pn_1) fun p e s m below meth c s₁ hx hby hml hown hnm hret hlk hZ hh X0 e0 => ?_
  have N0 := Fr.nil n0
  rw [ef_6_8 m ra0]
  refine og s₁ (mkF m 1 #[vR ra0, vI 16] [.ref ra0]) (fun _ k => qa X0 hx hby d6_0 rfl rfl rfl k) ?_
  obtain ⟨T1, X1, e1, st1⟩ := initO X0 hx hZ hown (ow hw 43) (ow hw 12) (ow hw 13) e0 (g := (mkF m 1 #[vR ra0, vI 16] [.ref ra0])) rfl (zs hml) rfl (hb hby d6_1) (by decide) (W := 0) (lb rfl) (by decide)
  refine og T1 (mkF m 4 #[vR ra0, vI 16] []) st1 ?_
  obtain ⟨T2, X2, e2, st2⟩ := getS2 X1 hx hZ hown (host := "") (Or.inl (ow hw 44)) Via.refl e1 (O2.ext OLD.2) (g := (mkF m 4 #[vR ra0, vI 16] [])) rfl (hb hby d6_4)
  refine og T2 (mkF m 12 #[vR ra0, vI 16] [.int 16, .ref ra0]) (fun _ k => st2 _ (XS.ifNo X2.here hx rfl (hb hby d6_7) rfl ((if0 _ _).trans (feq P5).1) (qa X2 hx hby d6_10 rfl rfl rfl (qi X2 hx hby d6_11 rfl rfl k)))) ?_
  obtain ⟨T3, h3, k3, X3, e3, E3, A3, st3⟩ := newP X2 hx hZ (ow hw 15) e2 (g := (mkF m 12 #[vR ra0, vI 16] [.int 16, .ref ra0])) rfl (hb hby d6_12) rfl (by decide) (cap := 16) (by decide) (lb rfl) (lb rfl) (lb rfl)
  obtain ⟨b3, gb3⟩ : ∃ z, z = h0.size := ⟨_, rfl⟩
  rw [← gb3] at A3 st3
  have g4 : n0 ≤ b3 := Nat.le_trans (own_osz OLD) (Nat.le_of_eq gb3.symm)
  have z5 : h0.size ≤ b3 := Nat.le_trans (Nat.le_refl _) (Nat.le_of_eq gb3.symm)
  have V3 : Arv Z h3 b3 k3 .byte (16 : Int32) (own_by ([] : List Int32)) (.int 0) := Arv.new A3 (by decide)
  refine og T3 (mkF m 14 #[vR ra0, vI 16] [.ref b3, .ref ra0]) st3 ?_
  have F6 := (A'.ext E3)
  have F7 := (D'.ext E3)
  obtain ⟨T8, h8, X8, e8, W8, st8⟩ := putF X3 hx hZ hown (host := "") (Or.inl (ow hw 45)) Via.refl e3 F7 F6 (Or.inl (ow hw 46)) (ow hw 32) (ty := (.array .byte)) (by decide) rfl rfl (g := (mkF m 14 #[vR ra0, vI 16] [.ref b3, .ref ra0])) rfl rfl (hb hby d6_14)
  have Fw8 := F7.same W8
  have N8 := Fr.snoc X8 N0 E'
  refine og T8 (mkF m 19 #[vR ra0, vI 16] [.int 0, .ref ra0]) (fun _ k => st8 _ (qa X8 hx hby d6_17 rfl rfl rfl (qc X8 hx hby d6_18 rfl k))) ?_
  have F9 := (F6.wr W8)
  have F10 := ((B'.ext E3).other W8 (Or.inr (slot_ne (Or.inl (ow hw 48)) (Or.inl (ow hw 46)) (by decide) (t := .byte) (t' := (.array .byte)) (by decide) (by decide))))
  obtain ⟨T11, h11, X11, e11, W11, st11⟩ := putFN X8 hx hZ hown (ow hw 47) Via.refl e8 F10 F9 (Or.inl (ow hw 48)) (ow hw 32) (ty := .byte) (v' := (.int (nar .byte (0 : Int32)))) (by decide) rfl (fits_nar_byte _) (g := (mkF m 19 #[vR ra0, vI 16] [.int 0, .ref ra0])) rfl rfl (hb hby d6_19)
  rw [show nar .byte (0 : Int32) = (0 : Int32) from rfl] at W11
  have Fw11 := F10.same W11
  have N11 := Fr.snoc X11 N8 E'
  refine og T11 (mkF m 38 #[vR ra0, vI 16] []) (fun _ k => st11 _ (XS.goto X11.here hx rfl (pc0 := 22) (pc' := 38) rfl (hb hby d6_22) (by decide) (by decide) k)) ?_
  have F12 := (((C'.ext E3).other W8 (Or.inr (slot_ne (Or.inl (ow hw 72)) (Or.inl (ow hw 46)) (by decide) (t := .int) (t' := (.array .byte)) (by decide) (by decide)))).other W11 (Or.inr (slot_ne (Or.inl (ow hw 72)) (Or.inl (ow hw 48)) (by decide) (t := .int) (t' := .byte) (by decide) (by decide))))
  have F13 := (Fw8.other W11 (Or.inr (slot_ne (Or.inl (ow hw 46)) (Or.inl (ow hw 48)) (by decide) (t := (.array .byte)) (t' := .byte) (by decide) (by decide))))
  have F14 := ((V3.other W8 (Ne.symm (own_ne_lo A'.lt (Nat.le_of_eq gb3.symm)))).other W11 (Ne.symm (own_ne_lo A'.lt (Nat.le_of_eq gb3.symm))))
  have KEEP := ((((Keep.refl h0 [ra0]).ext E3).wr W8 (Or.inl (List.mem_of_getElem? (i := 0) rfl))).wr W11 (Or.inl (List.mem_of_getElem? (i := 0) rfl)))
  exact own_leaveN X11 hlk (v := none) (fun _ => rfl) (lb rfl) (lb rfl) (by rw [e11]; exact ⟨b3, k3, rfl, N11, KEEP, z5, Fw11, F12, F13, F14⟩) (fun fs hr => X11.returnOut hx hret (hb hby d6_38) hr)
abbrev R5_7 : Room := { frames := 2, cells := 1, slots := 16, locals := 25 }
def Q5_7 (Z : State) (ra0 : Addr) (G1 : Int32) (h0 : Heap) (n0 : Nat) (v : Option Value) (h : Heap) (L : List Loc) : Prop := (∃ (o2 : Addr) (kc3 : ClassId), v = none ∧ Fr n0 L ∧ Keep h0 h [ra0] ∧ h0.size ≤ o2 ∧ Fld Z h ra0 cN0 "coder" "B" (.int 0) ∧ Fld Z h ra0 cN0 "count" "I" (.int 0) ∧ Fld Z h ra0 cN0 "value" "[B" (.ref o2) ∧ Arv Z h o2 kc3 .byte (16 : Int32) (own_by ([] : List Int32)) (.int 0))
theorem rm5_7 l Z a0 (hw : HW Z a0) ra0 (G1 : Int32) h0 n0 (OLD : Old Z n0 h0) (A' : Exa Z h0 ra0 cN3) (B' : Fld Z h0 ra0 cN0 "coder" "B" (.int 0)) (C' : Fld Z h0 ra0 cN0 "count" "I" (.int 0)) (D' : Fld Z h0 ra0 cN0 "value" "[B" .null) (O2 : Sta Z Z.heap cN1 "COMPACT_STRINGS" "Z" (.int G1)) (P5 : ¬ (G1 = (0 : Int32))) (E' : n0 ≤ ra0) :
    own_CN l Z y3 jdk_67_method_1_code 1 none [] R5_7 #[.ref ra0] h0 (Q5_7 Z ra0 G1 h0 n0) := by
  refine own_entryN (plainFor_of_name pn_2) fun p e s m below meth c s₁ hx hby hml hown hnm hret hlk hZ hh X0 e0 => ?_
  have N0 := Fr.nil n0
  rw [ef_5_7 m ra0]
  refine og s₁ (mkF m 3 #[vR ra0] [.int 16, .ref ra0]) (fun _ k => qa X0 hx hby d5_0 rfl rfl rfl (qb X0 hx hby d5_1 rfl k)) ?_
  obtain ⟨_, T1, L1, X1, hQ1, st1⟩ := own_sc X0 hx hZ rfl hown (ow hw 37) (ow hw 38) (rm6_8 l Z a0 hw ra0 G1 h0 n0 OLD A' B' C' D' O2 P5 E') (ow hw 42) (ow hw 41) e0 (g := (mkF m 3 #[vR ra0] [.int 16, .ref ra0])) rfl (zs hml) (argsL := [.int 16]) (rest := []) (lenOf pd_2 rfl) rfl (hb hby d5_3) (W := 0) rfl
  obtain ⟨o2, kc3, rfl, Nq1, K1, f4, f5, f6, f7, f8⟩ := hQ1
  have N1 := Fr.app N0 Nq1
  have g9 : n0 ≤ o2 := Nat.le_trans (own_osz OLD) f4
  have z10 : h0.size ≤ o2 := Nat.le_trans (Nat.le_refl _) f4
  refine ot T1 (mkF m 6 #[vR ra0] []) st1 ?_
  have KEEP := ((Keep.refl h0 [ra0]).trans K1 (allS (Or.inl (List.mem_of_getElem? (i := 0) rfl)) all0))
  exact own_leaveN X1 hlk (v := none) (fun _ => rfl) (lb rfl) (lb rfl) (by exact ⟨o2, kc3, rfl, N1, KEEP, z10, f5, f6, f7, f8⟩) (fun fs hr => X1.returnOut hx hret (hb hby d5_6) hr)
abbrev R11_12 : Room := { frames := 0, cells := 0, slots := 0, locals := 0 }
def Q11_12 (Z : State) (ra0 ra1 : Addr) (kc2 : ClassId) (h0 : Heap) (n0 : Nat) (v : Option Value) (h : Heap) (L : List Loc) : Prop := (v = none ∧ Fr n0 L ∧ h = h0)
theorem rm11_12 l Z a0 (hw : HW Z a0) ra0 ra1 kc2 h0 n0 (OLD : Old Z n0 h0) (A' : Exa Z h0 ra0 cN3) (B' : Fld Z h0 ra0 cN0 "coder" "B" (.int 0)) (C' : Fld Z h0 ra0 cN0 "count" "I" (.int 0)) (D' : Fld Z h0 ra0 cN0 "value" "[B" (.ref ra1)) (E' : Arv Z h0 ra1 kc2 .byte (16 : Int32) (own_by ([] : List Int32)) (.int 0)) :
    own_CN l Z y4 jdk_68_method_9_code 3 none [] R11_12 #[.ref ra0, .int 12] h0 (Q11_12 Z ra0 ra1 kc2 h0 n0) := by
  refine own_entryN (plainFor_of_name pn_1) fun p e s m below meth c s₁ hx hby hml hown hnm hret hlk hZ hh X0 e0 => ?_
  have N0 := Fr.nil n0
  rw [ef_11_12 m ra0]
  refine og s₁ (mkF m 1 #[vR ra0, vI 12, vU] [.ref ra0]) (fun _ k => qa X0 hx hby d11_0 rfl rfl rfl k) ?_
  obtain ⟨T1, X1, e1, st1⟩ := qf X0 hx hZ hown (ow hw 45) e0 D' (g := (mkF m 1 #[vR ra0, vI 12, vU] [.ref ra0])) rfl rfl hby d11_1
  refine og T1 (mkF m 4 #[vR ra0, vI 12, vU] [.ref ra1]) st1 ?_
  obtain ⟨cl2, Ar2, -, Sr2, Nr2, -, -⟩ := id E'
  refine og T1 (mkF m 5 #[vR ra0, vI 12, vU] [.int 16]) (fun t k => X1.arraylength hx (by rw [e1]; exact Ar2.1) (State.isArrayOf_alike hZ.alike Ar2.2.1) (g := (mkF m 4 #[vR ra0, vI 12, vU] [.ref ra1])) rfl rfl (hb hby d11_4) t (by rw [len_of Sr2 Nr2]; exact k)) ?_
  refine og T1 (mkF m 6 #[vR ra0, vI 12, vU] [.ref ra0, .int 16]) (fun _ k => qa X1 hx hby d11_5 rfl rfl rfl k) ?_
  obtain ⟨T3, X3, e3, st3⟩ := qf X1 hx hZ hown (ow hw 47) e1 B' (g := (mkF m 6 #[vR ra0, vI 12, vU] [.ref ra0, .int 16])) rfl rfl hby d11_6
  refine og T3 (mkF m 10 #[vR ra0, vI 12, vU] [.int 16]) (fun _ k => st3 _ (XS.ishr X3.here hx rfl (hb hby d11_9) rfl (by rw [show ((16 : Int32) >>> ((0 : Int32) &&& 31)) = (16 : Int32) from by decide]; exact k))) ?_
  refine og T3 (mkF m 38 #[vR ra0, vI 12, vI 16] []) (fun _ k => XS.istoreN X3.here hx rfl (hb hby d11_10) rfl (l' := #[vR ra0, vI 12, vI 16]) rfl (qi X3 hx hby d11_11 rfl rfl (qi X3 hx hby d11_12 rfl rfl (XS.isub X3.here hx rfl (hb hby d11_13) rfl (XS.ifYes X3.here hx rfl (pc0 := 14) (pc' := 38) rfl (hb hby d11_14) rfl ((if0 _ _).trans (flt (by decide : ¬ ((0 : Int32) < (-4 : Int32)))).2.2.2) (by decide) (by decide) k))))) ?_
  exact own_leaveN X3 hlk (v := none) (fun _ => rfl) (lb rfl) (lb rfl) (by rw [e3]; exact ⟨rfl, N0, rfl⟩) (fun fs hr => X3.returnOut hx hret (hb hby d11_38) hr)
abbrev R10_15 : Room := { frames := 0, cells := 0, slots := 0, locals := 0 }
def Q10_15 (Z : State) (ra0 : Addr) (G1 w2 : Int32) (h0 : Heap) (n0 : Nat) (v : Option Value) (h : Heap) (L : List Loc) : Prop := (v = some (.int (nar .byte w2)) ∧ Fr n0 L ∧ h = h0)
theorem rm10_15 l Z a0 (hw : HW Z a0) ra0 (G1 : Int32) (w2 : Int32) h0 n0 (OLD : Old Z n0 h0) (O2 : Sta Z Z.heap cN1 "COMPACT_STRINGS" "Z" (.int G1)) (P5 : ¬ (G1 = (0 : Int32))) (A' : Fld Z h0 ra0 cN1 "coder" "B" (.int w2)) :
    own_CN l Z y5 jdk_42_method_152_code 1 (some .byte) [] R10_15 #[.ref ra0] h0 (Q10_15 Z ra0 G1 w2 h0 n0) := by
  refine own_entryN (plainFor_of_name pn_0) fun p e s m below meth c s₁ hx hby hml hown hnm hret hlk hZ hh X0 e0 => ?_
  have N0 := Fr.nil n0
  rw [ef_5_7 m ra0]
  obtain ⟨T1, X1, e1, st1⟩ := getS2 X0 hx hZ hown (host := "") (Or.inl (ow hw 70)) Via.refl e0 (O2.ext OLD.2) (g := (mkF m 0 #[vR ra0] [])) rfl (hb hby d10_0)
  refine og T1 (mkF m 7 #[vR ra0] [.ref ra0]) (fun _ k => st1 _ (XS.ifNo X1.here hx rfl (hb hby d10_3) rfl ((if0 _ _).trans (feq P5).1) (qa X1 hx hby d10_6 rfl rfl rfl k))) ?_
  obtain ⟨T3, X3, e3, st3⟩ := qf X1 hx hZ hown (ow hw 21) e1 A' (g := (mkF m 7 #[vR ra0] [.ref ra0])) rfl rfl hby d10_7
  refine og T3 (mkF m 14 #[vR ra0] [.int w2]) (fun _ k => st3 _ (XS.goto X3.here hx rfl (pc0 := 10) (pc' := 14) rfl (hb hby d10_10) (by decide) (by decide) k)) ?_
  exact own_leaveN X3 hlk (v := some (.int (nar .byte w2))) (own_nr hret) (lb rfl) (lb rfl) (by rw [e3]; exact ⟨rfl, N0, rfl⟩) (fun fs hr => retN X3 hx (t := .byte) hret (by simp) (hb hby d10_14) hr)
abbrev R13_14 : Room := { frames := 1, cells := 0, slots := 0, locals := 13 }
def Q13_14 (Z : State) (ra0 ra1 : Addr) (G1 w2 w4 : Int32) (h0 : Heap) (n0 : Nat) (v : Option Value) (h : Heap) (L : List Loc) : Prop := (v = none ∧ Fr n0 L ∧ h = h0)
theorem rm13_14 l Z a0 (hw : HW Z a0) ra0 ra1 (G1 : Int32) (w2 : Int32) (w4 : Int32) h0 n0 (OLD : Old Z n0 h0) (O2 : Sta Z Z.heap cN1 "COMPACT_STRINGS" "Z" (.int G1)) (P5 : ¬ (G1 = (0 : Int32))) (A' : Fld Z h0 ra0 cN0 "coder" "B" (.int w2)) (B' : Fld Z h0 ra1 cN1 "coder" "B" (.int w4)) (C' : Exa Z h0 ra1 cN1) (hc14 : w2 = (nar .byte w4)) :
    own_CN l Z y6 jdk_68_method_71_code 2 none [] R13_14 #[.ref ra0, .ref ra1] h0 (Q13_14 Z ra0 ra1 G1 w2 w4 h0 n0) := by
  refine own_entryN (plainFor_of_name pn_1) fun p e s m below meth c s₁ hx hby hml hown hnm hret hlk hZ hh X0 e0 => ?_
  have N0 := Fr.nil n0
  rw [ef_1_5 m ra0 ra1]
  obtain ⟨T1, X1, e1, st1⟩ := getS2 X0 hx hZ hown (host := "") (Or.inl (ow hw 44)) Via.refl e0 (O2.ext OLD.2) (g := (mkF m 0 #[vR ra0, vR ra1] [])) rfl (hb hby d13_0)
  refine og T1 (mkF m 7 #[vR ra0, vR ra1] [.ref ra0]) (fun _ k => st1 _ (XS.ifNo X1.here hx rfl (hb hby d13_3) rfl ((if0 _ _).trans (feq P5).1) (qa X1 hx hby d13_6 rfl rfl rfl k))) ?_
  obtain ⟨T3, X3, e3, st3⟩ := qf X1 hx hZ hown (ow hw 47) e1 A' (g := (mkF m 7 #[vR ra0, vR ra1] [.ref ra0])) rfl rfl hby d13_7
  refine og T3 (mkF m 11 #[vR ra0, vR ra1] [.ref ra1, .int w2]) (fun _ k => st3 _ (qa X3 hx hby d13_10 rfl rfl rfl k)) ?_
  obtain ⟨_, T5, L5, X5, hQ5, st5⟩ := own_vc X3 hx hZ hown (ow hw 88) (ow hw 66) (ow hw 68) (ow hw 67) C' (rm10_15 l Z a0 hw ra1 G1 w4 h0 n0 OLD O2 P5 B') (ow hw 69) (ow hw 2) e3 (g := (mkF m 11 #[vR ra0, vR ra1] [.ref ra1, .int w2])) rfl (zs hml) (argsL := []) (rest := [.int w2]) (lenOf pd_4 rfl) rfl (hb hby d13_11) (W := 1) rfl
  obtain ⟨rfl, Nq5, eq5⟩ := hQ5
  have N5 := Fr.app N0 Nq5
  refine og T5 (mkF m 21 #[vR ra0, vR ra1] []) (fun _ k => st5.trans (XS.icmpYes X5.here hx rfl (pc0 := 14) (pc' := 21) rfl (hb hby d13_14) rfl (teq hc14).1 (by decide) (by decide) k)) ?_
  exact own_leaveN X5 hlk (v := none) (fun _ => rfl) (lb rfl) (lb rfl) (by rw [eq5]; exact ⟨rfl, N5, rfl⟩) (fun fs hr => X5.returnOut hx hret (hb hby d13_21) hr)
abbrev R14_16 : Room := { frames := 1, cells := 0, slots := 0, locals := 18 }
def Q14_16 (Z : State) (ra0 ra1 : Addr) (kc2 : ClassId) (cs3 : List Int32) (ra4 : Addr) (kc5 : ClassId) (G1 : Int32) (h0 : Heap) (n0 : Nat) (v : Option Value) (h : Heap) (L : List Loc) : Prop := (v = none ∧ Fr n0 L ∧ Keep h0 h [ra4] ∧ Arv Z h ra4 kc5 .byte (16 : Int32) (own_by cs3) (.int 0))
theorem rm14_16 l Z a0 (hw : HW Z a0) ra0 ra1 kc2 (cs3 : List Int32) ra4 kc5 (G1 : Int32) h0 n0 (OLD : Old Z n0 h0) (A' : Exa Z h0 ra0 cN1) (B' : Fld Z h0 ra0 cN1 "coder" "B" (.int 0)) (C' : Fld Z h0 ra0 cN1 "value" "[B" (.ref ra1)) (D' : cs3.length = 12) (E' : own_L cs3) (F' : Arv Z h0 ra1 kc2 .byte (12 : Int32) (own_by cs3) (.int 0)) (G' : Arv Z h0 ra4 kc5 .byte (16 : Int32) (own_by ([] : List Int32)) (.int 0)) (O2 : Sta Z Z.heap cN1 "COMPACT_STRINGS" "Z" (.int G1)) (P5 : ¬ (G1 = (0 : Int32))) (H' : n0 ≤ ra4) :
    own_CN l Z y7 jdk_42_method_147_code 4 none [] R14_16 #[.ref ra0, .ref ra4, .int 0, .int 0] h0 (Q14_16 Z ra0 ra1 kc2 cs3 ra4 kc5 G1 h0 n0) := by
  refine own_entryN (plainFor_of_name pn_0) fun p e s m below meth c s₁ hx hby hml hown hnm hret hlk hZ hh X0 e0 => ?_
  have N0 := Fr.nil n0
  rw [ef_14_16 m ra0 ra4]
  refine og s₁ (mkF m 1 #[vR ra0, vR ra4, vI 0, vI 0] [.ref ra0]) (fun _ k => qa X0 hx hby d14_0 rfl rfl rfl k) ?_
  obtain ⟨_, T1, L1, X1, hQ1, st1⟩ := own_vc X0 hx hZ hown (ow hw 65) (ow hw 66) (ow hw 68) (ow hw 67) A' (rm10_15 l Z a0 hw ra0 G1 ((0 : Int32)) h0 n0 OLD O2 P5 B') (ow hw 69) (ow hw 2) e0 (g := (mkF m 1 #[vR ra0, vR ra4, vI 0, vI 0] [.ref ra0])) rfl (zs hml) (argsL := []) (rest := []) (lenOf pd_4 rfl) rfl (hb hby d14_1) (W := 0) rfl
  obtain ⟨rfl, Nq1, eq1⟩ := hQ1
  have N1 := Fr.app N0 Nq1
  refine og T1 (mkF m 9 #[vR ra0, vR ra4, vI 0, vI 0] [.ref ra0]) (fun _ k => st1.trans (qi X1 hx hby d14_4 rfl rfl (qn X1 hx hby d14_5 rfl rfl (tq 0) (qa X1 hx hby d14_8 rfl rfl rfl k)))) ?_
  obtain ⟨T2, X2, e2, st2⟩ := qf X1 hx hZ hown (ow hw 20) eq1 C' (g := (mkF m 9 #[vR ra0, vR ra4, vI 0, vI 0] [.ref ra0])) rfl rfl hby d14_9
  refine og T2 (mkF m 16 #[vR ra0, vR ra4, vI 0, vI 0] [.int 0, .int 0, .ref ra4, .int 0, .ref ra1]) (fun _ k => st2 _ (qc X2 hx hby d14_12 rfl (qa X2 hx hby d14_13 rfl rfl rfl (qi X2 hx hby d14_14 rfl rfl (qi X2 hx hby d14_15 rfl rfl k))))) ?_
  refine og T2 (mkF m 17 #[vR ra0, vR ra4, vI 0, vI 0] [.int 0, .ref ra4, .int 0, .ref ra1]) (fun _ k => XS.ishl X2.here hx rfl (hb hby d14_16) rfl (by rw [show ((0 : Int32) <<< ((0 : Int32) &&& 31)) = (0 : Int32) from by decide]; exact k)) ?_
  refine og T2 (mkF m 18 #[vR ra0, vR ra4, vI 0, vI 0] [.ref ra0, .int 0, .ref ra4, .int 0, .ref ra1]) (fun _ k => qa X2 hx hby d14_17 rfl rfl rfl k) ?_
  obtain ⟨T3, X3, e3, st3⟩ := qf X2 hx hZ hown (ow hw 20) e2 C' (g := (mkF m 18 #[vR ra0, vR ra4, vI 0, vI 0] [.ref ra0, .int 0, .ref ra4, .int 0, .ref ra1])) rfl rfl hby d14_18
  refine og T3 (mkF m 21 #[vR ra0, vR ra4, vI 0, vI 0] [.ref ra1, .int 0, .ref ra4, .int 0, .ref ra1]) st3 ?_
  obtain ⟨cl4, Ar4, -, Sr4, Nr4, -, -⟩ := id F'
  refine og T3 (mkF m 22 #[vR ra0, vR ra4, vI 0, vI 0] [.int 12, .int 0, .ref ra4, .int 0, .ref ra1]) (fun t k => X3.arraylength hx (by rw [e3]; exact Ar4.1) (State.isArrayOf_alike hZ.alike Ar4.2.1) (g := (mkF m 21 #[vR ra0, vR ra4, vI 0, vI 0] [.ref ra1, .int 0, .ref ra4, .int 0, .ref ra1])) rfl rfl (hb hby d14_21) t (by rw [len_of Sr4 Nr4]; exact k)) ?_
  obtain ⟨T5, h5, L5, X5, e5, N5, K5, Vq5, st5⟩ := own_cpB X3 hx hZ hown (ow hw 94) (ow hw 97) (ow hw 95) (ow hw 96) e3 F' G' (sp := (0 : Int32)) (dp := (0 : Int32)) (nn := (12 : Int32)) rfl (by decide) (by decide) (by decide) (by decide) (show _ = _ from rfl) ((Eq.symm D') ▸ lb rfl) N1 H' (g := (mkF m 22 #[vR ra0, vR ra4, vI 0, vI 0] [.int 12, .int 0, .ref ra4, .int 0, .ref ra1])) rfl (zs hml) rfl (hb hby d14_22) (lb rfl) (W := 0) (lb rfl) (lb rfl)
  have V5 : Arv Z h5 ra4 kc5 .byte (16 : Int32) (own_by cs3) (.int 0) := (by simpa using Vq5)
  refine og T5 (mkF m 43 #[vR ra0, vR ra4, vI 0, vI 0] []) (fun _ k => st5 _ (XS.goto X5.here hx rfl (pc0 := 25) (pc' := 43) rfl (hb hby d14_25) (by decide) (by decide) k)) ?_
  have KEEP := ((Keep.refl h0 [ra4]).trans K5 (allS (Or.inl (List.mem_of_getElem? (i := 0) rfl)) all0))
  exact own_leaveN X5 hlk (v := none) (fun _ => rfl) (lb rfl) (lb rfl) (by rw [e5]; exact ⟨rfl, N5, KEEP, V5⟩) (fun fs hr => X5.returnOut hx hret (hb hby d14_43) hr)
abbrev R12_13 : Room := { frames := 2, cells := 0, slots := 0, locals := 33 }
def Q12_13 (Z : State) (ra0 ra1 : Addr) (kc2 : ClassId) (ra3 ra4 : Addr) (kc5 : ClassId) (cs6 : List Int32) (G1 : Int32) (h0 : Heap) (n0 : Nat) (v : Option Value) (h : Heap) (L : List Loc) : Prop := (v = none ∧ Fr n0 L ∧ Keep h0 h [ra1] ∧ Arv Z h ra1 kc2 .byte (16 : Int32) (own_by cs6) (.int 0))
theorem rm12_13 l Z a0 (hw : HW Z a0) ra0 ra1 kc2 ra3 ra4 kc5 (cs6 : List Int32) (G1 : Int32) h0 n0 (OLD : Old Z n0 h0) (A' : Exa Z h0 ra0 cN3) (B' : Fld Z h0 ra0 cN0 "coder" "B" (.int 0)) (C' : Fld Z h0 ra0 cN0 "count" "I" (.int 0)) (D' : Fld Z h0 ra0 cN0 "value" "[B" (.ref ra1)) (E' : Arv Z h0 ra1 kc2 .byte (16 : Int32) (own_by ([] : List Int32)) (.int 0)) (F' : Exa Z h0 ra3 cN1) (G' : Fld Z h0 ra3 cN1 "coder" "B" (.int 0)) (H' : Fld Z h0 ra3 cN1 "value" "[B" (.ref ra4)) (I' : cs6.length = 12) (J' : own_L cs6) (K' : Arv Z h0 ra4 kc5 .byte (12 : Int32) (own_by cs6) (.int 0)) (O2 : Sta Z Z.heap cN1 "COMPACT_STRINGS" "Z" (.int G1)) (P5 : ¬ (G1 = (0 : Int32))) (L' : n0 ≤ ra1) :
    own_CN l Z y8 jdk_68_method_73_code 3 none [] R12_13 #[.ref ra0, .int 0, .ref ra3] h0 (Q12_13 Z ra0 ra1 kc2 ra3 ra4 kc5 cs6 G1 h0 n0) := by
  refine own_entryN (plainFor_of_name pn_1) fun p e s m below meth c s₁ hx hby hml hown hnm hret hlk hZ hh X0 e0 => ?_
  have N0 := Fr.nil n0
  rw [ef_12_13 m ra0 ra3]
  refine og s₁ (mkF m 2 #[vR ra0, vI 0, vR ra3] [.ref ra3, .ref ra0]) (fun _ k => qa X0 hx hby d12_0 rfl rfl rfl (qa X0 hx hby d12_1 rfl rfl rfl k)) ?_
  obtain ⟨_, T1, L1, X1, hQ1, st1⟩ := own_pc X0 hx hZ hown (ow hw 83) (ow hw 86) (ow hw 84) (ow hw 85) A' (rm13_14 l Z a0 hw ra0 ra3 G1 ((0 : Int32)) ((0 : Int32)) h0 n0 OLD O2 P5 B' G' F' (by decide : (0 : Int32) = (0 : Int32))) (ow hw 87) (ow hw 41) e0 (g := (mkF m 2 #[vR ra0, vI 0, vR ra3] [.ref ra3, .ref ra0])) rfl (zs hml) (argsL := [.ref ra3]) (rest := []) (lenOf pd_5 rfl) rfl (hb hby d12_2) (W := 0) rfl
  obtain ⟨rfl, Nq1, eq1⟩ := hQ1
  have N1 := Fr.app N0 Nq1
  refine og T1 (mkF m 7 #[vR ra0, vI 0, vR ra3] [.ref ra0, .ref ra3]) (fun _ k => st1.trans (qa X1 hx hby d12_5 rfl rfl rfl (qa X1 hx hby d12_6 rfl rfl rfl k))) ?_
  obtain ⟨T2, X2, e2, st2⟩ := qf X1 hx hZ hown (ow hw 45) eq1 D' (g := (mkF m 7 #[vR ra0, vI 0, vR ra3] [.ref ra0, .ref ra3])) rfl rfl hby d12_7
  refine og T2 (mkF m 12 #[vR ra0, vI 0, vR ra3] [.ref ra0, .int 0, .ref ra1, .ref ra3]) (fun _ k => st2 _ (qi X2 hx hby d12_10 rfl rfl (qa X2 hx hby d12_11 rfl rfl rfl k))) ?_
  obtain ⟨T3, X3, e3, st3⟩ := qf X2 hx hZ hown (ow hw 47) e2 B' (g := (mkF m 12 #[vR ra0, vI 0, vR ra3] [.ref ra0, .int 0, .ref ra1, .ref ra3])) rfl rfl hby d12_12
  refine og T3 (mkF m 15 #[vR ra0, vI 0, vR ra3] [.int 0, .int 0, .ref ra1, .ref ra3]) st3 ?_
  obtain ⟨_, T4, L4, X4, hQ4, st4⟩ := own_vc X3 hx hZ hown (ow hw 89) (ow hw 90) (ow hw 92) (ow hw 91) F' (rm14_16 l Z a0 hw ra3 ra4 kc5 cs6 ra1 kc2 G1 h0 n0 OLD F' G' H' I' J' K' E' O2 P5 L') (ow hw 93) (ow hw 2) e3 (g := (mkF m 15 #[vR ra0, vI 0, vR ra3] [.int 0, .int 0, .ref ra1, .ref ra3])) rfl (zs hml) (argsL := [.ref ra1, .int 0, .int 0]) (rest := []) (lenOf pd_6 rfl) rfl (hb hby d12_15) (W := 0) rfl
  obtain ⟨rfl, Nq4, K4, f5⟩ := hQ4
  have N4 := Fr.app N1 Nq4
  refine ot T4 (mkF m 18 #[vR ra0, vI 0, vR ra3] []) st4 ?_
  have KEEP := ((Keep.refl h0 [ra1]).trans K4 (allS (Or.inl (List.mem_of_getElem? (i := 0) rfl)) all0))
  exact own_leaveN X4 hlk (v := none) (fun _ => rfl) (lb rfl) (lb rfl) (by exact ⟨rfl, N4, KEEP, f5⟩) (fun fs hr => X4.returnOut hx hret (hb hby d12_18) hr)
abbrev R8_11 : Room := { frames := 3, cells := 0, slots := 0, locals := 47 }
def Q8_11 (Z : State) (ra0 ra1 : Addr) (kc2 : ClassId) (ra3 ra4 : Addr) (kc5 : ClassId) (cs6 : List Int32) (G1 : Int32) (h0 : Heap) (n0 : Nat) (v : Option Value) (h : Heap) (L : List Loc) : Prop := (v = some (.ref ra0) ∧ Fr n0 L ∧ Keep h0 h [ra1, ra0] ∧ Arv Z h ra1 kc2 .byte (16 : Int32) (own_by cs6) (.int 0) ∧ Fld Z h ra0 cN0 "coder" "B" (.int 0) ∧ Fld Z h ra0 cN0 "count" "I" (.int 12) ∧ Fld Z h ra0 cN0 "value" "[B" (.ref ra1))
theorem rm8_11 l Z a0 (hw : HW Z a0) ra0 ra1 kc2 ra3 ra4 kc5 (cs6 : List Int32) (G1 : Int32) h0 n0 (OLD : Old Z n0 h0) (A' : Exa Z h0 ra0 cN3) (B' : Fld Z h0 ra0 cN0 "coder" "B" (.int 0)) (C' : Fld Z h0 ra0 cN0 "count" "I" (.int 0)) (D' : Fld Z h0 ra0 cN0 "value" "[B" (.ref ra1)) (E' : Arv Z h0 ra1 kc2 .byte (16 : Int32) (own_by ([] : List Int32)) (.int 0)) (F' : Exa Z h0 ra3 cN1) (G' : Fld Z h0 ra3 cN1 "coder" "B" (.int 0)) (H' : Fld Z h0 ra3 cN1 "value" "[B" (.ref ra4)) (I' : cs6.length = 12) (J' : own_L cs6) (K' : Arv Z h0 ra4 kc5 .byte (12 : Int32) (own_by cs6) (.int 0)) (O2 : Sta Z Z.heap cN1 "COMPACT_STRINGS" "Z" (.int G1)) (P5 : ¬ (G1 = (0 : Int32))) (L' : n0 ≤ ra1) (ne_ra0_ra1 : ra0 ≠ ra1) (M' : n0 ≤ ra0) :
    own_CN l Z y9 jdk_68_method_22_code 3 (some (.object cN0)) [] R8_11 #[.ref ra0, .ref ra3] h0 (Q8_11 Z ra0 ra1 kc2 ra3 ra4 kc5 cs6 G1 h0 n0) := by
  refine own_entryN (plainFor_of_name pn_1) fun p e s m below meth c s₁ hx hby hml hown hnm hret hlk hZ hh X0 e0 => ?_
  have N0 := Fr.nil n0
  rw [ef_8_11 m ra0 ra3]
  refine og s₁ (mkF m 10 #[vR ra0, vR ra3, vU] [.ref ra3]) (fun _ k => qa X0 hx hby d8_0 rfl rfl rfl (XS.ifnonnullYes X0.here hx rfl (pc0 := 1) (pc' := 9) rfl (hb hby d8_1) rfl (by decide) (by decide) (qa X0 hx hby d8_9 rfl rfl rfl k))) ?_
  obtain ⟨T1, X1, e1, st1⟩ := own_lenA X0 hx hZ hown (ow hw 60) hw F' H' G' K' I' J' e0 (O2.ext OLD.2) P5 (g := (mkF m 10 #[vR ra0, vR ra3, vU] [.ref ra3])) rfl (zs hml) (rest := []) rfl (hb hby d8_10) (W := 0) rfl
  refine og T1 (mkF m 16 #[vR ra0, vR ra3, vI 12] [.ref ra0, .ref ra0]) (fun _ k => st1 _ (XS.istoreN X1.here hx rfl (hb hby d8_13) rfl (l' := #[vR ra0, vR ra3, vI 12]) rfl (qa X1 hx hby d8_14 rfl rfl rfl (qa X1 hx hby d8_15 rfl rfl rfl k)))) ?_
  obtain ⟨T2, X2, e2, st2⟩ := qf X1 hx hZ hown (ow hw 71) e1 C' (g := (mkF m 16 #[vR ra0, vR ra3, vI 12] [.ref ra0, .ref ra0])) rfl rfl hby d8_16
  refine og T2 (mkF m 21 #[vR ra0, vR ra3, vI 12] [.int 12, .ref ra0]) (fun _ k => st2 _ (qi X2 hx hby d8_19 rfl rfl (qp X2 hx hby d8_20 rfl rfl k))) ?_
  obtain ⟨_, T3, L3, X3, hQ3, st3⟩ := own_pc X2 hx hZ hown (ow hw 73) (ow hw 76) (ow hw 74) (ow hw 75) A' (rm11_12 l Z a0 hw ra0 ra1 kc2 h0 n0 OLD A' B' C' D' E') (ow hw 77) (ow hw 41) e2 (g := (mkF m 21 #[vR ra0, vR ra3, vI 12] [.int 12, .ref ra0])) rfl (zs hml) (argsL := [.int 12]) (rest := []) (lenOf pd_2 rfl) rfl (hb hby d8_21) (W := 0) rfl
  obtain ⟨rfl, Nq3, eq3⟩ := hQ3
  have N3 := Fr.app N0 Nq3
  refine og T3 (mkF m 26 #[vR ra0, vR ra3, vI 12] [.ref ra0, .ref ra0]) (fun _ k => st3.trans (qa X3 hx hby d8_24 rfl rfl rfl (qa X3 hx hby d8_25 rfl rfl rfl k))) ?_
  obtain ⟨T4, X4, e4, st4⟩ := qf X3 hx hZ hown (ow hw 71) eq3 C' (g := (mkF m 26 #[vR ra0, vR ra3, vI 12] [.ref ra0, .ref ra0])) rfl rfl hby d8_26
  refine og T4 (mkF m 30 #[vR ra0, vR ra3, vI 12] [.ref ra3, .int 0, .ref ra0]) (fun _ k => st4 _ (qa X4 hx hby d8_29 rfl rfl rfl k)) ?_
  obtain ⟨_, T5, L5, X5, hQ5, st5⟩ := own_pc X4 hx hZ hown (ow hw 78) (ow hw 81) (ow hw 79) (ow hw 80) A' (rm12_13 l Z a0 hw ra0 ra1 kc2 ra3 ra4 kc5 cs6 G1 h0 n0 OLD A' B' C' D' E' F' G' H' I' J' K' O2 P5 L') (ow hw 82) (ow hw 41) e4 (g := (mkF m 30 #[vR ra0, vR ra3, vI 12] [.ref ra3, .int 0, .ref ra0])) rfl (zs hml) (argsL := [.int 0, .ref ra3]) (rest := []) (lenOf pd_7 rfl) rfl (hb hby d8_30) (W := 0) rfl
  obtain ⟨rfl, Nq5, K5, f6⟩ := hQ5
  have N5 := Fr.app N3 Nq5
  refine og T5 (mkF m 35 #[vR ra0, vR ra3, vI 12] [.ref ra0, .ref ra0]) (fun _ k => st5.trans (qa X5 hx hby d8_33 rfl rfl rfl (XS.dup X5.here hx rfl (hb hby d8_34) rfl rfl k))) ?_
  have F7 := (C'.keep K5 (ninS ne_ra0_ra1 nin0))
  obtain ⟨T8, X8, e8, st8⟩ := qf X5 hx hZ hown (ow hw 71) rfl F7 (g := (mkF m 35 #[vR ra0, vR ra3, vI 12] [.ref ra0, .ref ra0])) rfl rfl hby d8_35
  refine og T8 (mkF m 40 #[vR ra0, vR ra3, vI 12] [.int 12, .ref ra0]) (fun _ k => st8 _ (qi X8 hx hby d8_38 rfl rfl (qp X8 hx hby d8_39 rfl rfl k))) ?_
  have F9 := (A'.keep K5)
  obtain ⟨T10, h10, X10, e10, W10, st10⟩ := putF X8 hx hZ hown (host := "") (Or.inl (ow hw 71)) Via.refl e8 F7 F9 (Or.inl (ow hw 72)) (ow hw 32) (ty := .int) (by decide) rfl rfl (g := (mkF m 40 #[vR ra0, vR ra3, vI 12] [.int 12, .ref ra0])) rfl rfl (hb hby d8_40)
  have Fw10 := F7.same W10
  have N10 := Fr.snoc X10 N5 M'
  refine og T10 (mkF m 44 #[vR ra0, vR ra3, vI 12] [.ref ra0]) (fun _ k => st10 _ (qa X10 hx hby d8_43 rfl rfl rfl k)) ?_
  have F11 := (f6.other W10 (Ne.symm ne_ra0_ra1))
  have F12 := ((B'.keep K5 (ninS ne_ra0_ra1 nin0)).other W10 (Or.inr (slot_ne (Or.inl (ow hw 48)) (Or.inl (ow hw 72)) (by decide) (t := .byte) (t' := .int) (by decide) (by decide))))
  have F13 := ((D'.keep K5 (ninS ne_ra0_ra1 nin0)).other W10 (Or.inr (slot_ne (Or.inl (ow hw 46)) (Or.inl (ow hw 72)) (by decide) (t := (.array .byte)) (t' := .int) (by decide) (by decide))))
  have KEEP := (((Keep.refl h0 [ra1, ra0]).trans K5 (allS (Or.inl (List.mem_of_getElem? (i := 0) rfl)) all0)).wr W10 (Or.inl (List.mem_of_getElem? (i := 1) rfl)))
  exact own_leaveN X10 hlk (v := some (.ref ra0)) (own_nr hret) (lb rfl) (lb rfl) (by rw [e10]; exact ⟨rfl, N10, KEEP, F11, F12, Fw10, F13⟩) (own_ra X10 hx hret rfl rfl rfl (hb hby d8_44))
abbrev R7_10 : Room := { frames := 4, cells := 0, slots := 0, locals := 61 }
def Q7_10 (Z : State) (ra0 ra1 : Addr) (kc2 : ClassId) (ra3 ra4 : Addr) (kc5 : ClassId) (cs6 : List Int32) (G1 : Int32) (h0 : Heap) (n0 : Nat) (v : Option Value) (h : Heap) (L : List Loc) : Prop := (v = some (.ref ra0) ∧ Fr n0 L ∧ Keep h0 h [ra1, ra0] ∧ Arv Z h ra1 kc2 .byte (16 : Int32) (own_by cs6) (.int 0) ∧ Fld Z h ra0 cN0 "coder" "B" (.int 0) ∧ Fld Z h ra0 cN0 "count" "I" (.int 12) ∧ Fld Z h ra0 cN0 "value" "[B" (.ref ra1))
theorem rm7_10 l Z a0 (hw : HW Z a0) ra0 ra1 kc2 ra3 ra4 kc5 (cs6 : List Int32) (G1 : Int32) h0 n0 (OLD : Old Z n0 h0) (A' : Exa Z h0 ra0 cN3) (B' : Fld Z h0 ra0 cN0 "coder" "B" (.int 0)) (C' : Fld Z h0 ra0 cN0 "count" "I" (.int 0)) (D' : Fld Z h0 ra0 cN0 "value" "[B" (.ref ra1)) (E' : Arv Z h0 ra1 kc2 .byte (16 : Int32) (own_by ([] : List Int32)) (.int 0)) (F' : Exa Z h0 ra3 cN1) (G' : Fld Z h0 ra3 cN1 "coder" "B" (.int 0)) (H' : Fld Z h0 ra3 cN1 "value" "[B" (.ref ra4)) (I' : cs6.length = 12) (J' : own_L cs6) (K' : Arv Z h0 ra4 kc5 .byte (12 : Int32) (own_by cs6) (.int 0)) (O2 : Sta Z Z.heap cN1 "COMPACT_STRINGS" "Z" (.int G1)) (P5 : ¬ (G1 = (0 : Int32))) (L' : n0 ≤ ra1) (ne_ra0_ra1 : ra0 ≠ ra1) (M' : n0 ≤ ra0) :
    own_CN l Z y10 jdk_67_method_7_code 2 (some (.object cN3)) [] R7_10 #[.ref ra0, .ref ra3] h0 (Q7_10 Z ra0 ra1 kc2 ra3 ra4 kc5 cs6 G1 h0 n0) := by
  refine own_entryN (plainFor_of_name pn_2) fun p e s m below meth c s₁ hx hby hml hown hnm hret hlk hZ hh X0 e0 => ?_
  have N0 := Fr.nil n0
  rw [ef_1_5 m ra0 ra3]
  refine og s₁ (mkF m 2 #[vR ra0, vR ra3] [.ref ra3, .ref ra0]) (fun _ k => qa X0 hx hby d7_0 rfl rfl rfl (qa X0 hx hby d7_1 rfl rfl rfl k)) ?_
  obtain ⟨_, _, ⟨T2, L2, k2, n2⟩, -, X2, ⟨Lc2, hQ2, l2, y2, z2⟩, st2⟩ := superBack X0 hx hZ (y := y9) hown (ow hw 55) (own_same (z := y4) (ow hw 76) (ow hw 56) rfl (by decide)) (ow hw 56) (ow hw 57) (by decide) (backOf (W := 0) (rm8_11 l Z a0 hw ra0 ra1 kc2 ra3 ra4 kc5 cs6 G1 h0 n0 OLD A' B' C' D' E' F' G' H' I' J' K' O2 P5 L' ne_ra0_ra1 M') hZ (ow hw 59) (ow hw 41) (lb rfl) (lb rfl)) e0 (Ins.self A') (g := (mkF m 2 #[vR ra0, vR ra3] [.ref ra3, .ref ra0])) rfl (zs hml) (ow hw 59) (argsL := [.ref ra3]) (rest := []) (lenOf pd_8 rfl) rfl (lb rfl) (hb hby d7_2) (fun _ _ => ⟨rfl, e0, (lb rfl), (lb rfl)⟩)
  dsimp only [Pt.U, Pt.locs, Pt.cells, Pt.slots] at X2 l2 y2 z2 st2 hQ2
  subst l2 y2 z2
  obtain ⟨rfl, Nq2, K2, f3, f4, f5, f6⟩ := hQ2
  have N2 := Fr.app N0 Nq2
  refine og T2 (mkF m 7 #[vR ra0, vR ra3] [.ref ra0]) (fun _ k => st2.trans (XS.pop X2.here hx rfl (hb hby d7_5) rfl rfl (qa X2 hx hby d7_6 rfl rfl rfl k))) ?_
  have KEEP := ((Keep.refl h0 [ra1, ra0]).trans K2 (allS (Or.inl (List.mem_of_getElem? (i := 0) rfl)) (allS (Or.inl (List.mem_of_getElem? (i := 1) rfl)) all0)))
  exact own_leaveN X2 hlk (v := some (.ref ra0)) (own_nr hret) (lb rfl) (lb rfl) (by exact ⟨rfl, N2, KEEP, f3, f4, f5, f6⟩) (own_ra X2 hx hret rfl rfl rfl (hb hby d7_7))
abbrev R11_19 : Room := { frames := 0, cells := 0, slots := 0, locals := 0 }
def Q11_19 (Z : State) (ra0 ra1 : Addr) (kc2 : ClassId) (cs3 : List Int32) (h0 : Heap) (n0 : Nat) (v : Option Value) (h : Heap) (L : List Loc) : Prop := (v = none ∧ Fr n0 L ∧ h = h0)
theorem rm11_19 l Z a0 (hw : HW Z a0) ra0 ra1 kc2 (cs3 : List Int32) h0 n0 (OLD : Old Z n0 h0) (A' : Exa Z h0 ra0 cN3) (B' : Fld Z h0 ra0 cN0 "coder" "B" (.int 0)) (C' : Fld Z h0 ra0 cN0 "count" "I" (.int 12)) (D' : Fld Z h0 ra0 cN0 "value" "[B" (.ref ra1)) (E' : cs3.length = 12) (F' : own_L cs3) (G' : Arv Z h0 ra1 kc2 .byte (16 : Int32) (own_by cs3) (.int 0)) :
    own_CN l Z y4 jdk_68_method_9_code 3 none [] R11_19 #[.ref ra0, .int 12] h0 (Q11_19 Z ra0 ra1 kc2 cs3 h0 n0) := by
  refine own_entryN (plainFor_of_name pn_1) fun p e s m below meth c s₁ hx hby hml hown hnm hret hlk hZ hh X0 e0 => ?_
  have N0 := Fr.nil n0
  rw [ef_11_12 m ra0]
  refine og s₁ (mkF m 1 #[vR ra0, vI 12, vU] [.ref ra0]) (fun _ k => qa X0 hx hby d11_0 rfl rfl rfl k) ?_
  obtain ⟨T1, X1, e1, st1⟩ := qf X0 hx hZ hown (ow hw 45) e0 D' (g := (mkF m 1 #[vR ra0, vI 12, vU] [.ref ra0])) rfl rfl hby d11_1
  refine og T1 (mkF m 4 #[vR ra0, vI 12, vU] [.ref ra1]) st1 ?_
  obtain ⟨cl2, Ar2, -, Sr2, Nr2, -, -⟩ := id G'
  refine og T1 (mkF m 5 #[vR ra0, vI 12, vU] [.int 16]) (fun t k => X1.arraylength hx (by rw [e1]; exact Ar2.1) (State.isArrayOf_alike hZ.alike Ar2.2.1) (g := (mkF m 4 #[vR ra0, vI 12, vU] [.ref ra1])) rfl rfl (hb hby d11_4) t (by rw [len_of Sr2 Nr2]; exact k)) ?_
  refine og T1 (mkF m 6 #[vR ra0, vI 12, vU] [.ref ra0, .int 16]) (fun _ k => qa X1 hx hby d11_5 rfl rfl rfl k) ?_
  obtain ⟨T3, X3, e3, st3⟩ := qf X1 hx hZ hown (ow hw 47) e1 B' (g := (mkF m 6 #[vR ra0, vI 12, vU] [.ref ra0, .int 16])) rfl rfl hby d11_6
  refine og T3 (mkF m 10 #[vR ra0, vI 12, vU] [.int 16]) (fun _ k => st3 _ (XS.ishr X3.here hx rfl (hb hby d11_9) rfl (by rw [show ((16 : Int32) >>> ((0 : Int32) &&& 31)) = (16 : Int32) from by decide]; exact k))) ?_
  refine og T3 (mkF m 38 #[vR ra0, vI 12, vI 16] []) (fun _ k => XS.istoreN X3.here hx rfl (hb hby d11_10) rfl (l' := #[vR ra0, vI 12, vI 16]) rfl (qi X3 hx hby d11_11 rfl rfl (qi X3 hx hby d11_12 rfl rfl (XS.isub X3.here hx rfl (hb hby d11_13) rfl (XS.ifYes X3.here hx rfl (pc0 := 14) (pc' := 38) rfl (hb hby d11_14) rfl ((if0 _ _).trans (flt (by decide : ¬ ((0 : Int32) < (-4 : Int32)))).2.2.2) (by decide) (by decide) k))))) ?_
  exact own_leaveN X3 hlk (v := none) (fun _ => rfl) (lb rfl) (lb rfl) (by rw [e3]; exact ⟨rfl, N0, rfl⟩) (fun fs hr => X3.returnOut hx hret (hb hby d11_38) hr)
abbrev R14_21 : Room := { frames := 1, cells := 0, slots := 0, locals := 18 }
def Q14_21 (Z : State) (ra0 ra1 : Addr) (kc2 : ClassId) (ra3 : Addr) (kc4 : ClassId) (cs5 : List Int32) (G1 : Int32) (h0 : Heap) (n0 : Nat) (v : Option Value) (h : Heap) (L : List Loc) : Prop := (v = none ∧ Fr n0 L ∧ Keep h0 h [ra3] ∧ Arv Z h ra3 kc4 .byte (16 : Int32) (own_by cs5) (.int 0))
theorem rm14_21 l Z a0 (hw : HW Z a0) ra0 ra1 kc2 ra3 kc4 (cs5 : List Int32) (G1 : Int32) h0 n0 (OLD : Old Z n0 h0) (A' : Exa Z h0 ra0 cN1) (B' : Fld Z h0 ra0 cN1 "coder" "B" (.int 0)) (C' : Fld Z h0 ra0 cN1 "value" "[B" (.ref ra1)) (D' : Arv Z h0 ra1 kc2 .byte (0 : Int32) (own_by ([] : List Int32)) (.int 0)) (E' : cs5.length = 12) (F' : own_L cs5) (G' : Arv Z h0 ra3 kc4 .byte (16 : Int32) (own_by cs5) (.int 0)) (O2 : Sta Z Z.heap cN1 "COMPACT_STRINGS" "Z" (.int G1)) (P5 : ¬ (G1 = (0 : Int32))) (H' : n0 ≤ ra3) :
    own_CN l Z y7 jdk_42_method_147_code 4 none [] R14_21 #[.ref ra0, .ref ra3, .int 12, .int 0] h0 (Q14_21 Z ra0 ra1 kc2 ra3 kc4 cs5 G1 h0 n0) := by
  refine own_entryN (plainFor_of_name pn_0) fun p e s m below meth c s₁ hx hby hml hown hnm hret hlk hZ hh X0 e0 => ?_
  have N0 := Fr.nil n0
  rw [ef_14_21 m ra0 ra3]
  refine og s₁ (mkF m 1 #[vR ra0, vR ra3, vI 12, vI 0] [.ref ra0]) (fun _ k => qa X0 hx hby d14_0 rfl rfl rfl k) ?_
  obtain ⟨_, T1, L1, X1, hQ1, st1⟩ := own_vc X0 hx hZ hown (ow hw 65) (ow hw 66) (ow hw 68) (ow hw 67) A' (rm10_15 l Z a0 hw ra0 G1 ((0 : Int32)) h0 n0 OLD O2 P5 B') (ow hw 69) (ow hw 2) e0 (g := (mkF m 1 #[vR ra0, vR ra3, vI 12, vI 0] [.ref ra0])) rfl (zs hml) (argsL := []) (rest := []) (lenOf pd_4 rfl) rfl (hb hby d14_1) (W := 0) rfl
  obtain ⟨rfl, Nq1, eq1⟩ := hQ1
  have N1 := Fr.app N0 Nq1
  refine og T1 (mkF m 9 #[vR ra0, vR ra3, vI 12, vI 0] [.ref ra0]) (fun _ k => st1.trans (qi X1 hx hby d14_4 rfl rfl (qn X1 hx hby d14_5 rfl rfl (tq 0) (qa X1 hx hby d14_8 rfl rfl rfl k)))) ?_
  obtain ⟨T2, X2, e2, st2⟩ := qf X1 hx hZ hown (ow hw 20) eq1 C' (g := (mkF m 9 #[vR ra0, vR ra3, vI 12, vI 0] [.ref ra0])) rfl rfl hby d14_9
  refine og T2 (mkF m 16 #[vR ra0, vR ra3, vI 12, vI 0] [.int 0, .int 12, .ref ra3, .int 0, .ref ra1]) (fun _ k => st2 _ (qc X2 hx hby d14_12 rfl (qa X2 hx hby d14_13 rfl rfl rfl (qi X2 hx hby d14_14 rfl rfl (qi X2 hx hby d14_15 rfl rfl k))))) ?_
  refine og T2 (mkF m 17 #[vR ra0, vR ra3, vI 12, vI 0] [.int 12, .ref ra3, .int 0, .ref ra1]) (fun _ k => XS.ishl X2.here hx rfl (hb hby d14_16) rfl (by rw [show ((12 : Int32) <<< ((0 : Int32) &&& 31)) = (12 : Int32) from by decide]; exact k)) ?_
  refine og T2 (mkF m 18 #[vR ra0, vR ra3, vI 12, vI 0] [.ref ra0, .int 12, .ref ra3, .int 0, .ref ra1]) (fun _ k => qa X2 hx hby d14_17 rfl rfl rfl k) ?_
  obtain ⟨T3, X3, e3, st3⟩ := qf X2 hx hZ hown (ow hw 20) e2 C' (g := (mkF m 18 #[vR ra0, vR ra3, vI 12, vI 0] [.ref ra0, .int 12, .ref ra3, .int 0, .ref ra1])) rfl rfl hby d14_18
  refine og T3 (mkF m 21 #[vR ra0, vR ra3, vI 12, vI 0] [.ref ra1, .int 12, .ref ra3, .int 0, .ref ra1]) st3 ?_
  obtain ⟨cl4, Ar4, -, Sr4, Nr4, -, -⟩ := id D'
  refine og T3 (mkF m 22 #[vR ra0, vR ra3, vI 12, vI 0] [.int 0, .int 12, .ref ra3, .int 0, .ref ra1]) (fun t k => X3.arraylength hx (by rw [e3]; exact Ar4.1) (State.isArrayOf_alike hZ.alike Ar4.2.1) (g := (mkF m 21 #[vR ra0, vR ra3, vI 12, vI 0] [.ref ra1, .int 12, .ref ra3, .int 0, .ref ra1])) rfl rfl (hb hby d14_21) t (by rw [len_of Sr4 Nr4]; exact k)) ?_
  obtain ⟨T5, h5, L5, X5, e5, N5, K5, Vq5, st5⟩ := own_cpB X3 hx hZ hown (ow hw 94) (ow hw 97) (ow hw 95) (ow hw 96) e3 D' G' (sp := (0 : Int32)) (dp := (12 : Int32)) (nn := (0 : Int32)) rfl (by decide) (by decide) (by decide) (by decide) (show _ = _ from E') ((Eq.symm (rfl : ([] : List Int32).length = 0)) ▸ lb rfl) N1 H' (g := (mkF m 22 #[vR ra0, vR ra3, vI 12, vI 0] [.int 0, .int 12, .ref ra3, .int 0, .ref ra1])) rfl (zs hml) rfl (hb hby d14_22) (lb rfl) (W := 0) (lb rfl) (lb rfl)
  have V5 : Arv Z h5 ra3 kc4 .byte (16 : Int32) (own_by cs5) (.int 0) := (by simpa using Vq5)
  refine og T5 (mkF m 43 #[vR ra0, vR ra3, vI 12, vI 0] []) (fun _ k => st5 _ (XS.goto X5.here hx rfl (pc0 := 25) (pc' := 43) rfl (hb hby d14_25) (by decide) (by decide) k)) ?_
  have KEEP := ((Keep.refl h0 [ra3]).trans K5 (allS (Or.inl (List.mem_of_getElem? (i := 0) rfl)) all0))
  exact own_leaveN X5 hlk (v := none) (fun _ => rfl) (lb rfl) (lb rfl) (by rw [e5]; exact ⟨rfl, N5, KEEP, V5⟩) (fun fs hr => X5.returnOut hx hret (hb hby d14_43) hr)
abbrev R12_20 : Room := { frames := 2, cells := 0, slots := 0, locals := 33 }
def Q12_20 (Z : State) (ra0 ra1 : Addr) (kc2 : ClassId) (cs3 : List Int32) (ra4 ra5 : Addr) (kc6 : ClassId) (G1 : Int32) (h0 : Heap) (n0 : Nat) (v : Option Value) (h : Heap) (L : List Loc) : Prop := (v = none ∧ Fr n0 L ∧ Keep h0 h [ra1] ∧ Arv Z h ra1 kc2 .byte (16 : Int32) (own_by cs3) (.int 0))
theorem rm12_20 l Z a0 (hw : HW Z a0) ra0 ra1 kc2 (cs3 : List Int32) ra4 ra5 kc6 (G1 : Int32) h0 n0 (OLD : Old Z n0 h0) (A' : Exa Z h0 ra0 cN3) (B' : Fld Z h0 ra0 cN0 "coder" "B" (.int 0)) (C' : Fld Z h0 ra0 cN0 "count" "I" (.int 12)) (D' : Fld Z h0 ra0 cN0 "value" "[B" (.ref ra1)) (E' : cs3.length = 12) (F' : own_L cs3) (G' : Arv Z h0 ra1 kc2 .byte (16 : Int32) (own_by cs3) (.int 0)) (H' : Exa Z h0 ra4 cN1) (I' : Fld Z h0 ra4 cN1 "coder" "B" (.int 0)) (J' : Fld Z h0 ra4 cN1 "value" "[B" (.ref ra5)) (K' : Arv Z h0 ra5 kc6 .byte (0 : Int32) (own_by ([] : List Int32)) (.int 0)) (O2 : Sta Z Z.heap cN1 "COMPACT_STRINGS" "Z" (.int G1)) (P5 : ¬ (G1 = (0 : Int32))) (L' : n0 ≤ ra1) :
    own_CN l Z y8 jdk_68_method_73_code 3 none [] R12_20 #[.ref ra0, .int 12, .ref ra4] h0 (Q12_20 Z ra0 ra1 kc2 cs3 ra4 ra5 kc6 G1 h0 n0) := by
  refine own_entryN (plainFor_of_name pn_1) fun p e s m below meth c s₁ hx hby hml hown hnm hret hlk hZ hh X0 e0 => ?_
  have N0 := Fr.nil n0
  rw [ef_12_20 m ra0 ra4]
  refine og s₁ (mkF m 2 #[vR ra0, vI 12, vR ra4] [.ref ra4, .ref ra0]) (fun _ k => qa X0 hx hby d12_0 rfl rfl rfl (qa X0 hx hby d12_1 rfl rfl rfl k)) ?_
  obtain ⟨_, T1, L1, X1, hQ1, st1⟩ := own_pc X0 hx hZ hown (ow hw 83) (ow hw 86) (ow hw 84) (ow hw 85) A' (rm13_14 l Z a0 hw ra0 ra4 G1 ((0 : Int32)) ((0 : Int32)) h0 n0 OLD O2 P5 B' I' H' (by decide : (0 : Int32) = (0 : Int32))) (ow hw 87) (ow hw 41) e0 (g := (mkF m 2 #[vR ra0, vI 12, vR ra4] [.ref ra4, .ref ra0])) rfl (zs hml) (argsL := [.ref ra4]) (rest := []) (lenOf pd_5 rfl) rfl (hb hby d12_2) (W := 0) rfl
  obtain ⟨rfl, Nq1, eq1⟩ := hQ1
  have N1 := Fr.app N0 Nq1
  refine og T1 (mkF m 7 #[vR ra0, vI 12, vR ra4] [.ref ra0, .ref ra4]) (fun _ k => st1.trans (qa X1 hx hby d12_5 rfl rfl rfl (qa X1 hx hby d12_6 rfl rfl rfl k))) ?_
  obtain ⟨T2, X2, e2, st2⟩ := qf X1 hx hZ hown (ow hw 45) eq1 D' (g := (mkF m 7 #[vR ra0, vI 12, vR ra4] [.ref ra0, .ref ra4])) rfl rfl hby d12_7
  refine og T2 (mkF m 12 #[vR ra0, vI 12, vR ra4] [.ref ra0, .int 12, .ref ra1, .ref ra4]) (fun _ k => st2 _ (qi X2 hx hby d12_10 rfl rfl (qa X2 hx hby d12_11 rfl rfl rfl k))) ?_
  obtain ⟨T3, X3, e3, st3⟩ := qf X2 hx hZ hown (ow hw 47) e2 B' (g := (mkF m 12 #[vR ra0, vI 12, vR ra4] [.ref ra0, .int 12, .ref ra1, .ref ra4])) rfl rfl hby d12_12
  refine og T3 (mkF m 15 #[vR ra0, vI 12, vR ra4] [.int 0, .int 12, .ref ra1, .ref ra4]) st3 ?_
  obtain ⟨_, T4, L4, X4, hQ4, st4⟩ := own_vc X3 hx hZ hown (ow hw 89) (ow hw 90) (ow hw 92) (ow hw 91) H' (rm14_21 l Z a0 hw ra4 ra5 kc6 ra1 kc2 cs3 G1 h0 n0 OLD H' I' J' K' E' F' G' O2 P5 L') (ow hw 93) (ow hw 2) e3 (g := (mkF m 15 #[vR ra0, vI 12, vR ra4] [.int 0, .int 12, .ref ra1, .ref ra4])) rfl (zs hml) (argsL := [.ref ra1, .int 12, .int 0]) (rest := []) (lenOf pd_6 rfl) rfl (hb hby d12_15) (W := 0) rfl
  obtain ⟨rfl, Nq4, K4, f5⟩ := hQ4
  have N4 := Fr.app N1 Nq4
  refine ot T4 (mkF m 18 #[vR ra0, vI 12, vR ra4] []) st4 ?_
  have KEEP := ((Keep.refl h0 [ra1]).trans K4 (allS (Or.inl (List.mem_of_getElem? (i := 0) rfl)) all0))
  exact own_leaveN X4 hlk (v := none) (fun _ => rfl) (lb rfl) (lb rfl) (by exact ⟨rfl, N4, KEEP, f5⟩) (fun fs hr => X4.returnOut hx hret (hb hby d12_18) hr)
abbrev R8_18 : Room := { frames := 3, cells := 0, slots := 0, locals := 47 }
def Q8_18 (Z : State) (ra0 ra1 : Addr) (kc2 : ClassId) (cs3 : List Int32) (ra4 ra5 : Addr) (kc6 : ClassId) (G1 : Int32) (h0 : Heap) (n0 : Nat) (v : Option Value) (h : Heap) (L : List Loc) : Prop := (v = some (.ref ra0) ∧ Fr n0 L ∧ Keep h0 h [ra1, ra0] ∧ Arv Z h ra1 kc2 .byte (16 : Int32) (own_by cs3) (.int 0) ∧ Fld Z h ra0 cN0 "coder" "B" (.int 0) ∧ Fld Z h ra0 cN0 "count" "I" (.int 12) ∧ Fld Z h ra0 cN0 "value" "[B" (.ref ra1))
theorem rm8_18 l Z a0 (hw : HW Z a0) ra0 ra1 kc2 (cs3 : List Int32) ra4 ra5 kc6 (G1 : Int32) h0 n0 (OLD : Old Z n0 h0) (A' : Exa Z h0 ra0 cN3) (B' : Fld Z h0 ra0 cN0 "coder" "B" (.int 0)) (C' : Fld Z h0 ra0 cN0 "count" "I" (.int 12)) (D' : Fld Z h0 ra0 cN0 "value" "[B" (.ref ra1)) (E' : cs3.length = 12) (F' : own_L cs3) (G' : Arv Z h0 ra1 kc2 .byte (16 : Int32) (own_by cs3) (.int 0)) (H' : Exa Z h0 ra4 cN1) (I' : Fld Z h0 ra4 cN1 "coder" "B" (.int 0)) (J' : Fld Z h0 ra4 cN1 "value" "[B" (.ref ra5)) (K' : Arv Z h0 ra5 kc6 .byte (0 : Int32) (own_by ([] : List Int32)) (.int 0)) (O2 : Sta Z Z.heap cN1 "COMPACT_STRINGS" "Z" (.int G1)) (P5 : ¬ (G1 = (0 : Int32))) (L' : n0 ≤ ra1) (ne_ra0_ra1 : ra0 ≠ ra1) (M' : n0 ≤ ra0) :
    own_CN l Z y9 jdk_68_method_22_code 3 (some (.object cN0)) [] R8_18 #[.ref ra0, .ref ra4] h0 (Q8_18 Z ra0 ra1 kc2 cs3 ra4 ra5 kc6 G1 h0 n0) := by
  refine own_entryN (plainFor_of_name pn_1) fun p e s m below meth c s₁ hx hby hml hown hnm hret hlk hZ hh X0 e0 => ?_
  have N0 := Fr.nil n0
  rw [ef_8_11 m ra0 ra4]
  refine og s₁ (mkF m 10 #[vR ra0, vR ra4, vU] [.ref ra4]) (fun _ k => qa X0 hx hby d8_0 rfl rfl rfl (XS.ifnonnullYes X0.here hx rfl (pc0 := 1) (pc' := 9) rfl (hb hby d8_1) rfl (by decide) (by decide) (qa X0 hx hby d8_9 rfl rfl rfl k))) ?_
  obtain ⟨T1, X1, e1, st1⟩ := own_lenA X0 hx hZ hown (ow hw 60) hw H' J' I' K' rfl (fun _ q => nomatch q) e0 (O2.ext OLD.2) P5 (g := (mkF m 10 #[vR ra0, vR ra4, vU] [.ref ra4])) rfl (zs hml) (rest := []) rfl (hb hby d8_10) (W := 0) rfl
  refine og T1 (mkF m 16 #[vR ra0, vR ra4, vI 0] [.ref ra0, .ref ra0]) (fun _ k => st1 _ (XS.istoreN X1.here hx rfl (hb hby d8_13) rfl (l' := #[vR ra0, vR ra4, vI 0]) rfl (qa X1 hx hby d8_14 rfl rfl rfl (qa X1 hx hby d8_15 rfl rfl rfl k)))) ?_
  obtain ⟨T2, X2, e2, st2⟩ := qf X1 hx hZ hown (ow hw 71) e1 C' (g := (mkF m 16 #[vR ra0, vR ra4, vI 0] [.ref ra0, .ref ra0])) rfl rfl hby d8_16
  refine og T2 (mkF m 21 #[vR ra0, vR ra4, vI 0] [.int 12, .ref ra0]) (fun _ k => st2 _ (qi X2 hx hby d8_19 rfl rfl (qp X2 hx hby d8_20 rfl rfl k))) ?_
  obtain ⟨_, T3, L3, X3, hQ3, st3⟩ := own_pc X2 hx hZ hown (ow hw 73) (ow hw 76) (ow hw 74) (ow hw 75) A' (rm11_19 l Z a0 hw ra0 ra1 kc2 cs3 h0 n0 OLD A' B' C' D' E' F' G') (ow hw 77) (ow hw 41) e2 (g := (mkF m 21 #[vR ra0, vR ra4, vI 0] [.int 12, .ref ra0])) rfl (zs hml) (argsL := [.int 12]) (rest := []) (lenOf pd_2 rfl) rfl (hb hby d8_21) (W := 0) rfl
  obtain ⟨rfl, Nq3, eq3⟩ := hQ3
  have N3 := Fr.app N0 Nq3
  refine og T3 (mkF m 26 #[vR ra0, vR ra4, vI 0] [.ref ra0, .ref ra0]) (fun _ k => st3.trans (qa X3 hx hby d8_24 rfl rfl rfl (qa X3 hx hby d8_25 rfl rfl rfl k))) ?_
  obtain ⟨T4, X4, e4, st4⟩ := qf X3 hx hZ hown (ow hw 71) eq3 C' (g := (mkF m 26 #[vR ra0, vR ra4, vI 0] [.ref ra0, .ref ra0])) rfl rfl hby d8_26
  refine og T4 (mkF m 30 #[vR ra0, vR ra4, vI 0] [.ref ra4, .int 12, .ref ra0]) (fun _ k => st4 _ (qa X4 hx hby d8_29 rfl rfl rfl k)) ?_
  obtain ⟨_, T5, L5, X5, hQ5, st5⟩ := own_pc X4 hx hZ hown (ow hw 78) (ow hw 81) (ow hw 79) (ow hw 80) A' (rm12_20 l Z a0 hw ra0 ra1 kc2 cs3 ra4 ra5 kc6 G1 h0 n0 OLD A' B' C' D' E' F' G' H' I' J' K' O2 P5 L') (ow hw 82) (ow hw 41) e4 (g := (mkF m 30 #[vR ra0, vR ra4, vI 0] [.ref ra4, .int 12, .ref ra0])) rfl (zs hml) (argsL := [.int 12, .ref ra4]) (rest := []) (lenOf pd_7 rfl) rfl (hb hby d8_30) (W := 0) rfl
  obtain ⟨rfl, Nq5, K5, f6⟩ := hQ5
  have N5 := Fr.app N3 Nq5
  refine og T5 (mkF m 35 #[vR ra0, vR ra4, vI 0] [.ref ra0, .ref ra0]) (fun _ k => st5.trans (qa X5 hx hby d8_33 rfl rfl rfl (XS.dup X5.here hx rfl (hb hby d8_34) rfl rfl k))) ?_
  have F7 := (C'.keep K5 (ninS ne_ra0_ra1 nin0))
  obtain ⟨T8, X8, e8, st8⟩ := qf X5 hx hZ hown (ow hw 71) rfl F7 (g := (mkF m 35 #[vR ra0, vR ra4, vI 0] [.ref ra0, .ref ra0])) rfl rfl hby d8_35
  refine og T8 (mkF m 40 #[vR ra0, vR ra4, vI 0] [.int 12, .ref ra0]) (fun _ k => st8 _ (qi X8 hx hby d8_38 rfl rfl (qp X8 hx hby d8_39 rfl rfl k))) ?_
  have F9 := (A'.keep K5)
  obtain ⟨T10, h10, X10, e10, W10, st10⟩ := putF X8 hx hZ hown (host := "") (Or.inl (ow hw 71)) Via.refl e8 F7 F9 (Or.inl (ow hw 72)) (ow hw 32) (ty := .int) (by decide) rfl rfl (g := (mkF m 40 #[vR ra0, vR ra4, vI 0] [.int 12, .ref ra0])) rfl rfl (hb hby d8_40)
  have Fw10 := F7.same W10
  have N10 := Fr.snoc X10 N5 M'
  refine og T10 (mkF m 44 #[vR ra0, vR ra4, vI 0] [.ref ra0]) (fun _ k => st10 _ (qa X10 hx hby d8_43 rfl rfl rfl k)) ?_
  have F11 := (f6.other W10 (Ne.symm ne_ra0_ra1))
  have F12 := ((B'.keep K5 (ninS ne_ra0_ra1 nin0)).other W10 (Or.inr (slot_ne (Or.inl (ow hw 48)) (Or.inl (ow hw 72)) (by decide) (t := .byte) (t' := .int) (by decide) (by decide))))
  have F13 := ((D'.keep K5 (ninS ne_ra0_ra1 nin0)).other W10 (Or.inr (slot_ne (Or.inl (ow hw 46)) (Or.inl (ow hw 72)) (by decide) (t := (.array .byte)) (t' := .int) (by decide) (by decide))))
  have KEEP := (((Keep.refl h0 [ra1, ra0]).trans K5 (allS (Or.inl (List.mem_of_getElem? (i := 0) rfl)) all0)).wr W10 (Or.inl (List.mem_of_getElem? (i := 1) rfl)))
  exact own_leaveN X10 hlk (v := some (.ref ra0)) (own_nr hret) (lb rfl) (lb rfl) (by rw [e10]; exact ⟨rfl, N10, KEEP, F11, F12, Fw10, F13⟩) (own_ra X10 hx hret rfl rfl rfl (hb hby d8_44))
abbrev R7_17 : Room := { frames := 4, cells := 0, slots := 0, locals := 61 }
def Q7_17 (Z : State) (ra0 ra1 : Addr) (kc2 : ClassId) (cs3 : List Int32) (ra4 ra5 : Addr) (kc6 : ClassId) (G1 : Int32) (h0 : Heap) (n0 : Nat) (v : Option Value) (h : Heap) (L : List Loc) : Prop := (v = some (.ref ra0) ∧ Fr n0 L ∧ Keep h0 h [ra1, ra0] ∧ Arv Z h ra1 kc2 .byte (16 : Int32) (own_by cs3) (.int 0) ∧ Fld Z h ra0 cN0 "coder" "B" (.int 0) ∧ Fld Z h ra0 cN0 "count" "I" (.int 12) ∧ Fld Z h ra0 cN0 "value" "[B" (.ref ra1))
theorem rm7_17 l Z a0 (hw : HW Z a0) ra0 ra1 kc2 (cs3 : List Int32) ra4 ra5 kc6 (G1 : Int32) h0 n0 (OLD : Old Z n0 h0) (A' : Exa Z h0 ra0 cN3) (B' : Fld Z h0 ra0 cN0 "coder" "B" (.int 0)) (C' : Fld Z h0 ra0 cN0 "count" "I" (.int 12)) (D' : Fld Z h0 ra0 cN0 "value" "[B" (.ref ra1)) (E' : cs3.length = 12) (F' : own_L cs3) (G' : Arv Z h0 ra1 kc2 .byte (16 : Int32) (own_by cs3) (.int 0)) (H' : Exa Z h0 ra4 cN1) (I' : Fld Z h0 ra4 cN1 "coder" "B" (.int 0)) (J' : Fld Z h0 ra4 cN1 "value" "[B" (.ref ra5)) (K' : Arv Z h0 ra5 kc6 .byte (0 : Int32) (own_by ([] : List Int32)) (.int 0)) (O2 : Sta Z Z.heap cN1 "COMPACT_STRINGS" "Z" (.int G1)) (P5 : ¬ (G1 = (0 : Int32))) (L' : n0 ≤ ra1) (ne_ra0_ra1 : ra0 ≠ ra1) (M' : n0 ≤ ra0) :
    own_CN l Z y10 jdk_67_method_7_code 2 (some (.object cN3)) [] R7_17 #[.ref ra0, .ref ra4] h0 (Q7_17 Z ra0 ra1 kc2 cs3 ra4 ra5 kc6 G1 h0 n0) := by
  refine own_entryN (plainFor_of_name pn_2) fun p e s m below meth c s₁ hx hby hml hown hnm hret hlk hZ hh X0 e0 => ?_
  have N0 := Fr.nil n0
  rw [ef_1_5 m ra0 ra4]
  refine og s₁ (mkF m 2 #[vR ra0, vR ra4] [.ref ra4, .ref ra0]) (fun _ k => qa X0 hx hby d7_0 rfl rfl rfl (qa X0 hx hby d7_1 rfl rfl rfl k)) ?_
  obtain ⟨_, _, ⟨T2, L2, k2, n2⟩, -, X2, ⟨Lc2, hQ2, l2, y2, z2⟩, st2⟩ := superBack X0 hx hZ (y := y9) hown (ow hw 55) (own_same (z := y4) (ow hw 76) (ow hw 56) rfl (by decide)) (ow hw 56) (ow hw 57) (by decide) (backOf (W := 0) (rm8_18 l Z a0 hw ra0 ra1 kc2 cs3 ra4 ra5 kc6 G1 h0 n0 OLD A' B' C' D' E' F' G' H' I' J' K' O2 P5 L' ne_ra0_ra1 M') hZ (ow hw 59) (ow hw 41) (lb rfl) (lb rfl)) e0 (Ins.self A') (g := (mkF m 2 #[vR ra0, vR ra4] [.ref ra4, .ref ra0])) rfl (zs hml) (ow hw 59) (argsL := [.ref ra4]) (rest := []) (lenOf pd_8 rfl) rfl (lb rfl) (hb hby d7_2) (fun _ _ => ⟨rfl, e0, (lb rfl), (lb rfl)⟩)
  dsimp only [Pt.U, Pt.locs, Pt.cells, Pt.slots] at X2 l2 y2 z2 st2 hQ2
  subst l2 y2 z2
  obtain ⟨rfl, Nq2, K2, f3, f4, f5, f6⟩ := hQ2
  have N2 := Fr.app N0 Nq2
  refine og T2 (mkF m 7 #[vR ra0, vR ra4] [.ref ra0]) (fun _ k => st2.trans (XS.pop X2.here hx rfl (hb hby d7_5) rfl rfl (qa X2 hx hby d7_6 rfl rfl rfl k))) ?_
  have KEEP := ((Keep.refl h0 [ra1, ra0]).trans K2 (allS (Or.inl (List.mem_of_getElem? (i := 0) rfl)) (allS (Or.inl (List.mem_of_getElem? (i := 1) rfl)) all0)))
  exact own_leaveN X2 hlk (v := some (.ref ra0)) (own_nr hret) (lb rfl) (lb rfl) (by exact ⟨rfl, N2, KEEP, f3, f4, f5, f6⟩) (own_ra X2 hx hret rfl rfl rfl (hb hby d7_7))
abbrev R17_27 : Room := { frames := 0, cells := 0, slots := 0, locals := 0 }
def Q17_27 (Z : State)  (h0 : Heap) (n0 : Nat) (v : Option Value) (h : Heap) (L : List Loc) : Prop := (v = some (.int 18) ∧ Fr n0 L ∧ h = h0)
theorem rm17_27 l Z a0 (hw : HW Z a0)  h0 n0 (OLD : Old Z n0 h0) :
    own_CN l Z y11 jdk_29_method_65_code 2 (some .int) [] R17_27 #[.int 11, .int 18] h0 (Q17_27 Z  h0 n0) := by
  refine own_entryN (Jvm.Free.JP.mathPlain rfl (by decide +kernel)) fun p e s m below meth c s₁ hx hby hml hown hnm hret hlk hZ hh X0 e0 => ?_
  have N0 := Fr.nil n0
  rw [ef_17_27 m ]
  refine og s₁ (mkF m 10 #[vI 11, vI 18] [.int 18]) (fun _ k => qi X0 hx hby d17_0 rfl rfl (qi X0 hx hby d17_1 rfl rfl (XS.icmpYes X0.here hx rfl (pc0 := 2) (pc' := 9) rfl (hb hby d17_2) rfl (tlt (by decide : (11 : Int32) < (18 : Int32))).1 (by decide) (by decide) (qi X0 hx hby d17_9 rfl rfl k)))) ?_
  exact own_leaveN X0 hlk (v := some (.int 18)) (own_nr hret) (lb rfl) (lb rfl) (by rw [e0]; exact ⟨rfl, N0, rfl⟩) (fun fs hr => retI X0 hx hret (hb hby d17_10) hr)
abbrev R16_26 : Room := { frames := 1, cells := 0, slots := 0, locals := 14 }
def Q16_26 (Z : State)  (h0 : Heap) (n0 : Nat) (v : Option Value) (h : Heap) (L : List Loc) : Prop := (v = some (.int 34) ∧ Fr n0 L ∧ h = h0)
theorem rm16_26 l Z a0 (hw : HW Z a0)  h0 n0 (OLD : Old Z n0 h0) :
    own_CN l Z y12 jdk_48_method_27_code 4 (some .int) [] R16_26 #[.int 16, .int 11, .int 18] h0 (Q16_26 Z  h0 n0) := by
  refine own_entryN (plainFor_of_name pn_3) fun p e s m below meth c s₁ hx hby hml hown hnm hret hlk hZ hh X0 e0 => ?_
  have N0 := Fr.nil n0
  rw [ef_16_26 m ]
  refine og s₁ (mkF m 3 #[vI 16, vI 11, vI 18, vU] [.int 18, .int 11, .int 16]) (fun _ k => qi X0 hx hby d16_0 rfl rfl (qi X0 hx hby d16_1 rfl rfl (qi X0 hx hby d16_2 rfl rfl k))) ?_
  obtain ⟨_, T1, L1, X1, hQ1, st1⟩ := own_tc X0 hx hZ hown (ow hw 108) (ow hw 109) (rm17_27 l Z a0 hw  h0 n0 OLD ) (ow hw 111) (ow hw 110) e0 (g := (mkF m 3 #[vI 16, vI 11, vI 18, vU] [.int 18, .int 11, .int 16])) rfl (zs hml) (argsL := [.int 11, .int 18]) (rest := [.int 16]) (lenOf pd_10 rfl) rfl (hb hby d16_3) (W := 1) rfl
  obtain ⟨rfl, Nq1, eq1⟩ := hQ1
  have N1 := Fr.app N0 Nq1
  refine og T1 (mkF m 14 #[vI 16, vI 11, vI 18, vI 34] [.int 34]) (fun _ k => st1.trans (qp X1 hx hby d16_6 rfl rfl (XS.istoreN X1.here hx rfl (hb hby d16_7) rfl (l' := #[vI 16, vI 11, vI 18, vI 34]) rfl (qc X1 hx hby d16_8 rfl (qi X1 hx hby d16_9 rfl rfl (qn X1 hx hby d16_10 rfl rfl (tlt (by decide : (0 : Int32) < (34 : Int32))).2.1 (qi X1 hx hby d16_13 rfl rfl k))))))) ?_
  refine og T1 (mkF m 16 #[vI 16, vI 11, vI 18, vI 34] [.int 2147483639, .int 34]) (fun t k => X1.ldcInt hx hown (mvT hZ (ow hw 112)) (g := (mkF m 14 #[vI 16, vI 11, vI 18, vI 34] [.int 34])) rfl (hb hby d16_14) t k) ?_
  refine og T1 (mkF m 20 #[vI 16, vI 11, vI 18, vI 34] [.int 34]) (fun _ k => qn X1 hx hby d16_16 rfl rfl (flt (by decide : ¬ ((2147483639 : Int32) < (34 : Int32)))).2.2.1 (qi X1 hx hby d16_19 rfl rfl k)) ?_
  exact own_leaveN X1 hlk (v := some (.int 34)) (own_nr hret) (lb rfl) (lb rfl) (by rw [eq1]; exact ⟨rfl, N1, rfl⟩) (fun fs hr => retI X1 hx hret (hb hby d16_20) hr)
abbrev R15_25 : Room := { frames := 2, cells := 0, slots := 0, locals := 29 }
def Q15_25 (Z : State) (ra0 ra1 : Addr) (kc2 : ClassId) (cs3 : List Int32) (h0 : Heap) (n0 : Nat) (v : Option Value) (h : Heap) (L : List Loc) : Prop := (v = some (.int 34) ∧ Fr n0 L ∧ h = h0)
theorem rm15_25 l Z a0 (hw : HW Z a0) ra0 ra1 kc2 (cs3 : List Int32) h0 n0 (OLD : Old Z n0 h0) (A' : Exa Z h0 ra0 cN3) (B' : Fld Z h0 ra0 cN0 "coder" "B" (.int 0)) (C' : Fld Z h0 ra0 cN0 "count" "I" (.int 12)) (D' : Fld Z h0 ra0 cN0 "value" "[B" (.ref ra1)) (E' : cs3.length = 12) (F' : own_L cs3) (G' : Arv Z h0 ra1 kc2 .byte (16 : Int32) (own_by cs3) (.int 0)) :
    own_CN l Z y13 jdk_68_method_10_code 6 (some .int) [] R15_25 #[.ref ra0, .int 27] h0 (Q15_25 Z ra0 ra1 kc2 cs3 h0 n0) := by
  refine own_entryN (plainFor_of_name pn_1) fun p e s m below meth c s₁ hx hby hml hown hnm hret hlk hZ hh X0 e0 => ?_
  have N0 := Fr.nil n0
  rw [ef_15_25 m ra0]
  refine og s₁ (mkF m 1 #[vR ra0, vI 27, vU, vU, vU, vU] [.ref ra0]) (fun _ k => qa X0 hx hby d15_0 rfl rfl rfl k) ?_
  obtain ⟨T1, X1, e1, st1⟩ := qf X0 hx hZ hown (ow hw 45) e0 D' (g := (mkF m 1 #[vR ra0, vI 27, vU, vU, vU, vU] [.ref ra0])) rfl rfl hby d15_1
  refine og T1 (mkF m 4 #[vR ra0, vI 27, vU, vU, vU, vU] [.ref ra1]) st1 ?_
  obtain ⟨cl2, Ar2, -, Sr2, Nr2, -, -⟩ := id G'
  refine og T1 (mkF m 5 #[vR ra0, vI 27, vU, vU, vU, vU] [.int 16]) (fun t k => X1.arraylength hx (by rw [e1]; exact Ar2.1) (State.isArrayOf_alike hZ.alike Ar2.2.1) (g := (mkF m 4 #[vR ra0, vI 27, vU, vU, vU, vU] [.ref ra1])) rfl rfl (hb hby d15_4) t (by rw [len_of Sr2 Nr2]; exact k)) ?_
  refine og T1 (mkF m 8 #[vR ra0, vI 27, vI 16, vU, vU, vU] [.ref ra0, .int 27]) (fun _ k => XS.istoreN X1.here hx rfl (hb hby d15_5) rfl (l' := #[vR ra0, vI 27, vI 16, vU, vU, vU]) rfl (qi X1 hx hby d15_6 rfl rfl (qa X1 hx hby d15_7 rfl rfl rfl k))) ?_
  obtain ⟨T3, X3, e3, st3⟩ := qf X1 hx hZ hown (ow hw 47) e1 B' (g := (mkF m 8 #[vR ra0, vI 27, vI 16, vU, vU, vU] [.ref ra0, .int 27])) rfl rfl hby d15_8
  refine og T3 (mkF m 12 #[vR ra0, vI 27, vI 16, vU, vU, vU] [.int 27]) (fun _ k => st3 _ (XS.ishl X3.here hx rfl (hb hby d15_11) rfl (by rw [show ((27 : Int32) <<< ((0 : Int32) &&& 31)) = (27 : Int32) from by decide]; exact k))) ?_
  refine og T3 (mkF m 24 #[vR ra0, vI 27, vI 16, vI 27, vI 11, vU] [.ref ra0, .int 2, .int 16, .int 11, .int 16]) (fun _ k => XS.istoreN X3.here hx rfl (hb hby d15_12) rfl (l' := #[vR ra0, vI 27, vI 16, vI 27, vU, vU]) rfl (qi X3 hx hby d15_13 rfl rfl (qi X3 hx hby d15_14 rfl rfl (XS.isub X3.here hx rfl (hb hby d15_15) rfl (XS.istore X3.here hx rfl (hb hby d15_16) rfl (l' := #[vR ra0, vI 27, vI 16, vI 27, vI 11, vU]) rfl (qi X3 hx hby d15_18 rfl rfl (XS.iload X3.here hx rfl (hb hby d15_19) rfl (qi X3 hx hby d15_21 rfl rfl (qc X3 hx hby d15_22 rfl (qa X3 hx hby d15_23 rfl rfl rfl k)))))))))) ?_
  obtain ⟨T4, X4, e4, st4⟩ := qf X3 hx hZ hown (ow hw 47) e3 B' (g := (mkF m 24 #[vR ra0, vI 27, vI 16, vI 27, vI 11, vU] [.ref ra0, .int 2, .int 16, .int 11, .int 16])) rfl rfl hby d15_24
  refine og T4 (mkF m 28 #[vR ra0, vI 27, vI 16, vI 27, vI 11, vU] [.int 2, .int 16, .int 11, .int 16]) (fun _ k => st4 _ (XS.ishl X4.here hx rfl (hb hby d15_27) rfl (by rw [show ((2 : Int32) <<< ((0 : Int32) &&& 31)) = (2 : Int32) from by decide]; exact k))) ?_
  refine og T4 (mkF m 29 #[vR ra0, vI 27, vI 16, vI 27, vI 11, vU] [.int 18, .int 11, .int 16]) (fun _ k => qp X4 hx hby d15_28 rfl rfl k) ?_
  obtain ⟨_, T5, L5, X5, hQ5, st5⟩ := own_tc X4 hx hZ hown (ow hw 104) (ow hw 105) (rm16_26 l Z a0 hw  h0 n0 OLD ) (ow hw 107) (ow hw 106) e4 (g := (mkF m 29 #[vR ra0, vI 27, vI 16, vI 27, vI 11, vU] [.int 18, .int 11, .int 16])) rfl (zs hml) (argsL := [.int 16, .int 11, .int 18]) (rest := []) (lenOf pd_11 rfl) rfl (hb hby d15_29) (W := 0) rfl
  obtain ⟨rfl, Nq5, eq5⟩ := hQ5
  have N5 := Fr.app N0 Nq5
  refine og T5 (mkF m 36 #[vR ra0, vI 27, vI 16, vI 27, vI 11, vI 34] [.int 34]) (fun _ k => st5.trans (XS.istore X5.here hx rfl (hb hby d15_32) rfl (l' := #[vR ra0, vI 27, vI 16, vI 27, vI 11, vI 34]) rfl (XS.iload X5.here hx rfl (hb hby d15_34) rfl k))) ?_
  refine og T5 (mkF m 38 #[vR ra0, vI 27, vI 16, vI 27, vI 11, vI 34] [.int 2147483647, .int 34]) (fun t k => X5.ldcInt hx hown (mvT hZ (ow hw 113)) (g := (mkF m 36 #[vR ra0, vI 27, vI 16, vI 27, vI 11, vI 34] [.int 34])) rfl (hb hby d15_36) t k) ?_
  refine og T5 (mkF m 54 #[vR ra0, vI 27, vI 16, vI 27, vI 11, vI 34] [.ref ra0, .int 34]) (fun _ k => XS.icmpYes X5.here hx rfl (pc0 := 38) (pc' := 51) rfl (hb hby d15_38) rfl (feq (by decide : ¬ ((34 : Int32) = (2147483647 : Int32)))).2 (by decide) (by decide) (XS.iload X5.here hx rfl (hb hby d15_51) rfl (qa X5 hx hby d15_53 rfl rfl rfl k))) ?_
  obtain ⟨T6, X6, e6, st6⟩ := qf X5 hx hZ hown (ow hw 47) eq5 B' (g := (mkF m 54 #[vR ra0, vI 27, vI 16, vI 27, vI 11, vI 34] [.ref ra0, .int 34])) rfl rfl hby d15_54
  refine og T6 (mkF m 58 #[vR ra0, vI 27, vI 16, vI 27, vI 11, vI 34] [.int 34]) (fun _ k => st6 _ (XS.ishr X6.here hx rfl (hb hby d15_57) rfl (by rw [show ((34 : Int32) >>> ((0 : Int32) &&& 31)) = (34 : Int32) from by decide]; exact k))) ?_
  exact own_leaveN X6 hlk (v := some (.int 34)) (own_nr hret) (lb rfl) (lb rfl) (by rw [e6]; exact ⟨rfl, N5, rfl⟩) (fun fs hr => retI X6 hx hret (hb hby d15_58) hr)
abbrev R19_29 : Room := { frames := 0, cells := 0, slots := 0, locals := 0 }
def Q19_29 (Z : State)  (h0 : Heap) (n0 : Nat) (v : Option Value) (h : Heap) (L : List Loc) : Prop := (v = some (.int 16) ∧ Fr n0 L ∧ h = h0)
theorem rm19_29 l Z a0 (hw : HW Z a0)  h0 n0 (OLD : Old Z n0 h0) :
    own_CN l Z y14 jdk_29_method_69_code 2 (some .int) [] R19_29 #[.int 16, .int 34] h0 (Q19_29 Z  h0 n0) := by
  refine own_entryN (Jvm.Free.JP.mathPlain rfl (by decide +kernel)) fun p e s m below meth c s₁ hx hby hml hown hnm hret hlk hZ hh X0 e0 => ?_
  have N0 := Fr.nil n0
  rw [ef_19_29 m ]
  refine og s₁ (mkF m 10 #[vI 16, vI 34] [.int 16]) (fun _ k => qi X0 hx hby d19_0 rfl rfl (qi X0 hx hby d19_1 rfl rfl (qn X0 hx hby d19_2 rfl rfl (flt (by decide : ¬ ((34 : Int32) < (16 : Int32)))).2.2.1 (qi X0 hx hby d19_5 rfl rfl (XS.goto X0.here hx rfl (pc0 := 6) (pc' := 10) rfl (hb hby d19_6) (by decide) (by decide) k))))) ?_
  exact own_leaveN X0 hlk (v := some (.int 16)) (own_nr hret) (lb rfl) (lb rfl) (by rw [e0]; exact ⟨rfl, N0, rfl⟩) (fun fs hr => retI X0 hx hret (hb hby d19_10) hr)
abbrev R18_28 : Room := { frames := 1, cells := 1, slots := 34, locals := 18 }
def Q18_28 (Z : State) (ra0 : Addr) (kc1 : ClassId) (cs2 : List Int32) (h0 : Heap) (n0 : Nat) (v : Option Value) (h : Heap) (L : List Loc) : Prop := (∃ (b2 : Addr) (k2 : ClassId), v = some (.ref b2) ∧ Fr n0 L ∧ Keep h0 h [] ∧ h0.size ≤ b2 ∧ Arv Z h b2 k2 .byte (34 : Int32) (own_by cs2) (.int 0))
theorem rm18_28 l Z a0 (hw : HW Z a0) ra0 kc1 (cs2 : List Int32) h0 n0 (OLD : Old Z n0 h0) (A' : cs2.length = 12) (B' : own_L cs2) (C' : Arv Z h0 ra0 kc1 .byte (16 : Int32) (own_by cs2) (.int 0)) :
    own_CN l Z y15 jdk_65_method_121_code 3 (some (.array .byte)) [] R18_28 #[.ref ra0, .int 34] h0 (Q18_28 Z ra0 kc1 cs2 h0 n0) := by
  refine own_entryN (plainFor_of_name pn_4) fun p e s m below meth c s₁ hx hby hml hown hnm hret hlk hZ hh X0 e0 => ?_
  have N0 := Fr.nil n0
  rw [ef_18_28 m ra0]
  refine og s₁ (mkF m 2 #[vR ra0, vI 34, vU] [.ref ra0, .int 34]) (fun _ k => qi X0 hx hby d18_0 rfl rfl (qa X0 hx hby d18_1 rfl rfl rfl k)) ?_
  obtain ⟨cl1, Ar1, -, Sr1, Nr1, -, -⟩ := id C'
  refine og s₁ (mkF m 3 #[vR ra0, vI 34, vU] [.int 16, .int 34]) (fun t k => X0.arraylength hx (by rw [e0]; exact Ar1.1) (State.isArrayOf_alike hZ.alike Ar1.2.1) (g := (mkF m 2 #[vR ra0, vI 34, vU] [.ref ra0, .int 34])) rfl rfl (hb hby d18_2) t (by rw [len_of Sr1 Nr1]; exact k)) ?_
  refine og s₁ (mkF m 15 #[vR ra0, vI 34, vU] [.int 34]) (fun _ k => XS.icmpYes X0.here hx rfl (pc0 := 3) (pc' := 14) rfl (hb hby d18_3) rfl (feq (by decide : ¬ ((34 : Int32) = (16 : Int32)))).2 (by decide) (by decide) (qi X0 hx hby d18_14 rfl rfl k)) ?_
  obtain ⟨T2, h2, k2, X2, e2, E2, A2, st2⟩ := newP X0 hx hZ (ow hw 15) e0 (g := (mkF m 15 #[vR ra0, vI 34, vU] [.int 34])) rfl (hb hby d18_15) rfl (by decide) (cap := 34) (by decide) (lb rfl) (lb rfl) (lb rfl)
  obtain ⟨b2, gb2⟩ : ∃ z, z = h0.size := ⟨_, rfl⟩
  rw [← gb2] at A2 st2
  have g3 : n0 ≤ b2 := Nat.le_trans (own_osz OLD) (Nat.le_of_eq gb2.symm)
  have z4 : h0.size ≤ b2 := Nat.le_trans (Nat.le_refl _) (Nat.le_of_eq gb2.symm)
  have V2 : Arv Z h2 b2 k2 .byte (34 : Int32) (own_by ([] : List Int32)) (.int 0) := Arv.new A2 (by decide)
  refine og T2 (mkF m 23 #[vR ra0, vI 34, vR b2] [.ref ra0, .int 0, .ref b2, .int 0, .ref ra0]) (fun _ k => st2 _ (XS.astoreN X2.here hx rfl (hb hby d18_17) rfl rfl (l' := #[vR ra0, vI 34, vR b2]) rfl (qa X2 hx hby d18_18 rfl rfl rfl (qc X2 hx hby d18_19 rfl (qa X2 hx hby d18_20 rfl rfl rfl (qc X2 hx hby d18_21 rfl (qa X2 hx hby d18_22 rfl rfl rfl k))))))) ?_
  have F5 := (C'.ext E2)
  obtain ⟨cl6, Ar6, -, Sr6, Nr6, -, -⟩ := id F5
  refine og T2 (mkF m 24 #[vR ra0, vI 34, vR b2] [.int 16, .int 0, .ref b2, .int 0, .ref ra0]) (fun t k => X2.arraylength hx (by rw [e2]; exact Ar6.1) (State.isArrayOf_alike hZ.alike Ar6.2.1) (g := (mkF m 23 #[vR ra0, vI 34, vR b2] [.ref ra0, .int 0, .ref b2, .int 0, .ref ra0])) rfl rfl (hb hby d18_23) t (by rw [len_of Sr6 Nr6]; exact k)) ?_
  refine og T2 (mkF m 25 #[vR ra0, vI 34, vR b2] [.int 34, .int 16, .int 0, .ref b2, .int 0, .ref ra0]) (fun _ k => qi X2 hx hby d18_24 rfl rfl k) ?_
  have F7 := (OLD.ext E2)
  obtain ⟨_, T8, L8, X8, hQ8, st8⟩ := own_tc X2 hx hZ hown (ow hw 118) (ow hw 119) (rm19_29 l Z a0 hw  h2 n0 F7 ) (ow hw 120) (ow hw 110) e2 (g := (mkF m 25 #[vR ra0, vI 34, vR b2] [.int 34, .int 16, .int 0, .ref b2, .int 0, .ref ra0])) rfl (zs hml) (argsL := [.int 16, .int 34]) (rest := [.int 0, .ref b2, .int 0, .ref ra0]) (lenOf pd_10 rfl) rfl (hb hby d18_25) (W := 4) rfl
  obtain ⟨rfl, Nq8, eq8⟩ := hQ8
  have N8 := Fr.app N0 Nq8
  refine ot T8 (mkF m 28 #[vR ra0, vI 34, vR b2] [.int 16, .int 0, .ref b2, .int 0, .ref ra0]) st8 ?_
  obtain ⟨T9, h9, L9, X9, e9, N9, K9, Vq9, st9⟩ := own_cpB X8 hx hZ hown (ow hw 121) (ow hw 97) (ow hw 95) (ow hw 96) eq8 F5 V2 (sp := (0 : Int32)) (dp := (0 : Int32)) (nn := (16 : Int32)) rfl (by decide) (by decide) (by decide) (by decide) (show _ = _ from rfl) ((Eq.symm A') ▸ lb rfl) N8 g3 (g := (mkF m 28 #[vR ra0, vI 34, vR b2] [.int 16, .int 0, .ref b2, .int 0, .ref ra0])) rfl (zs hml) rfl (hb hby d18_28) (lb rfl) (W := 0) (lb rfl) (lb rfl)
  have V9 : Arv Z h9 b2 k2 .byte (34 : Int32) (own_by cs2) (.int 0) := (by simpa using Vq9)
  refine og T9 (mkF m 32 #[vR ra0, vI 34, vR b2] [.ref b2]) (fun _ k => st9 _ (qa X9 hx hby d18_31 rfl rfl rfl k)) ?_
  have KEEP := (((Keep.refl h0 []).ext E2).trans K9 (allS (Or.inr z4) all0))
  exact own_leaveN X9 hlk (v := some (.ref b2)) (own_nr hret) (lb rfl) (lb rfl) (by rw [e9]; exact ⟨b2, k2, rfl, N9, KEEP, z4, V9⟩) (own_ra X9 hx hret rfl rfl rfl (hb hby d18_32))
abbrev R11_24 : Room := { frames := 3, cells := 1, slots := 34, locals := 48 }
def Q11_24 (Z : State) (ra0 ra1 : Addr) (kc2 : ClassId) (cs3 : List Int32) (h0 : Heap) (n0 : Nat) (v : Option Value) (h : Heap) (L : List Loc) : Prop := (∃ (o8 : Addr) (kc9 : ClassId), v = none ∧ Fr n0 L ∧ Keep h0 h [ra0] ∧ h0.size ≤ o8 ∧ Fld Z h ra0 cN0 "coder" "B" (.int 0) ∧ Fld Z h ra0 cN0 "count" "I" (.int 12) ∧ Fld Z h ra0 cN0 "value" "[B" (.ref o8) ∧ Arv Z h o8 kc9 .byte (34 : Int32) (own_by cs3) (.int 0))
theorem rm11_24 l Z a0 (hw : HW Z a0) ra0 ra1 kc2 (cs3 : List Int32) h0 n0 (OLD : Old Z n0 h0) (A' : Exa Z h0 ra0 cN3) (B' : Fld Z h0 ra0 cN0 "coder" "B" (.int 0)) (C' : Fld Z h0 ra0 cN0 "count" "I" (.int 12)) (D' : Fld Z h0 ra0 cN0 "value" "[B" (.ref ra1)) (E' : cs3.length = 12) (F' : own_L cs3) (G' : Arv Z h0 ra1 kc2 .byte (16 : Int32) (own_by cs3) (.int 0)) (H' : n0 ≤ ra0) :
    own_CN l Z y4 jdk_68_method_9_code 3 none [] R11_24 #[.ref ra0, .int 27] h0 (Q11_24 Z ra0 ra1 kc2 cs3 h0 n0) := by
  refine own_entryN (plainFor_of_name pn_1) fun p e s m below meth c s₁ hx hby hml hown hnm hret hlk hZ hh X0 e0 => ?_
  have N0 := Fr.nil n0
  rw [ef_11_24 m ra0]
  refine og s₁ (mkF m 1 #[vR ra0, vI 27, vU] [.ref ra0]) (fun _ k => qa X0 hx hby d11_0 rfl rfl rfl k) ?_
  obtain ⟨T1, X1, e1, st1⟩ := qf X0 hx hZ hown (ow hw 45) e0 D' (g := (mkF m 1 #[vR ra0, vI 27, vU] [.ref ra0])) rfl rfl hby d11_1
  refine og T1 (mkF m 4 #[vR ra0, vI 27, vU] [.ref ra1]) st1 ?_
  obtain ⟨cl2, Ar2, -, Sr2, Nr2, -, -⟩ := id G'
  refine og T1 (mkF m 5 #[vR ra0, vI 27, vU] [.int 16]) (fun t k => X1.arraylength hx (by rw [e1]; exact Ar2.1) (State.isArrayOf_alike hZ.alike Ar2.2.1) (g := (mkF m 4 #[vR ra0, vI 27, vU] [.ref ra1])) rfl rfl (hb hby d11_4) t (by rw [len_of Sr2 Nr2]; exact k)) ?_
  refine og T1 (mkF m 6 #[vR ra0, vI 27, vU] [.ref ra0, .int 16]) (fun _ k => qa X1 hx hby d11_5 rfl rfl rfl k) ?_
  obtain ⟨T3, X3, e3, st3⟩ := qf X1 hx hZ hown (ow hw 47) e1 B' (g := (mkF m 6 #[vR ra0, vI 27, vU] [.ref ra0, .int 16])) rfl rfl hby d11_6
  refine og T3 (mkF m 10 #[vR ra0, vI 27, vU] [.int 16]) (fun _ k => st3 _ (XS.ishr X3.here hx rfl (hb hby d11_9) rfl (by rw [show ((16 : Int32) >>> ((0 : Int32) &&& 31)) = (16 : Int32) from by decide]; exact k))) ?_
  refine og T3 (mkF m 19 #[vR ra0, vI 27, vI 16] [.ref ra0, .ref ra0]) (fun _ k => XS.istoreN X3.here hx rfl (hb hby d11_10) rfl (l' := #[vR ra0, vI 27, vI 16]) rfl (qi X3 hx hby d11_11 rfl rfl (qi X3 hx hby d11_12 rfl rfl (XS.isub X3.here hx rfl (hb hby d11_13) rfl (XS.ifNo X3.here hx rfl (hb hby d11_14) rfl ((if0 _ _).trans (tlt (by decide : (0 : Int32) < (11 : Int32))).2.2.2) (qa X3 hx hby d11_17 rfl rfl rfl (qa X3 hx hby d11_18 rfl rfl rfl k))))))) ?_
  obtain ⟨T4, X4, e4, st4⟩ := qf X3 hx hZ hown (ow hw 45) e3 D' (g := (mkF m 19 #[vR ra0, vI 27, vI 16] [.ref ra0, .ref ra0])) rfl rfl hby d11_19
  refine og T4 (mkF m 24 #[vR ra0, vI 27, vI 16] [.int 27, .ref ra0, .ref ra1, .ref ra0]) (fun _ k => st4 _ (qa X4 hx hby d11_22 rfl rfl rfl (qi X4 hx hby d11_23 rfl rfl k))) ?_
  obtain ⟨_, T5, L5, X5, hQ5, st5⟩ := own_pc X4 hx hZ hown (ow hw 99) (ow hw 102) (ow hw 100) (ow hw 101) A' (rm15_25 l Z a0 hw ra0 ra1 kc2 cs3 h0 n0 OLD A' B' C' D' E' F' G') (ow hw 103) (ow hw 41) e4 (g := (mkF m 24 #[vR ra0, vI 27, vI 16] [.int 27, .ref ra0, .ref ra1, .ref ra0])) rfl (zs hml) (argsL := [.int 27]) (rest := [.ref ra1, .ref ra0]) (lenOf pd_12 rfl) rfl (hb hby d11_24) (W := 2) rfl
  obtain ⟨rfl, Nq5, eq5⟩ := hQ5
  have N5 := Fr.app N0 Nq5
  refine og T5 (mkF m 28 #[vR ra0, vI 27, vI 16] [.ref ra0, .int 34, .ref ra1, .ref ra0]) (fun _ k => st5.trans (qa X5 hx hby d11_27 rfl rfl rfl k)) ?_
  obtain ⟨T6, X6, e6, st6⟩ := qf X5 hx hZ hown (ow hw 47) eq5 B' (g := (mkF m 28 #[vR ra0, vI 27, vI 16] [.ref ra0, .int 34, .ref ra1, .ref ra0])) rfl rfl hby d11_28
  refine og T6 (mkF m 32 #[vR ra0, vI 27, vI 16] [.int 34, .ref ra1, .ref ra0]) (fun _ k => st6 _ (XS.ishl X6.here hx rfl (hb hby d11_31) rfl (by rw [show ((34 : Int32) <<< ((0 : Int32) &&& 31)) = (34 : Int32) from by decide]; exact k))) ?_
  obtain ⟨_, T7, L7, X7, hQ7, st7⟩ := own_tc X6 hx hZ hown (ow hw 114) (ow hw 115) (rm18_28 l Z a0 hw ra1 kc2 cs3 h0 n0 OLD E' F' G') (ow hw 117) (ow hw 116) e6 (g := (mkF m 32 #[vR ra0, vI 27, vI 16] [.int 34, .ref ra1, .ref ra0])) rfl (zs hml) (argsL := [.ref ra1, .int 34]) (rest := [.ref ra0]) (lenOf pd_13 rfl) rfl (hb hby d11_32) (W := 1) rfl
  obtain ⟨o8, kc9, rfl, Nq7, K7, f10, f11⟩ := hQ7
  have N7 := Fr.app N5 Nq7
  have g12 : n0 ≤ o8 := Nat.le_trans (own_osz OLD) f10
  have z13 : h0.size ≤ o8 := Nat.le_trans (Nat.le_refl _) f10
  refine ot T7 (mkF m 35 #[vR ra0, vI 27, vI 16] [.ref o8, .ref ra0]) st7 ?_
  have F14 := (A'.keep K7)
  have F15 := (D'.keep K7 nin0)
  obtain ⟨T16, h16, X16, e16, W16, st16⟩ := putF X7 hx hZ hown (host := "") (Or.inl (ow hw 45)) Via.refl rfl F15 F14 (Or.inl (ow hw 46)) (ow hw 32) (ty := (.array .byte)) (by decide) rfl rfl (g := (mkF m 35 #[vR ra0, vI 27, vI 16] [.ref o8, .ref ra0])) rfl rfl (hb hby d11_35)
  have Fw16 := F15.same W16
  have N16 := Fr.snoc X16 N7 H'
  refine og T16 (mkF m 38 #[vR ra0, vI 27, vI 16] []) st16 ?_
  have F17 := ((B'.keep K7 nin0).other W16 (Or.inr (slot_ne (Or.inl (ow hw 48)) (Or.inl (ow hw 46)) (by decide) (t := .byte) (t' := (.array .byte)) (by decide) (by decide))))
  have F18 := ((C'.keep K7 nin0).other W16 (Or.inr (slot_ne (Or.inl (ow hw 72)) (Or.inl (ow hw 46)) (by decide) (t := .int) (t' := (.array .byte)) (by decide) (by decide))))
  have F19 := (f11.other W16 (Ne.symm (own_ne_lo A'.lt f10)))
  have KEEP := (((Keep.refl h0 [ra0]).trans K7 all0).wr W16 (Or.inl (List.mem_of_getElem? (i := 0) rfl)))
  exact own_leaveN X16 hlk (v := none) (fun _ => rfl) (lb rfl) (lb rfl) (by rw [e16]; exact ⟨o8, kc9, rfl, N16, KEEP, z13, F17, F18, Fw16, F19⟩) (fun fs hr => X16.returnOut hx hret (hb hby d11_38) hr)
abbrev R14_31 : Room := { frames := 1, cells := 0, slots := 0, locals := 18 }
def Q14_31 (Z : State) (ra0 ra1 : Addr) (kc2 : ClassId) (cs3 : List Int32) (ra4 : Addr) (kc5 : ClassId) (cs6 : List Int32) (G1 : Int32) (h0 : Heap) (n0 : Nat) (v : Option Value) (h : Heap) (L : List Loc) : Prop := (v = none ∧ Fr n0 L ∧ Keep h0 h [ra4] ∧ Arv Z h ra4 kc5 .byte (34 : Int32) (own_by (cs6 ++ cs3)) (.int 0))
theorem rm14_31 l Z a0 (hw : HW Z a0) ra0 ra1 kc2 (cs3 : List Int32) ra4 kc5 (cs6 : List Int32) (G1 : Int32) h0 n0 (OLD : Old Z n0 h0) (A' : Exa Z h0 ra0 cN1) (B' : Fld Z h0 ra0 cN1 "coder" "B" (.int 0)) (C' : Fld Z h0 ra0 cN1 "value" "[B" (.ref ra1)) (D' : cs3.length = 15) (E' : own_L cs3) (F' : Arv Z h0 ra1 kc2 .byte (15 : Int32) (own_by cs3) (.int 0)) (G' : cs6.length = 12) (H' : own_L cs6) (I' : Arv Z h0 ra4 kc5 .byte (34 : Int32) (own_by cs6) (.int 0)) (O2 : Sta Z Z.heap cN1 "COMPACT_STRINGS" "Z" (.int G1)) (P5 : ¬ (G1 = (0 : Int32))) (J' : n0 ≤ ra4) :
    own_CN l Z y7 jdk_42_method_147_code 4 none [] R14_31 #[.ref ra0, .ref ra4, .int 12, .int 0] h0 (Q14_31 Z ra0 ra1 kc2 cs3 ra4 kc5 cs6 G1 h0 n0) := by
  refine own_entryN (plainFor_of_name pn_0) fun p e s m below meth c s₁ hx hby hml hown hnm hret hlk hZ hh X0 e0 => ?_
  have N0 := Fr.nil n0
  rw [ef_14_21 m ra0 ra4]
  refine og s₁ (mkF m 1 #[vR ra0, vR ra4, vI 12, vI 0] [.ref ra0]) (fun _ k => qa X0 hx hby d14_0 rfl rfl rfl k) ?_
  obtain ⟨_, T1, L1, X1, hQ1, st1⟩ := own_vc X0 hx hZ hown (ow hw 65) (ow hw 66) (ow hw 68) (ow hw 67) A' (rm10_15 l Z a0 hw ra0 G1 ((0 : Int32)) h0 n0 OLD O2 P5 B') (ow hw 69) (ow hw 2) e0 (g := (mkF m 1 #[vR ra0, vR ra4, vI 12, vI 0] [.ref ra0])) rfl (zs hml) (argsL := []) (rest := []) (lenOf pd_4 rfl) rfl (hb hby d14_1) (W := 0) rfl
  obtain ⟨rfl, Nq1, eq1⟩ := hQ1
  have N1 := Fr.app N0 Nq1
  refine og T1 (mkF m 9 #[vR ra0, vR ra4, vI 12, vI 0] [.ref ra0]) (fun _ k => st1.trans (qi X1 hx hby d14_4 rfl rfl (qn X1 hx hby d14_5 rfl rfl (tq 0) (qa X1 hx hby d14_8 rfl rfl rfl k)))) ?_
  obtain ⟨T2, X2, e2, st2⟩ := qf X1 hx hZ hown (ow hw 20) eq1 C' (g := (mkF m 9 #[vR ra0, vR ra4, vI 12, vI 0] [.ref ra0])) rfl rfl hby d14_9
  refine og T2 (mkF m 16 #[vR ra0, vR ra4, vI 12, vI 0] [.int 0, .int 12, .ref ra4, .int 0, .ref ra1]) (fun _ k => st2 _ (qc X2 hx hby d14_12 rfl (qa X2 hx hby d14_13 rfl rfl rfl (qi X2 hx hby d14_14 rfl rfl (qi X2 hx hby d14_15 rfl rfl k))))) ?_
  refine og T2 (mkF m 17 #[vR ra0, vR ra4, vI 12, vI 0] [.int 12, .ref ra4, .int 0, .ref ra1]) (fun _ k => XS.ishl X2.here hx rfl (hb hby d14_16) rfl (by rw [show ((12 : Int32) <<< ((0 : Int32) &&& 31)) = (12 : Int32) from by decide]; exact k)) ?_
  refine og T2 (mkF m 18 #[vR ra0, vR ra4, vI 12, vI 0] [.ref ra0, .int 12, .ref ra4, .int 0, .ref ra1]) (fun _ k => qa X2 hx hby d14_17 rfl rfl rfl k) ?_
  obtain ⟨T3, X3, e3, st3⟩ := qf X2 hx hZ hown (ow hw 20) e2 C' (g := (mkF m 18 #[vR ra0, vR ra4, vI 12, vI 0] [.ref ra0, .int 12, .ref ra4, .int 0, .ref ra1])) rfl rfl hby d14_18
  refine og T3 (mkF m 21 #[vR ra0, vR ra4, vI 12, vI 0] [.ref ra1, .int 12, .ref ra4, .int 0, .ref ra1]) st3 ?_
  obtain ⟨cl4, Ar4, -, Sr4, Nr4, -, -⟩ := id F'
  refine og T3 (mkF m 22 #[vR ra0, vR ra4, vI 12, vI 0] [.int 15, .int 12, .ref ra4, .int 0, .ref ra1]) (fun t k => X3.arraylength hx (by rw [e3]; exact Ar4.1) (State.isArrayOf_alike hZ.alike Ar4.2.1) (g := (mkF m 21 #[vR ra0, vR ra4, vI 12, vI 0] [.ref ra1, .int 12, .ref ra4, .int 0, .ref ra1])) rfl rfl (hb hby d14_21) t (by rw [len_of Sr4 Nr4]; exact k)) ?_
  obtain ⟨T5, h5, L5, X5, e5, N5, K5, Vq5, st5⟩ := own_cpB X3 hx hZ hown (ow hw 94) (ow hw 97) (ow hw 95) (ow hw 96) e3 F' I' (sp := (0 : Int32)) (dp := (12 : Int32)) (nn := (15 : Int32)) rfl (by decide) (by decide) (by decide) (by decide) (show _ = _ from G') ((Eq.symm D') ▸ lb rfl) N1 J' (g := (mkF m 22 #[vR ra0, vR ra4, vI 12, vI 0] [.int 15, .int 12, .ref ra4, .int 0, .ref ra1])) rfl (zs hml) rfl (hb hby d14_22) (lb rfl) (W := 0) (lb rfl) (lb rfl)
  have V5 : Arv Z h5 ra4 kc5 .byte (34 : Int32) (own_by (cs6 ++ cs3)) (.int 0) := Vq5
  refine og T5 (mkF m 43 #[vR ra0, vR ra4, vI 12, vI 0] []) (fun _ k => st5 _ (XS.goto X5.here hx rfl (pc0 := 25) (pc' := 43) rfl (hb hby d14_25) (by decide) (by decide) k)) ?_
  have KEEP := ((Keep.refl h0 [ra4]).trans K5 (allS (Or.inl (List.mem_of_getElem? (i := 0) rfl)) all0))
  exact own_leaveN X5 hlk (v := none) (fun _ => rfl) (lb rfl) (lb rfl) (by rw [e5]; exact ⟨rfl, N5, KEEP, V5⟩) (fun fs hr => X5.returnOut hx hret (hb hby d14_43) hr)
abbrev R12_30 : Room := { frames := 2, cells := 0, slots := 0, locals := 33 }
def Q12_30 (Z : State) (ra0 ra1 : Addr) (kc2 : ClassId) (cs3 : List Int32) (ra4 ra5 : Addr) (kc6 : ClassId) (cs7 : List Int32) (G1 : Int32) (h0 : Heap) (n0 : Nat) (v : Option Value) (h : Heap) (L : List Loc) : Prop := (v = none ∧ Fr n0 L ∧ Keep h0 h [ra1] ∧ Arv Z h ra1 kc2 .byte (34 : Int32) (own_by (cs3 ++ cs7)) (.int 0))
theorem rm12_30 l Z a0 (hw : HW Z a0) ra0 ra1 kc2 (cs3 : List Int32) ra4 ra5 kc6 (cs7 : List Int32) (G1 : Int32) h0 n0 (OLD : Old Z n0 h0) (A' : Exa Z h0 ra0 cN3) (B' : Fld Z h0 ra0 cN0 "coder" "B" (.int 0)) (C' : Fld Z h0 ra0 cN0 "count" "I" (.int 12)) (D' : Fld Z h0 ra0 cN0 "value" "[B" (.ref ra1)) (E' : cs3.length = 12) (F' : own_L cs3) (G' : Arv Z h0 ra1 kc2 .byte (34 : Int32) (own_by cs3) (.int 0)) (H' : Exa Z h0 ra4 cN1) (I' : Fld Z h0 ra4 cN1 "coder" "B" (.int 0)) (J' : Fld Z h0 ra4 cN1 "value" "[B" (.ref ra5)) (K' : cs7.length = 15) (L' : own_L cs7) (M' : Arv Z h0 ra5 kc6 .byte (15 : Int32) (own_by cs7) (.int 0)) (O2 : Sta Z Z.heap cN1 "COMPACT_STRINGS" "Z" (.int G1)) (P5 : ¬ (G1 = (0 : Int32))) (N' : n0 ≤ ra1) :
    own_CN l Z y8 jdk_68_method_73_code 3 none [] R12_30 #[.ref ra0, .int 12, .ref ra4] h0 (Q12_30 Z ra0 ra1 kc2 cs3 ra4 ra5 kc6 cs7 G1 h0 n0) := by
  refine own_entryN (plainFor_of_name pn_1) fun p e s m below meth c s₁ hx hby hml hown hnm hret hlk hZ hh X0 e0 => ?_
  have N0 := Fr.nil n0
  rw [ef_12_20 m ra0 ra4]
  refine og s₁ (mkF m 2 #[vR ra0, vI 12, vR ra4] [.ref ra4, .ref ra0]) (fun _ k => qa X0 hx hby d12_0 rfl rfl rfl (qa X0 hx hby d12_1 rfl rfl rfl k)) ?_
  obtain ⟨_, T1, L1, X1, hQ1, st1⟩ := own_pc X0 hx hZ hown (ow hw 83) (ow hw 86) (ow hw 84) (ow hw 85) A' (rm13_14 l Z a0 hw ra0 ra4 G1 ((0 : Int32)) ((0 : Int32)) h0 n0 OLD O2 P5 B' I' H' (by decide : (0 : Int32) = (0 : Int32))) (ow hw 87) (ow hw 41) e0 (g := (mkF m 2 #[vR ra0, vI 12, vR ra4] [.ref ra4, .ref ra0])) rfl (zs hml) (argsL := [.ref ra4]) (rest := []) (lenOf pd_5 rfl) rfl (hb hby d12_2) (W := 0) rfl
  obtain ⟨rfl, Nq1, eq1⟩ := hQ1
  have N1 := Fr.app N0 Nq1
  refine og T1 (mkF m 7 #[vR ra0, vI 12, vR ra4] [.ref ra0, .ref ra4]) (fun _ k => st1.trans (qa X1 hx hby d12_5 rfl rfl rfl (qa X1 hx hby d12_6 rfl rfl rfl k))) ?_
  obtain ⟨T2, X2, e2, st2⟩ := qf X1 hx hZ hown (ow hw 45) eq1 D' (g := (mkF m 7 #[vR ra0, vI 12, vR ra4] [.ref ra0, .ref ra4])) rfl rfl hby d12_7
  refine og T2 (mkF m 12 #[vR ra0, vI 12, vR ra4] [.ref ra0, .int 12, .ref ra1, .ref ra4]) (fun _ k => st2 _ (qi X2 hx hby d12_10 rfl rfl (qa X2 hx hby d12_11 rfl rfl rfl k))) ?_
  obtain ⟨T3, X3, e3, st3⟩ := qf X2 hx hZ hown (ow hw 47) e2 B' (g := (mkF m 12 #[vR ra0, vI 12, vR ra4] [.ref ra0, .int 12, .ref ra1, .ref ra4])) rfl rfl hby d12_12
  refine og T3 (mkF m 15 #[vR ra0, vI 12, vR ra4] [.int 0, .int 12, .ref ra1, .ref ra4]) st3 ?_
  obtain ⟨_, T4, L4, X4, hQ4, st4⟩ := own_vc X3 hx hZ hown (ow hw 89) (ow hw 90) (ow hw 92) (ow hw 91) H' (rm14_31 l Z a0 hw ra4 ra5 kc6 cs7 ra1 kc2 cs3 G1 h0 n0 OLD H' I' J' K' L' M' E' F' G' O2 P5 N') (ow hw 93) (ow hw 2) e3 (g := (mkF m 15 #[vR ra0, vI 12, vR ra4] [.int 0, .int 12, .ref ra1, .ref ra4])) rfl (zs hml) (argsL := [.ref ra1, .int 12, .int 0]) (rest := []) (lenOf pd_6 rfl) rfl (hb hby d12_15) (W := 0) rfl
  obtain ⟨rfl, Nq4, K4, f5⟩ := hQ4
  have N4 := Fr.app N1 Nq4
  refine ot T4 (mkF m 18 #[vR ra0, vI 12, vR ra4] []) st4 ?_
  have KEEP := ((Keep.refl h0 [ra1]).trans K4 (allS (Or.inl (List.mem_of_getElem? (i := 0) rfl)) all0))
  exact own_leaveN X4 hlk (v := none) (fun _ => rfl) (lb rfl) (lb rfl) (by exact ⟨rfl, N4, KEEP, f5⟩) (fun fs hr => X4.returnOut hx hret (hb hby d12_18) hr)
abbrev R8_23 : Room := { frames := 4, cells := 1, slots := 34, locals := 62 }
def Q8_23 (Z : State) (ra0 ra1 : Addr) (kc2 : ClassId) (cs3 : List Int32) (ra4 ra5 : Addr) (kc6 : ClassId) (cs7 : List Int32) (G1 : Int32) (h0 : Heap) (n0 : Nat) (v : Option Value) (h : Heap) (L : List Loc) : Prop := (∃ (o4 : Addr) (kc5 : ClassId), v = some (.ref ra0) ∧ Fr n0 L ∧ Keep h0 h [ra0] ∧ h0.size ≤ o4 ∧ Fld Z h ra0 cN0 "coder" "B" (.int 0) ∧ Fld Z h ra0 cN0 "count" "I" (.int 27) ∧ Fld Z h ra0 cN0 "value" "[B" (.ref o4) ∧ Arv Z h o4 kc5 .byte (34 : Int32) (own_by (cs3 ++ cs7)) (.int 0))
theorem rm8_23 l Z a0 (hw : HW Z a0) ra0 ra1 kc2 (cs3 : List Int32) ra4 ra5 kc6 (cs7 : List Int32) (G1 : Int32) h0 n0 (OLD : Old Z n0 h0) (A' : Exa Z h0 ra0 cN3) (B' : Fld Z h0 ra0 cN0 "coder" "B" (.int 0)) (C' : Fld Z h0 ra0 cN0 "count" "I" (.int 12)) (D' : Fld Z h0 ra0 cN0 "value" "[B" (.ref ra1)) (E' : cs3.length = 12) (F' : own_L cs3) (G' : Arv Z h0 ra1 kc2 .byte (16 : Int32) (own_by cs3) (.int 0)) (H' : Exa Z h0 ra4 cN1) (I' : Fld Z h0 ra4 cN1 "coder" "B" (.int 0)) (J' : Fld Z h0 ra4 cN1 "value" "[B" (.ref ra5)) (K' : cs7.length = 15) (L' : own_L cs7) (M' : Arv Z h0 ra5 kc6 .byte (15 : Int32) (own_by cs7) (.int 0)) (O2 : Sta Z Z.heap cN1 "COMPACT_STRINGS" "Z" (.int G1)) (P5 : ¬ (G1 = (0 : Int32))) (N' : n0 ≤ ra0) (ne_ra4_ra0 : ra4 ≠ ra0) (ne_ra5_ra0 : ra5 ≠ ra0) :
    own_CN l Z y9 jdk_68_method_22_code 3 (some (.object cN0)) [] R8_23 #[.ref ra0, .ref ra4] h0 (Q8_23 Z ra0 ra1 kc2 cs3 ra4 ra5 kc6 cs7 G1 h0 n0) := by
  refine own_entryN (plainFor_of_name pn_1) fun p e s m below meth c s₁ hx hby hml hown hnm hret hlk hZ hh X0 e0 => ?_
  have N0 := Fr.nil n0
  rw [ef_8_11 m ra0 ra4]
  refine og s₁ (mkF m 10 #[vR ra0, vR ra4, vU] [.ref ra4]) (fun _ k => qa X0 hx hby d8_0 rfl rfl rfl (XS.ifnonnullYes X0.here hx rfl (pc0 := 1) (pc' := 9) rfl (hb hby d8_1) rfl (by decide) (by decide) (qa X0 hx hby d8_9 rfl rfl rfl k))) ?_
  obtain ⟨T1, X1, e1, st1⟩ := own_lenA X0 hx hZ hown (ow hw 60) hw H' J' I' M' K' L' e0 (O2.ext OLD.2) P5 (g := (mkF m 10 #[vR ra0, vR ra4, vU] [.ref ra4])) rfl (zs hml) (rest := []) rfl (hb hby d8_10) (W := 0) rfl
  refine og T1 (mkF m 16 #[vR ra0, vR ra4, vI 15] [.ref ra0, .ref ra0]) (fun _ k => st1 _ (XS.istoreN X1.here hx rfl (hb hby d8_13) rfl (l' := #[vR ra0, vR ra4, vI 15]) rfl (qa X1 hx hby d8_14 rfl rfl rfl (qa X1 hx hby d8_15 rfl rfl rfl k)))) ?_
  obtain ⟨T2, X2, e2, st2⟩ := qf X1 hx hZ hown (ow hw 71) e1 C' (g := (mkF m 16 #[vR ra0, vR ra4, vI 15] [.ref ra0, .ref ra0])) rfl rfl hby d8_16
  refine og T2 (mkF m 21 #[vR ra0, vR ra4, vI 15] [.int 27, .ref ra0]) (fun _ k => st2 _ (qi X2 hx hby d8_19 rfl rfl (qp X2 hx hby d8_20 rfl rfl k))) ?_
  obtain ⟨_, T3, L3, X3, hQ3, st3⟩ := own_pc X2 hx hZ hown (ow hw 73) (ow hw 76) (ow hw 74) (ow hw 75) A' (rm11_24 l Z a0 hw ra0 ra1 kc2 cs3 h0 n0 OLD A' B' C' D' E' F' G' N') (ow hw 77) (ow hw 41) e2 (g := (mkF m 21 #[vR ra0, vR ra4, vI 15] [.int 27, .ref ra0])) rfl (zs hml) (argsL := [.int 27]) (rest := []) (lenOf pd_2 rfl) rfl (hb hby d8_21) (W := 0) rfl
  obtain ⟨o4, kc5, rfl, Nq3, K3, f6, f7, f8, f9, f10⟩ := hQ3
  have N3 := Fr.app N0 Nq3
  have g11 : n0 ≤ o4 := Nat.le_trans (own_osz OLD) f6
  have z12 : h0.size ≤ o4 := Nat.le_trans (Nat.le_refl _) f6
  refine og T3 (mkF m 26 #[vR ra0, vR ra4, vI 15] [.ref ra0, .ref ra0]) (fun _ k => st3.trans (qa X3 hx hby d8_24 rfl rfl rfl (qa X3 hx hby d8_25 rfl rfl rfl k))) ?_
  obtain ⟨T13, X13, e13, st13⟩ := qf X3 hx hZ hown (ow hw 71) rfl f8 (g := (mkF m 26 #[vR ra0, vR ra4, vI 15] [.ref ra0, .ref ra0])) rfl rfl hby d8_26
  refine og T13 (mkF m 30 #[vR ra0, vR ra4, vI 15] [.ref ra4, .int 12, .ref ra0]) (fun _ k => st13 _ (qa X13 hx hby d8_29 rfl rfl rfl k)) ?_
  have F14 := (A'.keep K3)
  have F15 := (H'.keep K3)
  have F16 := (I'.keep K3 (ninS ne_ra4_ra0 nin0))
  have F17 := (J'.keep K3 (ninS ne_ra4_ra0 nin0))
  have F18 := (M'.keep K3 (ninS ne_ra5_ra0 nin0))
  have F19 := (OLD.keep K3 (allS N' all0))
  obtain ⟨_, T20, L20, X20, hQ20, st20⟩ := own_pc X13 hx hZ hown (ow hw 78) (ow hw 81) (ow hw 79) (ow hw 80) F14 (rm12_30 l Z a0 hw ra0 o4 kc5 cs3 ra4 ra5 kc6 cs7 G1 T3.heap n0 F19 F14 f7 f8 f9 E' F' f10 F15 F16 F17 K' L' F18 O2 P5 g11) (ow hw 82) (ow hw 41) e13 (g := (mkF m 30 #[vR ra0, vR ra4, vI 15] [.ref ra4, .int 12, .ref ra0])) rfl (zs hml) (argsL := [.int 12, .ref ra4]) (rest := []) (lenOf pd_7 rfl) rfl (hb hby d8_30) (W := 0) rfl
  obtain ⟨rfl, Nq20, K20, f21⟩ := hQ20
  have N20 := Fr.app N3 Nq20
  refine og T20 (mkF m 35 #[vR ra0, vR ra4, vI 15] [.ref ra0, .ref ra0]) (fun _ k => st20.trans (qa X20 hx hby d8_33 rfl rfl rfl (XS.dup X20.here hx rfl (hb hby d8_34) rfl rfl k))) ?_
  have F22 := (f8.keep K20 (ninS (own_ne_lo A'.lt f6) nin0))
  obtain ⟨T23, X23, e23, st23⟩ := qf X20 hx hZ hown (ow hw 71) rfl F22 (g := (mkF m 35 #[vR ra0, vR ra4, vI 15] [.ref ra0, .ref ra0])) rfl rfl hby d8_35
  refine og T23 (mkF m 40 #[vR ra0, vR ra4, vI 15] [.int 27, .ref ra0]) (fun _ k => st23 _ (qi X23 hx hby d8_38 rfl rfl (qp X23 hx hby d8_39 rfl rfl k))) ?_
  have F24 := (F14.keep K20)
  obtain ⟨T25, h25, X25, e25, W25, st25⟩ := putF X23 hx hZ hown (host := "") (Or.inl (ow hw 71)) Via.refl e23 F22 F24 (Or.inl (ow hw 72)) (ow hw 32) (ty := .int) (by decide) rfl rfl (g := (mkF m 40 #[vR ra0, vR ra4, vI 15] [.int 27, .ref ra0])) rfl rfl (hb hby d8_40)
  have Fw25 := F22.same W25
  have N25 := Fr.snoc X25 N20 N'
  refine og T25 (mkF m 44 #[vR ra0, vR ra4, vI 15] [.ref ra0]) (fun _ k => st25 _ (qa X25 hx hby d8_43 rfl rfl rfl k)) ?_
  have F26 := ((f7.keep K20 (ninS (own_ne_lo A'.lt f6) nin0)).other W25 (Or.inr (slot_ne (Or.inl (ow hw 48)) (Or.inl (ow hw 72)) (by decide) (t := .byte) (t' := .int) (by decide) (by decide))))
  have F27 := ((f9.keep K20 (ninS (own_ne_lo A'.lt f6) nin0)).other W25 (Or.inr (slot_ne (Or.inl (ow hw 46)) (Or.inl (ow hw 72)) (by decide) (t := (.array .byte)) (t' := .int) (by decide) (by decide))))
  have F28 := (f21.other W25 (Ne.symm (own_ne_lo A'.lt f6)))
  have KEEP := ((((Keep.refl h0 [ra0]).trans K3 (allS (Or.inl (List.mem_of_getElem? (i := 0) rfl)) all0)).trans K20 (allS (Or.inr z12) all0)).wr W25 (Or.inl (List.mem_of_getElem? (i := 0) rfl)))
  exact own_leaveN X25 hlk (v := some (.ref ra0)) (own_nr hret) (lb rfl) (lb rfl) (by rw [e25]; exact ⟨o4, kc5, rfl, N25, KEEP, z12, F26, Fw25, F27, F28⟩) (own_ra X25 hx hret rfl rfl rfl (hb hby d8_44))
abbrev R7_22 : Room := { frames := 5, cells := 1, slots := 34, locals := 76 }
def Q7_22 (Z : State) (ra0 ra1 : Addr) (kc2 : ClassId) (cs3 : List Int32) (ra4 ra5 : Addr) (kc6 : ClassId) (cs7 : List Int32) (G1 : Int32) (h0 : Heap) (n0 : Nat) (v : Option Value) (h : Heap) (L : List Loc) : Prop := (∃ (o3 : Addr) (kc4 : ClassId), v = some (.ref ra0) ∧ Fr n0 L ∧ Keep h0 h [ra0] ∧ h0.size ≤ o3 ∧ Fld Z h ra0 cN0 "coder" "B" (.int 0) ∧ Fld Z h ra0 cN0 "count" "I" (.int 27) ∧ Fld Z h ra0 cN0 "value" "[B" (.ref o3) ∧ Arv Z h o3 kc4 .byte (34 : Int32) (own_by (cs3 ++ cs7)) (.int 0))
theorem rm7_22 l Z a0 (hw : HW Z a0) ra0 ra1 kc2 (cs3 : List Int32) ra4 ra5 kc6 (cs7 : List Int32) (G1 : Int32) h0 n0 (OLD : Old Z n0 h0) (A' : Exa Z h0 ra0 cN3) (B' : Fld Z h0 ra0 cN0 "coder" "B" (.int 0)) (C' : Fld Z h0 ra0 cN0 "count" "I" (.int 12)) (D' : Fld Z h0 ra0 cN0 "value" "[B" (.ref ra1)) (E' : cs3.length = 12) (F' : own_L cs3) (G' : Arv Z h0 ra1 kc2 .byte (16 : Int32) (own_by cs3) (.int 0)) (H' : Exa Z h0 ra4 cN1) (I' : Fld Z h0 ra4 cN1 "coder" "B" (.int 0)) (J' : Fld Z h0 ra4 cN1 "value" "[B" (.ref ra5)) (K' : cs7.length = 15) (L' : own_L cs7) (M' : Arv Z h0 ra5 kc6 .byte (15 : Int32) (own_by cs7) (.int 0)) (O2 : Sta Z Z.heap cN1 "COMPACT_STRINGS" "Z" (.int G1)) (P5 : ¬ (G1 = (0 : Int32))) (N' : n0 ≤ ra0) (ne_ra4_ra0 : ra4 ≠ ra0) (ne_ra5_ra0 : ra5 ≠ ra0) :
    own_CN l Z y10 jdk_67_method_7_code 2 (some (.object cN3)) [] R7_22 #[.ref ra0, .ref ra4] h0 (Q7_22 Z ra0 ra1 kc2 cs3 ra4 ra5 kc6 cs7 G1 h0 n0) := by
  refine own_entryN (plainFor_of_name pn_2) fun p e s m below meth c s₁ hx hby hml hown hnm hret hlk hZ hh X0 e0 => ?_
  have N0 := Fr.nil n0
  rw [ef_1_5 m ra0 ra4]
  refine og s₁ (mkF m 2 #[vR ra0, vR ra4] [.ref ra4, .ref ra0]) (fun _ k => qa X0 hx hby d7_0 rfl rfl rfl (qa X0 hx hby d7_1 rfl rfl rfl k)) ?_
  obtain ⟨_, _, ⟨T2, L2, k2, n2⟩, -, X2, ⟨Lc2, hQ2, l2, y2, z2⟩, st2⟩ := superBack X0 hx hZ (y := y9) hown (ow hw 55) (own_same (z := y4) (ow hw 76) (ow hw 56) rfl (by decide)) (ow hw 56) (ow hw 57) (by decide) (backOf (W := 0) (rm8_23 l Z a0 hw ra0 ra1 kc2 cs3 ra4 ra5 kc6 cs7 G1 h0 n0 OLD A' B' C' D' E' F' G' H' I' J' K' L' M' O2 P5 N' ne_ra4_ra0 ne_ra5_ra0) hZ (ow hw 59) (ow hw 41) (lb rfl) (lb rfl)) e0 (Ins.self A') (g := (mkF m 2 #[vR ra0, vR ra4] [.ref ra4, .ref ra0])) rfl (zs hml) (ow hw 59) (argsL := [.ref ra4]) (rest := []) (lenOf pd_8 rfl) rfl (lb rfl) (hb hby d7_2) (fun _ _ => ⟨rfl, e0, (lb rfl), (lb rfl)⟩)
  dsimp only [Pt.U, Pt.locs, Pt.cells, Pt.slots] at X2 l2 y2 z2 st2 hQ2
  subst l2 y2 z2
  obtain ⟨o3, kc4, rfl, Nq2, K2, f5, f6, f7, f8, f9⟩ := hQ2
  have N2 := Fr.app N0 Nq2
  have g10 : n0 ≤ o3 := Nat.le_trans (own_osz OLD) f5
  have z11 : h0.size ≤ o3 := Nat.le_trans (Nat.le_refl _) f5
  refine og T2 (mkF m 7 #[vR ra0, vR ra4] [.ref ra0]) (fun _ k => st2.trans (XS.pop X2.here hx rfl (hb hby d7_5) rfl rfl (qa X2 hx hby d7_6 rfl rfl rfl k))) ?_
  have KEEP := ((Keep.refl h0 [ra0]).trans K2 (allS (Or.inl (List.mem_of_getElem? (i := 0) rfl)) all0))
  exact own_leaveN X2 hlk (v := some (.ref ra0)) (own_nr hret) (lb rfl) (lb rfl) (by exact ⟨o3, kc4, rfl, N2, KEEP, z11, f6, f7, f8, f9⟩) (own_ra X2 hx hret rfl rfl rfl (hb hby d7_7))
abbrev R23_35 : Room := { frames := 0, cells := 0, slots := 0, locals := 0 }
def Q23_35 (Z : State) (ra0 w1 : Addr) (h0 : Heap) (n0 : Nat) (v : Option Value) (h : Heap) (L : List Loc) : Prop := (v = some (.ref w1) ∧ Fr n0 L ∧ h = h0)
theorem rm23_35 l Z a0 (hw : HW Z a0) ra0 w1 h0 n0 (OLD : Old Z n0 h0) (A' : Fld Z h0 ra0 cN0 "value" "[B" (.ref w1)) :
    own_CN l Z y16 jdk_68_method_64_code 1 (some (.array .byte)) [] R23_35 #[.ref ra0] h0 (Q23_35 Z ra0 w1 h0 n0) := by
  refine own_entryN (plainFor_of_name pn_1) fun p e s m below meth c s₁ hx hby hml hown hnm hret hlk hZ hh X0 e0 => ?_
  have N0 := Fr.nil n0
  rw [ef_5_7 m ra0]
  refine og s₁ (mkF m 1 #[vR ra0] [.ref ra0]) (fun _ k => qa X0 hx hby d23_0 rfl rfl rfl k) ?_
  obtain ⟨T2, X2, e2, st2⟩ := qf X0 hx hZ hown (ow hw 45) e0 A' (g := (mkF m 1 #[vR ra0] [.ref ra0])) rfl rfl hby d23_1
  refine og T2 (mkF m 4 #[vR ra0] [.ref w1]) st2 ?_
  exact own_leaveN X2 hlk (v := some (.ref w1)) (own_nr hret) (lb rfl) (lb rfl) (by rw [e2]; exact ⟨rfl, N0, rfl⟩) (own_ra X2 hx hret rfl rfl rfl (hb hby d23_4))
abbrev R25_37 : Room := { frames := 0, cells := 0, slots := 0, locals := 0 }
def Q25_37 (Z : State) (ra0 : Addr) (w1 : Int32) (h0 : Heap) (n0 : Nat) (v : Option Value) (h : Heap) (L : List Loc) : Prop := (v = some (.int w1) ∧ Fr n0 L ∧ h = h0)
theorem rm25_37 l Z a0 (hw : HW Z a0) ra0 (w1 : Int32) h0 n0 (OLD : Old Z n0 h0) (A' : Fld Z h0 ra0 cN0 "count" "I" (.int w1)) :
    own_CN l Z y17 jdk_68_method_6_code 1 (some .int) [] R25_37 #[.ref ra0] h0 (Q25_37 Z ra0 w1 h0 n0) := by
  refine own_entryN (plainFor_of_name pn_1) fun p e s m below meth c s₁ hx hby hml hown hnm hret hlk hZ hh X0 e0 => ?_
  have N0 := Fr.nil n0
  rw [ef_5_7 m ra0]
  refine og s₁ (mkF m 1 #[vR ra0] [.ref ra0]) (fun _ k => qa X0 hx hby d25_0 rfl rfl rfl k) ?_
  obtain ⟨T2, X2, e2, st2⟩ := qf X0 hx hZ hown (ow hw 71) e0 A' (g := (mkF m 1 #[vR ra0] [.ref ra0])) rfl rfl hby d25_1
  refine og T2 (mkF m 4 #[vR ra0] [.int w1]) st2 ?_
  exact own_leaveN X2 hlk (v := some (.int w1)) (own_nr hret) (lb rfl) (lb rfl) (by rw [e2]; exact ⟨rfl, N0, rfl⟩) (fun fs hr => retI X2 hx hret (hb hby d25_4) hr)
abbrev R24_36 : Room := { frames := 1, cells := 0, slots := 0, locals := 12 }
def Q24_36 (Z : State) (ra0 : Addr) (w1 : Int32) (h0 : Heap) (n0 : Nat) (v : Option Value) (h : Heap) (L : List Loc) : Prop := (v = some (.int w1) ∧ Fr n0 L ∧ h = h0)
theorem rm24_36 l Z a0 (hw : HW Z a0) ra0 (w1 : Int32) h0 n0 (OLD : Old Z n0 h0) (A' : Fld Z h0 ra0 cN0 "count" "I" (.int w1)) (B' : Exa Z h0 ra0 cN3) :
    own_CN l Z y18 jdk_67_method_93_code 1 (some .int) [] R24_36 #[.ref ra0] h0 (Q24_36 Z ra0 w1 h0 n0) := by
  refine own_entryN (plainFor_of_name pn_2) fun p e s m below meth c s₁ hx hby hml hown hnm hret hlk hZ hh X0 e0 => ?_
  have N0 := Fr.nil n0
  rw [ef_5_7 m ra0]
  refine og s₁ (mkF m 1 #[vR ra0] [.ref ra0]) (fun _ k => qa X0 hx hby d24_0 rfl rfl rfl k) ?_
  obtain ⟨_, _, ⟨T3, L3, k3, n3⟩, -, X3, ⟨Lc3, hQ3, l3, y3, z3⟩, st3⟩ := superBack X0 hx hZ (y := y17) hown (ow hw 145) (own_same (z := y4) (ow hw 76) (ow hw 141) rfl (by decide)) (ow hw 141) (ow hw 57) (by decide) (backOf (W := 0) (rm25_37 l Z a0 hw ra0 w1 h0 n0 OLD A') hZ (ow hw 146) (ow hw 41) (lb rfl) (lb rfl)) e0 (Ins.self B') (g := (mkF m 1 #[vR ra0] [.ref ra0])) rfl (zs hml) (ow hw 146) (argsL := []) (rest := []) (lenOf pd_15 rfl) rfl (lb rfl) (hb hby d24_1) (fun _ _ => ⟨rfl, e0, (lb rfl), (lb rfl)⟩)
  dsimp only [Pt.U, Pt.locs, Pt.cells, Pt.slots] at X3 l3 y3 z3 st3 hQ3
  subst l3 y3 z3
  obtain ⟨rfl, Nq3, eq3⟩ := hQ3
  have N3 := Fr.app N0 Nq3
  refine ot T3 (mkF m 4 #[vR ra0] [.int w1]) st3 ?_
  exact own_leaveN X3 hlk (v := some (.int w1)) (own_nr hret) (lb rfl) (lb rfl) (by rw [eq3]; exact ⟨rfl, N3, rfl⟩) (fun fs hr => retI X3 hx hret (hb hby d24_4) hr)
abbrev R26_38 : Room := { frames := 0, cells := 0, slots := 0, locals := 0 }
def Q26_38 (Z : State) (ra0 : Addr) (G1 w2 : Int32) (h0 : Heap) (n0 : Nat) (v : Option Value) (h : Heap) (L : List Loc) : Prop := (w2 = (0 : Int32) ∧ v = some (.int 1) ∧ Fr n0 L ∧ h = h0) ∨ ((¬ (w2 = (0 : Int32))) ∧ v = some (.int 0) ∧ Fr n0 L ∧ h = h0)
theorem rm26_38 l Z a0 (hw : HW Z a0) ra0 (G1 : Int32) (w2 : Int32) h0 n0 (OLD : Old Z n0 h0) (O2 : Sta Z Z.heap cN1 "COMPACT_STRINGS" "Z" (.int G1)) (P5 : ¬ (G1 = (0 : Int32))) (A' : Fld Z h0 ra0 cN0 "coder" "B" (.int w2)) :
    own_CN l Z y19 jdk_68_method_68_code 1 (some .boolean) [] R26_38 #[.ref ra0] h0 (Q26_38 Z ra0 G1 w2 h0 n0) := by
  refine own_entryN (plainFor_of_name pn_1) fun p e s m below meth c s₁ hx hby hml hown hnm hret hlk hZ hh X0 e0 => ?_
  have N0 := Fr.nil n0
  rw [ef_5_7 m ra0]
  obtain ⟨T1, X1, e1, st1⟩ := getS2 X0 hx hZ hown (host := "") (Or.inl (ow hw 44)) Via.refl e0 (O2.ext OLD.2) (g := (mkF m 0 #[vR ra0] [])) rfl (hb hby d26_0)
  refine og T1 (mkF m 7 #[vR ra0] [.ref ra0]) (fun _ k => st1 _ (XS.ifNo X1.here hx rfl (hb hby d26_3) rfl ((if0 _ _).trans (feq P5).1) (qa X1 hx hby d26_6 rfl rfl rfl k))) ?_
  obtain ⟨T3, X3, e3, st3⟩ := qf X1 hx hZ hown (ow hw 47) e1 A' (g := (mkF m 7 #[vR ra0] [.ref ra0])) rfl rfl hby d26_7
  refine og T3 (mkF m 10 #[vR ra0] [.int w2]) st3 ?_
  by_cases hc4 : w2 = (0 : Int32)
  · refine og T3 (mkF m 18 #[vR ra0] [.int 1]) (fun _ k => XS.ifNo X3.here hx rfl (hb hby d26_10) rfl ((if0 _ _).trans (teq hc4).2) (qc X3 hx hby d26_13 rfl (XS.goto X3.here hx rfl (pc0 := 14) (pc' := 18) rfl (hb hby d26_14) (by decide) (by decide) k))) ?_
    exact own_leaveN X3 hlk (v := some (.int (nar .boolean (1 : Int32)))) (own_nr hret) (lb rfl) (lb rfl) (by rw [e3]; exact (Or.inl ⟨hc4, rfl, N0, rfl⟩)) (fun fs hr => retN X3 hx (t := .boolean) hret (by simp) (hb hby d26_18) hr)
  · refine og T3 (mkF m 18 #[vR ra0] [.int 0]) (fun _ k => XS.ifYes X3.here hx rfl (pc0 := 10) (pc' := 17) rfl (hb hby d26_10) rfl ((if0 _ _).trans (feq hc4).2) (by decide) (by decide) (qc X3 hx hby d26_17 rfl k)) ?_
    exact own_leaveN X3 hlk (v := some (.int (nar .boolean (0 : Int32)))) (own_nr hret) (lb rfl) (lb rfl) (by rw [e3]; exact (Or.inr ⟨hc4, rfl, N0, rfl⟩)) (fun fs hr => retN X3 hx (t := .boolean) hret (by simp) (hb hby d26_18) hr)
abbrev R29_41 : Room := { frames := 0, cells := 0, slots := 0, locals := 0 }
def Q29_41 (Z : State)  (h0 : Heap) (n0 : Nat) (v : Option Value) (h : Heap) (L : List Loc) : Prop := (v = none ∧ Fr n0 L ∧ h = h0)
theorem rm29_41 l Z a0 (hw : HW Z a0)  h0 n0 (OLD : Old Z n0 h0) :
    own_CN l Z y20 jdk_65_method_131_code 2 none [] R29_41 #[.int 0, .int 27] h0 (Q29_41 Z  h0 n0) := by
  refine own_entryN (plainFor_of_name pn_4) fun p e s m below meth c s₁ hx hby hml hown hnm hret hlk hZ hh X0 e0 => ?_
  have N0 := Fr.nil n0
  rw [ef_29_41 m ]
  refine og s₁ (mkF m 37 #[vI 0, vI 27] []) (fun _ k => qi X0 hx hby d29_0 rfl rfl (qi X0 hx hby d29_1 rfl rfl (XS.icmpYes X0.here hx rfl (pc0 := 2) (pc' := 37) rfl (hb hby d29_2) rfl (flt (by decide : ¬ ((27 : Int32) < (0 : Int32)))).2.1 (by decide) (by decide) k))) ?_
  exact own_leaveN X0 hlk (v := none) (fun _ => rfl) (lb rfl) (lb rfl) (by rw [e0]; exact ⟨rfl, N0, rfl⟩) (fun fs hr => X0.returnOut hx hret (hb hby d29_37) hr)
abbrev R19_42 : Room := { frames := 0, cells := 0, slots := 0, locals := 0 }
def Q19_42 (Z : State)  (h0 : Heap) (n0 : Nat) (v : Option Value) (h : Heap) (L : List Loc) : Prop := (v = some (.int 27) ∧ Fr n0 L ∧ h = h0)
theorem rm19_42 l Z a0 (hw : HW Z a0)  h0 n0 (OLD : Old Z n0 h0) :
    own_CN l Z y14 jdk_29_method_69_code 2 (some .int) [] R19_42 #[.int 34, .int 27] h0 (Q19_42 Z  h0 n0) := by
  refine own_entryN (Jvm.Free.JP.mathPlain rfl (by decide +kernel)) fun p e s m below meth c s₁ hx hby hml hown hnm hret hlk hZ hh X0 e0 => ?_
  have N0 := Fr.nil n0
  rw [ef_19_42 m ]
  refine og s₁ (mkF m 10 #[vI 34, vI 27] [.int 27]) (fun _ k => qi X0 hx hby d19_0 rfl rfl (qi X0 hx hby d19_1 rfl rfl (XS.icmpYes X0.here hx rfl (pc0 := 2) (pc' := 9) rfl (hb hby d19_2) rfl (tlt (by decide : (27 : Int32) < (34 : Int32))).2.2.1 (by decide) (by decide) (qi X0 hx hby d19_9 rfl rfl k)))) ?_
  exact own_leaveN X0 hlk (v := some (.int 27)) (own_nr hret) (lb rfl) (lb rfl) (by rw [e0]; exact ⟨rfl, N0, rfl⟩) (fun fs hr => retI X0 hx hret (hb hby d19_10) hr)
abbrev R28_40 : Room := { frames := 1, cells := 1, slots := 27, locals := 18 }
def Q28_40 (Z : State) (ra0 : Addr) (kc1 : ClassId) (cs2 : List Int32) (h0 : Heap) (n0 : Nat) (v : Option Value) (h : Heap) (L : List Loc) : Prop := (∃ (b2 : Addr) (k2 : ClassId), v = some (.ref b2) ∧ Fr n0 L ∧ Keep h0 h [] ∧ h0.size ≤ b2 ∧ Arv Z h b2 k2 .byte (27 : Int32) (own_by cs2) (.int 0))
theorem rm28_40 l Z a0 (hw : HW Z a0) ra0 kc1 (cs2 : List Int32) h0 n0 (OLD : Old Z n0 h0) (A' : cs2.length = 27) (B' : own_L cs2) (C' : Arv Z h0 ra0 kc1 .byte (34 : Int32) (own_by cs2) (.int 0)) :
    own_CN l Z y21 jdk_65_method_133_code 5 (some (.array .byte)) [] R28_40 #[.ref ra0, .int 0, .int 27] h0 (Q28_40 Z ra0 kc1 cs2 h0 n0) := by
  refine own_entryN (plainFor_of_name pn_4) fun p e s m below meth c s₁ hx hby hml hown hnm hret hlk hZ hh X0 e0 => ?_
  have N0 := Fr.nil n0
  rw [ef_28_40 m ra0]
  refine og s₁ (mkF m 2 #[vR ra0, vI 0, vI 27, vU, vU] [.int 27, .int 0]) (fun _ k => qi X0 hx hby d28_0 rfl rfl (qi X0 hx hby d28_1 rfl rfl k)) ?_
  obtain ⟨_, T1, L1, X1, hQ1, st1⟩ := own_tc X0 hx hZ hown (ow hw 158) (ow hw 159) (rm29_41 l Z a0 hw  h0 n0 OLD ) (ow hw 160) (ow hw 116) e0 (g := (mkF m 2 #[vR ra0, vI 0, vI 27, vU, vU] [.int 27, .int 0])) rfl (zs hml) (argsL := [.int 0, .int 27]) (rest := []) (lenOf pd_17 rfl) rfl (hb hby d28_2) (W := 0) rfl
  obtain ⟨rfl, Nq1, eq1⟩ := hQ1
  have N1 := Fr.app N0 Nq1
  refine og T1 (mkF m 10 #[vR ra0, vI 0, vI 27, vI 27, vU] [.int 27]) (fun _ k => st1.trans (qi X1 hx hby d28_5 rfl rfl (qi X1 hx hby d28_6 rfl rfl (XS.isub X1.here hx rfl (hb hby d28_7) rfl (XS.istoreN X1.here hx rfl (hb hby d28_8) rfl (l' := #[vR ra0, vI 0, vI 27, vI 27, vU]) rfl (qi X1 hx hby d28_9 rfl rfl k)))))) ?_
  obtain ⟨T2, h2, k2, X2, e2, E2, A2, st2⟩ := newP X1 hx hZ (ow hw 15) eq1 (g := (mkF m 10 #[vR ra0, vI 0, vI 27, vI 27, vU] [.int 27])) rfl (hb hby d28_10) rfl (by decide) (cap := 27) (by decide) (lb rfl) (lb rfl) (lb rfl)
  obtain ⟨b2, gb2⟩ : ∃ z, z = h0.size := ⟨_, rfl⟩
  rw [← gb2] at A2 st2
  have g3 : n0 ≤ b2 := Nat.le_trans (own_osz OLD) (Nat.le_of_eq gb2.symm)
  have z4 : h0.size ≤ b2 := Nat.le_trans (Nat.le_refl _) (Nat.le_of_eq gb2.symm)
  have V2 : Arv Z h2 b2 k2 .byte (27 : Int32) (own_by ([] : List Int32)) (.int 0) := Arv.new A2 (by decide)
  refine og T2 (mkF m 20 #[vR ra0, vI 0, vI 27, vI 27, vR b2] [.ref ra0, .int 0, .ref b2, .int 0, .ref ra0]) (fun _ k => st2 _ (XS.astore X2.here hx rfl (hb hby d28_12) rfl rfl (l' := #[vR ra0, vI 0, vI 27, vI 27, vR b2]) rfl (qa X2 hx hby d28_14 rfl rfl rfl (qi X2 hx hby d28_15 rfl rfl (XS.aload X2.here hx rfl (hb hby d28_16) rfl rfl (qc X2 hx hby d28_18 rfl (qa X2 hx hby d28_19 rfl rfl rfl k))))))) ?_
  have F5 := (C'.ext E2)
  obtain ⟨cl6, Ar6, -, Sr6, Nr6, -, -⟩ := id F5
  refine og T2 (mkF m 21 #[vR ra0, vI 0, vI 27, vI 27, vR b2] [.int 34, .int 0, .ref b2, .int 0, .ref ra0]) (fun t k => X2.arraylength hx (by rw [e2]; exact Ar6.1) (State.isArrayOf_alike hZ.alike Ar6.2.1) (g := (mkF m 20 #[vR ra0, vI 0, vI 27, vI 27, vR b2] [.ref ra0, .int 0, .ref b2, .int 0, .ref ra0])) rfl rfl (hb hby d28_20) t (by rw [len_of Sr6 Nr6]; exact k)) ?_
  refine og T2 (mkF m 24 #[vR ra0, vI 0, vI 27, vI 27, vR b2] [.int 27, .int 34, .int 0, .ref b2, .int 0, .ref ra0]) (fun _ k => qi X2 hx hby d28_21 rfl rfl (XS.isub X2.here hx rfl (hb hby d28_22) rfl (qi X2 hx hby d28_23 rfl rfl k))) ?_
  have F7 := (OLD.ext E2)
  obtain ⟨_, T8, L8, X8, hQ8, st8⟩ := own_tc X2 hx hZ hown (ow hw 118) (ow hw 119) (rm19_42 l Z a0 hw  h2 n0 F7 ) (ow hw 120) (ow hw 110) e2 (g := (mkF m 24 #[vR ra0, vI 0, vI 27, vI 27, vR b2] [.int 27, .int 34, .int 0, .ref b2, .int 0, .ref ra0])) rfl (zs hml) (argsL := [.int 34, .int 27]) (rest := [.int 0, .ref b2, .int 0, .ref ra0]) (lenOf pd_10 rfl) rfl (hb hby d28_24) (W := 4) rfl
  obtain ⟨rfl, Nq8, eq8⟩ := hQ8
  have N8 := Fr.app N1 Nq8
  refine ot T8 (mkF m 27 #[vR ra0, vI 0, vI 27, vI 27, vR b2] [.int 27, .int 0, .ref b2, .int 0, .ref ra0]) st8 ?_
  obtain ⟨T9, h9, L9, X9, e9, N9, K9, Vq9, st9⟩ := own_cpB X8 hx hZ hown (ow hw 121) (ow hw 97) (ow hw 95) (ow hw 96) eq8 F5 V2 (sp := (0 : Int32)) (dp := (0 : Int32)) (nn := (27 : Int32)) rfl (by decide) (by decide) (by decide) (by decide) (show _ = _ from rfl) ((Eq.symm A') ▸ lb rfl) N8 g3 (g := (mkF m 27 #[vR ra0, vI 0, vI 27, vI 27, vR b2] [.int 27, .int 0, .ref b2, .int 0, .ref ra0])) rfl (zs hml) rfl (hb hby d28_27) (lb rfl) (W := 0) (lb rfl) (lb rfl)
  have V9 : Arv Z h9 b2 k2 .byte (27 : Int32) (own_by cs2) (.int 0) := (by simpa using Vq9)
  refine og T9 (mkF m 32 #[vR ra0, vI 0, vI 27, vI 27, vR b2] [.ref b2]) (fun _ k => st9 _ (XS.aload X9.here hx rfl (hb hby d28_30) rfl rfl k)) ?_
  have KEEP := (((Keep.refl h0 []).ext E2).trans K9 (allS (Or.inr z4) all0))
  exact own_leaveN X9 hlk (v := some (.ref b2)) (own_nr hret) (lb rfl) (lb rfl) (by rw [e9]; exact ⟨b2, k2, rfl, N9, KEEP, z4, V9⟩) (own_ra X9 hx hret rfl rfl rfl (hb hby d28_32))
abbrev R27_39 : Room := { frames := 2, cells := 1, slots := 27, locals := 34 }
def Q27_39 (Z : State) (ra0 : Addr) (kc1 : ClassId) (cs2 : List Int32) (h0 : Heap) (n0 : Nat) (v : Option Value) (h : Heap) (L : List Loc) : Prop := (∃ (o3 : Addr) (kc4 : ClassId), v = some (.ref o3) ∧ Fr n0 L ∧ Keep h0 h [] ∧ h0.size ≤ o3 ∧ Arv Z h o3 kc4 .byte (27 : Int32) (own_by cs2) (.int 0))
theorem rm27_39 l Z a0 (hw : HW Z a0) ra0 kc1 (cs2 : List Int32) h0 n0 (OLD : Old Z n0 h0) (A' : cs2.length = 27) (B' : own_L cs2) (C' : Arv Z h0 ra0 kc1 .byte (34 : Int32) (own_by cs2) (.int 0)) :
    own_CN l Z y22 jdk_65_method_132_code 3 (some (.array .byte)) [] R27_39 #[.ref ra0, .int 0, .int 27] h0 (Q27_39 Z ra0 kc1 cs2 h0 n0) := by
  refine own_entryN (plainFor_of_name pn_4) fun p e s m below meth c s₁ hx hby hml hown hnm hret hlk hZ hh X0 e0 => ?_
  have N0 := Fr.nil n0
  rw [ef_27_39 m ra0]
  refine og s₁ (mkF m 6 #[vR ra0, vI 0, vI 27] [.ref ra0, .int 27]) (fun _ k => qi X0 hx hby d27_0 rfl rfl (XS.ifNo X0.here hx rfl (hb hby d27_1) rfl ((if0 _ _).trans (tq 0)) (qi X0 hx hby d27_4 rfl rfl (qa X0 hx hby d27_5 rfl rfl rfl k)))) ?_
  obtain ⟨cl1, Ar1, -, Sr1, Nr1, -, -⟩ := id C'
  refine og s₁ (mkF m 7 #[vR ra0, vI 0, vI 27] [.int 34, .int 27]) (fun t k => X0.arraylength hx (by rw [e0]; exact Ar1.1) (State.isArrayOf_alike hZ.alike Ar1.2.1) (g := (mkF m 6 #[vR ra0, vI 0, vI 27] [.ref ra0, .int 27])) rfl rfl (hb hby d27_6) t (by rw [len_of Sr1 Nr1]; exact k)) ?_
  refine og s₁ (mkF m 13 #[vR ra0, vI 0, vI 27] [.int 27, .int 0, .ref ra0]) (fun _ k => qn X0 hx hby d27_7 rfl rfl (feq (by decide : ¬ ((27 : Int32) = (34 : Int32)))).1 (qa X0 hx hby d27_10 rfl rfl rfl (qi X0 hx hby d27_11 rfl rfl (qi X0 hx hby d27_12 rfl rfl k)))) ?_
  obtain ⟨_, T2, L2, X2, hQ2, st2⟩ := own_tc X0 hx hZ hown (ow hw 155) (ow hw 156) (rm28_40 l Z a0 hw ra0 kc1 cs2 h0 n0 OLD A' B' C') (ow hw 157) (ow hw 116) e0 (g := (mkF m 13 #[vR ra0, vI 0, vI 27] [.int 27, .int 0, .ref ra0])) rfl (zs hml) (argsL := [.ref ra0, .int 0, .int 27]) (rest := []) (lenOf pd_18 rfl) rfl (hb hby d27_13) (W := 0) rfl
  obtain ⟨o3, kc4, rfl, Nq2, K2, f5, f6⟩ := hQ2
  have N2 := Fr.app N0 Nq2
  have g7 : n0 ≤ o3 := Nat.le_trans (own_osz OLD) f5
  have z8 : h0.size ≤ o3 := Nat.le_trans (Nat.le_refl _) f5
  refine ot T2 (mkF m 16 #[vR ra0, vI 0, vI 27] [.ref o3]) st2 ?_
  have KEEP := ((Keep.refl h0 []).trans K2 all0)
  exact own_leaveN X2 hlk (v := some (.ref o3)) (own_nr hret) (lb rfl) (lb rfl) (by exact ⟨o3, kc4, rfl, N2, KEEP, z8, f6⟩) (own_ra X2 hx hret rfl rfl rfl (hb hby d27_16))
abbrev R22_34 : Room := { frames := 3, cells := 1, slots := 27, locals := 49 }
def Q22_34 (Z : State) (ra0 ra1 ra2 : Addr) (kc3 : ClassId) (cs4 : List Int32) (G1 : Int32) (h0 : Heap) (n0 : Nat) (v : Option Value) (h : Heap) (L : List Loc) : Prop := (∃ (o11 : Addr) (kc12 : ClassId), (0 : Int32) = (0 : Int32) ∧ v = none ∧ Fr n0 L ∧ Keep h0 h [ra0] ∧ h0.size ≤ o11 ∧ Fld Z h ra0 cN1 "coder" "B" (.int 0) ∧ Fld Z h ra0 cN1 "value" "[B" (.ref o11) ∧ Arv Z h o11 kc12 .byte (27 : Int32) (own_by cs4) (.int 0))
theorem rm22_34 l Z a0 (hw : HW Z a0) ra0 ra1 ra2 kc3 (cs4 : List Int32) (G1 : Int32) h0 n0 (OLD : Old Z n0 h0) (A' : Exa Z h0 ra0 cN1) (B' : Fld Z h0 ra0 cN1 "coder" "B" (.int 0)) (C' : Fld Z h0 ra0 cN1 "value" "[B" .null) (D' : Exa Z h0 ra1 cN3) (E' : Fld Z h0 ra1 cN0 "coder" "B" (.int 0)) (F' : Fld Z h0 ra1 cN0 "count" "I" (.int 27)) (G' : Fld Z h0 ra1 cN0 "value" "[B" (.ref ra2)) (H' : cs4.length = 27) (I' : own_L cs4) (J' : Arv Z h0 ra2 kc3 .byte (34 : Int32) (own_by cs4) (.int 0)) (O2 : Sta Z Z.heap cN1 "COMPACT_STRINGS" "Z" (.int G1)) (P5 : ¬ (G1 = (0 : Int32))) (K' : n0 ≤ ra0) (ne_ra2_ra0 : ra2 ≠ ra0) :
    own_CN l Z y23 jdk_42_method_150_code 5 none [] R22_34 #[.ref ra0, .ref ra1, .null] h0 (Q22_34 Z ra0 ra1 ra2 kc3 cs4 G1 h0 n0) := by
  refine own_entryN (plainFor_of_name pn_0) fun p e s m below meth c s₁ hx hby hml hown hnm hret hlk hZ hh X0 e0 => ?_
  have N0 := Fr.nil n0
  rw [ef_22_34 m ra0 ra1]
  refine og s₁ (mkF m 1 #[vR ra0, vR ra1, vN, vU, vU] [.ref ra0]) (fun _ k => qa X0 hx hby d22_0 rfl rfl rfl k) ?_
  obtain ⟨T1, X1, e1, st1⟩ := initO X0 hx hZ hown (ow hw 11) (ow hw 12) (ow hw 13) e0 (g := (mkF m 1 #[vR ra0, vR ra1, vN, vU, vU] [.ref ra0])) rfl (zs hml) rfl (hb hby d22_1) (by decide) (W := 0) (lb rfl) (by decide)
  refine og T1 (mkF m 5 #[vR ra0, vR ra1, vN, vU, vU] [.ref ra1]) (fun _ k => st1 _ (qa X1 hx hby d22_4 rfl rfl rfl k)) ?_
  obtain ⟨_, T2, L2, X2, hQ2, st2⟩ := own_vc X1 hx hZ hown (ow hw 134) (ow hw 135) (ow hw 137) (ow hw 136) D' (rm23_35 l Z a0 hw ra1 ra2 h0 n0 OLD G') (ow hw 138) (ow hw 41) e1 (g := (mkF m 5 #[vR ra0, vR ra1, vN, vU, vU] [.ref ra1])) rfl (zs hml) (argsL := []) (rest := []) (lenOf pd_14 rfl) rfl (hb hby d22_5) (W := 0) rfl
  obtain ⟨rfl, Nq2, eq2⟩ := hQ2
  have N2 := Fr.app N0 Nq2
  refine og T2 (mkF m 10 #[vR ra0, vR ra1, vN, vR ra2, vU] [.ref ra1]) (fun _ k => st2.trans (XS.astoreN X2.here hx rfl (hb hby d22_8) rfl rfl (l' := #[vR ra0, vR ra1, vN, vR ra2, vU]) rfl (qa X2 hx hby d22_9 rfl rfl rfl k))) ?_
  obtain ⟨cq4, kq4, q4a, q4b, q4c⟩ := isOf hZ eq2 D'
  obtain ⟨_, _, ⟨T4, L4, k4, n4⟩, -, X4, ⟨Lc4, hQ4, l4, y4, z4⟩, st4⟩ := X2.virtualBack hx (y := y17) (z := y18) hown (mvT hZ (ow hw 139)) (mvT hZ (ow hw 140)) (own_nf (args := #[]) (z := y4) (mvT hZ (ow hw 76)) rfl) (mvT hZ (ow hw 142)) (mvT hZ (ow hw 143)) (by decide) (backOf (W := 0) (rm24_36 l Z a0 hw ra1 ((27 : Int32)) h0 n0 OLD F' D') hZ (ow hw 144) (ow hw 33) (lb rfl) (lb rfl)) q4a q4c (g := (mkF m 10 #[vR ra0, vR ra1, vN, vR ra2, vU] [.ref ra1])) rfl (zs hml) (Steps.refl _) (argsL := []) (rest := []) (lenOf pd_15 rfl) rfl (lb rfl) (hb hby d22_10) (fun _ _ => ⟨rfl, eq2, (lb rfl), (lb rfl)⟩)
  dsimp only [Pt.U, Pt.locs, Pt.cells, Pt.slots] at X4 l4 y4 z4 st4 hQ4
  subst l4 y4 z4
  obtain ⟨rfl, Nq4, eq4⟩ := hQ4
  have N4 := Fr.app N2 Nq4
  refine og T4 (mkF m 16 #[vR ra0, vR ra1, vN, vR ra2, vI 27] [.ref ra1]) (fun _ k => st4.trans (XS.istore X4.here hx rfl (hb hby d22_13) rfl (l' := #[vR ra0, vR ra1, vN, vR ra2, vI 27]) rfl (qa X4 hx hby d22_15 rfl rfl rfl k))) ?_
  obtain ⟨_, T5, L5, X5, hQ5, st5⟩ := own_vc X4 hx hZ hown (ow hw 147) (ow hw 148) (ow hw 150) (ow hw 149) D' (rm26_38 l Z a0 hw ra1 G1 ((0 : Int32)) h0 n0 OLD O2 P5 E') (ow hw 151) (ow hw 41) eq4 (g := (mkF m 16 #[vR ra0, vR ra1, vN, vR ra2, vI 27] [.ref ra1])) rfl (zs hml) (argsL := []) (rest := []) (lenOf pd_16 rfl) rfl (hb hby d22_16) (W := 0) rfl
  rcases hQ5 with hQ5 | hQ5
  · obtain ⟨hc6, rfl, Nq5, eq5⟩ := hQ5
    have N5 := Fr.app N4 Nq5
    refine og T5 (mkF m 24 #[vR ra0, vR ra1, vN, vR ra2, vI 27] [.int 0, .ref ra0]) (fun _ k => st5.trans (XS.ifNo X5.here hx rfl (hb hby d22_19) rfl ((if0 _ _).trans (feq (by decide : ¬ ((1 : Int32) = (0 : Int32)))).1) (qa X5 hx hby d22_22 rfl rfl rfl (qc X5 hx hby d22_23 rfl k)))) ?_
    obtain ⟨T7, h7, X7, e7, W7, st7⟩ := putFN X5 hx hZ hown (ow hw 21) Via.refl eq5 B' A' (Or.inr ⟨(ow hw 17), rfl, hnm⟩) (ow hw 1) (ty := .byte) (v' := (.int (nar .byte (0 : Int32)))) (by decide) rfl (fits_nar_byte _) (g := (mkF m 24 #[vR ra0, vR ra1, vN, vR ra2, vI 27] [.int 0, .ref ra0])) rfl rfl (hb hby d22_24)
    rw [show nar .byte (0 : Int32) = (0 : Int32) from rfl] at W7
    have Fw7 := B'.same W7
    have N7 := Fr.snoc X7 N5 K'
    refine og T7 (mkF m 32 #[vR ra0, vR ra1, vN, vR ra2, vI 27] [.int 27, .int 0, .ref ra2, .ref ra0]) (fun _ k => st7 _ (qa X7 hx hby d22_27 rfl rfl rfl (qa X7 hx hby d22_28 rfl rfl rfl (qc X7 hx hby d22_29 rfl (XS.iload X7.here hx rfl (hb hby d22_30) rfl k))))) ?_
    have F8 := (J'.other W7 ne_ra2_ra0)
    have F9 := (OLD.wr W7 K')
    obtain ⟨_, T10, L10, X10, hQ10, st10⟩ := own_tc X7 hx hZ hown (ow hw 152) (ow hw 153) (rm27_39 l Z a0 hw ra2 kc3 cs4 h7 n0 F9 H' I' F8) (ow hw 154) (ow hw 116) e7 (g := (mkF m 32 #[vR ra0, vR ra1, vN, vR ra2, vI 27] [.int 27, .int 0, .ref ra2, .ref ra0])) rfl (zs hml) (argsL := [.ref ra2, .int 0, .int 27]) (rest := [.ref ra0]) (lenOf pd_18 rfl) rfl (hb hby d22_32) (W := 1) rfl
    obtain ⟨o11, kc12, rfl, Nq10, K10, f13, f14⟩ := hQ10
    have N10 := Fr.app N7 Nq10
    have g15 : n0 ≤ o11 := Nat.le_trans (own_osz F9) f13
    have F17 := (Nat.le_trans (Nat.le_refl _) (Nat.le_of_eq W7.size.symm))
    have z16 : h0.size ≤ o11 := Nat.le_trans F17 f13
    refine ot T10 (mkF m 35 #[vR ra0, vR ra1, vN, vR ra2, vI 27] [.ref o11, .ref ra0]) st10 ?_
    have F18 := ((A'.wr W7).keep K10)
    have F19 := ((C'.other W7 (Or.inr (slot_ne (Or.inr (ow hw 16)) (Or.inr (ow hw 17)) (by decide) (t := (.array .byte)) (t' := .byte) (by decide) (by decide)))).keep K10 nin0)
    obtain ⟨T20, h20, X20, e20, W20, st20⟩ := putF X10 hx hZ hown (host := "") (Or.inl (ow hw 20)) Via.refl rfl F19 F18 (Or.inr ⟨(ow hw 16), rfl, hnm⟩) (ow hw 1) (ty := (.array .byte)) (by decide) rfl rfl (g := (mkF m 35 #[vR ra0, vR ra1, vN, vR ra2, vI 27] [.ref o11, .ref ra0])) rfl rfl (hb hby d22_35)
    have Fw20 := F19.same W20
    have N20 := Fr.snoc X20 N10 K'
    refine og T20 (mkF m 97 #[vR ra0, vR ra1, vN, vR ra2, vI 27] []) (fun _ k => st20 _ (XS.goto X20.here hx rfl (pc0 := 38) (pc' := 97) rfl (hb hby d22_38) (by decide) (by decide) k)) ?_
    have F21 := ((Fw7.keep K10 nin0).other W20 (Or.inr (slot_ne (Or.inr (ow hw 17)) (Or.inr (ow hw 16)) (by decide) (t := .byte) (t' := (.array .byte)) (by decide) (by decide))))
    have F22 := (f14.other W20 (Ne.symm (own_ne_lo (Nat.lt_of_lt_of_le A'.lt (Nat.le_of_eq W7.size.symm)) f13)))
    have KEEP := ((((Keep.refl h0 [ra0]).wr W7 (Or.inl (List.mem_of_getElem? (i := 0) rfl))).trans K10 all0).wr W20 (Or.inl (List.mem_of_getElem? (i := 0) rfl)))
    exact own_leaveN X20 hlk (v := none) (fun _ => rfl) (lb rfl) (lb rfl) (by rw [e20]; exact ⟨o11, kc12, hc6, rfl, N20, KEEP, z16, F21, Fw20, F22⟩) (fun fs hr => X20.returnOut hx hret (hb hby d22_97) hr)
  · exfalso
    obtain ⟨hd0, -⟩ := hQ5
    exact absurd hd0 (fun q => q (by decide : (0 : Int32) = (0 : Int32)))
abbrev R21_33 : Room := { frames := 4, cells := 1, slots := 27, locals := 65 }
def Q21_33 (Z : State) (ra0 ra1 ra2 : Addr) (kc3 : ClassId) (cs4 : List Int32) (G1 : Int32) (h0 : Heap) (n0 : Nat) (v : Option Value) (h : Heap) (L : List Loc) : Prop := (∃ (o2 : Addr) (kc3 : ClassId), (0 : Int32) = (0 : Int32) ∧ v = none ∧ Fr n0 L ∧ Keep h0 h [ra0] ∧ h0.size ≤ o2 ∧ Fld Z h ra0 cN1 "coder" "B" (.int 0) ∧ Fld Z h ra0 cN1 "value" "[B" (.ref o2) ∧ Arv Z h o2 kc3 .byte (27 : Int32) (own_by cs4) (.int 0))
theorem rm21_33 l Z a0 (hw : HW Z a0) ra0 ra1 ra2 kc3 (cs4 : List Int32) (G1 : Int32) h0 n0 (OLD : Old Z n0 h0) (A' : Exa Z h0 ra0 cN1) (B' : Fld Z h0 ra0 cN1 "coder" "B" (.int 0)) (C' : Fld Z h0 ra0 cN1 "value" "[B" .null) (D' : Exa Z h0 ra1 cN3) (E' : Fld Z h0 ra1 cN0 "coder" "B" (.int 0)) (F' : Fld Z h0 ra1 cN0 "count" "I" (.int 27)) (G' : Fld Z h0 ra1 cN0 "value" "[B" (.ref ra2)) (H' : cs4.length = 27) (I' : own_L cs4) (J' : Arv Z h0 ra2 kc3 .byte (34 : Int32) (own_by cs4) (.int 0)) (O2 : Sta Z Z.heap cN1 "COMPACT_STRINGS" "Z" (.int G1)) (P5 : ¬ (G1 = (0 : Int32))) (K' : n0 ≤ ra0) (ne_ra2_ra0 : ra2 ≠ ra0) :
    own_CN l Z y24 jdk_42_method_53_code 2 none [] R21_33 #[.ref ra0, .ref ra1] h0 (Q21_33 Z ra0 ra1 ra2 kc3 cs4 G1 h0 n0) := by
  refine own_entryN (plainFor_of_name pn_0) fun p e s m below meth c s₁ hx hby hml hown hnm hret hlk hZ hh X0 e0 => ?_
  have N0 := Fr.nil n0
  rw [ef_1_5 m ra0 ra1]
  refine og s₁ (mkF m 3 #[vR ra0, vR ra1] [.null, .ref ra1, .ref ra0]) (fun _ k => qa X0 hx hby d21_0 rfl rfl rfl (qa X0 hx hby d21_1 rfl rfl rfl (XS.aconstNull X0.here hx rfl (hb hby d21_2) k))) ?_
  obtain ⟨_, T1, L1, X1, hQ1, st1⟩ := own_sc X0 hx hZ rfl hown (ow hw 131) (ow hw 132) (rm22_34 l Z a0 hw ra0 ra1 ra2 kc3 cs4 G1 h0 n0 OLD A' B' C' D' E' F' G' H' I' J' O2 P5 K' ne_ra2_ra0) (ow hw 133) (ow hw 2) e0 (g := (mkF m 3 #[vR ra0, vR ra1] [.null, .ref ra1, .ref ra0])) rfl (zs hml) (argsL := [.ref ra1, .null]) (rest := []) (lenOf pd_19 rfl) rfl (hb hby d21_3) (W := 0) rfl
  obtain ⟨o2, kc3, hc4, rfl, Nq1, K1, f5, f6, f7, f8⟩ := hQ1
  have N1 := Fr.app N0 Nq1
  have g9 : n0 ≤ o2 := Nat.le_trans (own_osz OLD) f5
  have z10 : h0.size ≤ o2 := Nat.le_trans (Nat.le_refl _) f5
  refine ot T1 (mkF m 6 #[vR ra0, vR ra1] []) st1 ?_
  have KEEP := ((Keep.refl h0 [ra0]).trans K1 (allS (Or.inl (List.mem_of_getElem? (i := 0) rfl)) all0))
  exact own_leaveN X1 hlk (v := none) (fun _ => rfl) (lb rfl) (lb rfl) (by exact ⟨o2, kc3, hc4, rfl, N1, KEEP, z10, f6, f7, f8⟩) (fun fs hr => X1.returnOut hx hret (hb hby d21_6) hr)
abbrev R20_32 : Room := { frames := 5, cells := 2, slots := 31, locals := 79 }
def Q20_32 (Z : State) (ra0 ra1 : Addr) (kc2 : ClassId) (cs3 : List Int32) (G1 : Int32) (h0 : Heap) (n0 : Nat) (v : Option Value) (h : Heap) (L : List Loc) : Prop := (∃ (b1 o11 : Addr) (kc12 : ClassId), (0 : Int32) = (0 : Int32) ∧ v = some (.ref b1) ∧ Fr n0 L ∧ Keep h0 h [] ∧ h0.size ≤ b1 ∧ h0.size ≤ o11 ∧ Exa Z h b1 cN1 ∧ Fld Z h b1 cN1 "coder" "B" (.int 0) ∧ Fld Z h b1 cN1 "value" "[B" (.ref o11) ∧ Arv Z h o11 kc12 .byte (27 : Int32) (own_by cs3) (.int 0))
theorem rm20_32 l Z a0 (hw : HW Z a0) ra0 ra1 kc2 (cs3 : List Int32) (G1 : Int32) h0 n0 (OLD : Old Z n0 h0) (A' : Exa Z h0 ra0 cN3) (B' : Fld Z h0 ra0 cN0 "coder" "B" (.int 0)) (C' : Fld Z h0 ra0 cN0 "count" "I" (.int 27)) (D' : Fld Z h0 ra0 cN0 "value" "[B" (.ref ra1)) (E' : cs3.length = 27) (F' : own_L cs3) (G' : Arv Z h0 ra1 kc2 .byte (34 : Int32) (own_by cs3) (.int 0)) (O2 : Sta Z Z.heap cN1 "COMPACT_STRINGS" "Z" (.int G1)) (P5 : ¬ (G1 = (0 : Int32))) :
    own_CN l Z y25 jdk_67_method_42_code 1 (some (.object cN1)) [] R20_32 #[.ref ra0] h0 (Q20_32 Z ra0 ra1 kc2 cs3 G1 h0 n0) := by
  refine own_entryN (plainFor_of_name pn_2) fun p e s m below meth c s₁ hx hby hml hown hnm hret hlk hZ hh X0 e0 => ?_
  have N0 := Fr.nil n0
  rw [ef_5_7 m ra0]
  obtain ⟨T1, h1, X1, e1, E1, A1, D1, U1, st1⟩ := newO X0 hx hZ hown (ow hw 127) (ow hw 1) (ow hw 2) e0 (g := (mkF m 0 #[vR ra0] [])) rfl (hb hby d20_0) (lb rfl) (lb rfl)
  obtain ⟨b1, gb1⟩ : ∃ z, z = h0.size := ⟨_, rfl⟩
  rw [← gb1] at A1 D1 U1 st1
  have g2 : n0 ≤ b1 := Nat.le_trans (own_osz OLD) (Nat.le_of_eq gb1.symm)
  have z3 : h0.size ≤ b1 := Nat.le_trans (Nat.le_refl _) (Nat.le_of_eq gb1.symm)
  refine og T1 (mkF m 5 #[vR ra0] [.ref ra0, .ref b1, .ref b1]) (fun _ k => st1 _ (XS.dup X1.here hx rfl (hb hby d20_3) rfl rfl (qa X1 hx hby d20_4 rfl rfl rfl k))) ?_
  have F4 := (A'.ext E1)
  have F5 := (B'.ext E1)
  have F6 := (C'.ext E1)
  have F7 := (D'.ext E1)
  have F8 := (G'.ext E1)
  have F9 := (OLD.ext E1)
  obtain ⟨_, T10, L10, X10, hQ10, st10⟩ := own_sc X1 hx hZ rfl hown (ow hw 128) (ow hw 129) (rm21_33 l Z a0 hw b1 ra0 ra1 kc2 cs3 G1 h1 n0 F9 A1 (D1 (Or.inr (ow hw 17)) (ty := .byte) (by decide)) (D1 (Or.inr (ow hw 16)) (ty := (.array .byte)) (by decide)) F4 F5 F6 F7 E' F' F8 O2 P5 g2 (own_ne_lo G'.lt (Nat.le_of_eq gb1.symm))) (ow hw 130) (ow hw 2) e1 (g := (mkF m 5 #[vR ra0] [.ref ra0, .ref b1, .ref b1])) rfl (zs hml) (argsL := [.ref ra0]) (rest := [.ref b1]) (lenOf pd_20 rfl) rfl (hb hby d20_5) (W := 1) rfl
  obtain ⟨o11, kc12, hc13, rfl, Nq10, K10, f14, f15, f16, f17⟩ := hQ10
  have N10 := Fr.app N0 Nq10
  have g18 : n0 ≤ o11 := Nat.le_trans (own_osz F9) f14
  have F20 := (Nat.le_trans (Nat.le_refl _) E1.1)
  have z19 : h0.size ≤ o11 := Nat.le_trans F20 f14
  refine ot T10 (mkF m 8 #[vR ra0] [.ref b1]) st10 ?_
  have F21 := (A1.keep K10)
  have KEEP := (((Keep.refl h0 []).ext E1).trans K10 (allS (Or.inr z3) all0))
  exact own_leaveN X10 hlk (v := some (.ref b1)) (own_nr hret) (lb rfl) (lb rfl) (by exact ⟨b1, o11, kc12, hc13, rfl, N10, KEEP, z3, z19, F21, f15, f16, f17⟩) (own_ra X10 hx hret rfl rfl rfl (hb hby d20_8))
abbrev R32_46 : Room := { frames := 3, cells := 1, slots := 2752, locals := 42 }
def Q32_46 (Z : State) (ra0 ra1 : Addr) (us up : Value) (h0 : Heap) (n0 : Nat) (v : Option Value) (h : Heap) (L : List Loc) : Prop := (v = none ∧ Fr n0 L ∧ Keep h0 h [ra0] ∧ Unt h ra0 ∧ Fld Z h ra0 cN5 "cause" "Ljava/lang/Throwable;" (.ref ra0) ∧ Fld Z h ra0 cN5 "detailMessage" "Ljava/lang/String;" (.ref ra1) ∧ Fld Z h ra0 cN2 "reason" "Lcom/example/webhooks_to_ledger/webhookstoledger/HoldReason;" .null ∧ Fld Z h ra0 cN5 "suppressedExceptions" "Ljava/util/List;" up)
theorem rm32_46 l Z a0 (hw : HW Z a0) ra0 ra1 (us : Value) (up : Value) h0 n0 (OLD : Old Z n0 h0) (U_ra0 : Unt h0 ra0) (A' : Exa Z h0 ra0 cN2) (B' : Fld Z h0 ra0 cN5 "backtrace" "Ljava/lang/Object;" .null) (C' : Fld Z h0 ra0 cN5 "cause" "Ljava/lang/Throwable;" .null) (D' : Fld Z h0 ra0 cN5 "depth" "I" (.int 0)) (E' : Fld Z h0 ra0 cN5 "detailMessage" "Ljava/lang/String;" .null) (F' : Fld Z h0 ra0 cN2 "reason" "Lcom/example/webhooks_to_ledger/webhookstoledger/HoldReason;" .null) (G' : Fld Z h0 ra0 cN5 "stackTrace" "[Ljava/lang/StackTraceElement;" .null) (H' : Fld Z h0 ra0 cN5 "suppressedExceptions" "Ljava/util/List;" .null) (I' : n0 ≤ ra0) (Sus : Sta Z Z.heap cN5 "UNASSIGNED_STACK" "[Ljava/lang/StackTraceElement;" us) (rf_us : us.isRef = true) (Sup : Sta Z Z.heap cN5 "SUPPRESSED_SENTINEL" "Ljava/util/List;" up) (rf_up : up.isRef = true) (hl : l.stackTraces = true) (rus : us.isRef = true) :
    own_CW l Z true y26 jdk_78_method_2_code 2 none [] R32_46 #[.ref ra0, .ref ra1] h0 [] (Q32_46 Z ra0 ra1 us up h0 n0) := by
  refine own_entryW (plainFor_of_name pn_5) fun p e s m below meth c s₁ hx hby hml hown hnm hret hlk hZ hh hCH hSf hKn X0 e0 => ?_
  have N0 := Fr.nil n0
  have hS0 : s.Since s.vm h0.size := own_since s _
  have hk0 : h0.size ≤ h0.size := Nat.le_refl _
  have CH0 : CHr Z own_EL s.vm h0 s.vm h0 := CHr.refl hCH
  rw [ef_1_5 m ra0 ra1]
  refine og s₁ (mkF m 1 #[vR ra0, vR ra1] [.ref ra0]) (fun _ k => qa X0 hx hby d32_0 rfl rfl rfl k) ?_
  obtain ⟨T1, X1, e1, st1⟩ := initO X0 hx hZ hown (ow hw 175) (ow hw 12) (ow hw 13) e0 (g := (mkF m 1 #[vR ra0, vR ra1] [.ref ra0])) rfl (zs hml) rfl (hb hby d32_1) (by decide) (W := 0) (lb rfl) (by decide)
  refine og T1 (mkF m 6 #[vR ra0, vR ra1] [.ref ra0, .ref ra0]) (fun _ k => st1 _ (qa X1 hx hby d32_4 rfl rfl rfl (qa X1 hx hby d32_5 rfl rfl rfl k))) ?_
  obtain ⟨T2, h2, X2, e2, W2, st2⟩ := putF X1 hx hZ hown (host := "") (Or.inl (ow hw 176)) Via.refl e1 C' A' (Or.inl (ow hw 177)) (ow hw 27) (ty := (.object cN5)) (by decide) rfl rfl (g := (mkF m 6 #[vR ra0, vR ra1] [.ref ra0, .ref ra0])) rfl rfl (hb hby d32_6)
  have Fw2 := C'.same W2
  have ch3 := CHr.wr W2 (Safe.exa hZ.alike A' (by decide) (by decide)) CH0.1
  have CH4 := CHr.trans CH0 ch3
  have N2 := Fr.snoc X2 N0 I'
  refine og T2 (mkF m 10 #[vR ra0, vR ra1] [.ref ra0]) (fun _ k => st2 _ (qa X2 hx hby d32_9 rfl rfl rfl k)) ?_
  have F5 := (OLD.wr W2 I')
  obtain ⟨T6, X6, e6, st6⟩ := getS2 X2 hx hZ hown (host := "") (Or.inl (ow hw 178)) Via.refl e2 (Sus.ext F5.2) (g := (mkF m 10 #[vR ra0, vR ra1] [.ref ra0])) rfl (hb hby d32_10)
  refine og T6 (mkF m 13 #[vR ra0, vR ra1] [us, .ref ra0]) st6 ?_
  have F7 := (A'.wr W2)
  have F8 := (G'.other W2 (Or.inr (slot_ne (Or.inl (ow hw 180)) (Or.inl (ow hw 177)) (by decide) (t := (.array (.object cN6))) (t' := (.object cN5)) (by decide) (by decide))))
  obtain ⟨T9, h9, X9, e9, W9, st9⟩ := putF X6 hx hZ hown (host := "") (Or.inl (ow hw 179)) Via.refl e6 F8 F7 (Or.inl (ow hw 180)) (ow hw 27) (ty := (.array (.object cN6))) (by decide) (own_nxa rf_us) (own_fxa rf_us) (g := (mkF m 13 #[vR ra0, vR ra1] [us, .ref ra0])) rfl rfl (hb hby d32_13)
  have Fw9 := F8.same W9
  have ch10 := CHr.wr W9 (Safe.exa hZ.alike F7 (by decide) (by decide)) CH4.1
  have CH11 := CHr.trans CH4 ch10
  have N9 := Fr.snoc X9 N2 I'
  refine og T9 (mkF m 17 #[vR ra0, vR ra1] [.ref ra0]) (fun _ k => st9 _ (qa X9 hx hby d32_16 rfl rfl rfl k)) ?_
  have F12 := (F5.wr W9 I')
  obtain ⟨T13, X13, e13, st13⟩ := getS2 X9 hx hZ hown (host := "") (Or.inl (ow hw 181)) Via.refl e9 (Sup.ext F12.2) (g := (mkF m 17 #[vR ra0, vR ra1] [.ref ra0])) rfl (hb hby d32_17)
  refine og T13 (mkF m 20 #[vR ra0, vR ra1] [up, .ref ra0]) st13 ?_
  have F14 := (F7.wr W9)
  have F15 := ((H'.other W2 (Or.inr (slot_ne (Or.inl (ow hw 183)) (Or.inl (ow hw 177)) (by decide) (t := (.object "java/util/List")) (t' := (.object cN5)) (by decide) (by decide)))).other W9 (Or.inr (slot_ne (Or.inl (ow hw 183)) (Or.inl (ow hw 180)) (by decide) (t := (.object "java/util/List")) (t' := (.array (.object cN6))) (by decide) (by decide))))
  obtain ⟨T16, h16, X16, e16, W16, st16⟩ := putF X13 hx hZ hown (host := "") (Or.inl (ow hw 182)) Via.refl e13 F15 F14 (Or.inl (ow hw 183)) (ow hw 27) (ty := (.object "java/util/List")) (by decide) (own_nx rf_up) (own_fx rf_up) (g := (mkF m 20 #[vR ra0, vR ra1] [up, .ref ra0])) rfl rfl (hb hby d32_20)
  have Fw16 := F15.same W16
  have ch17 := CHr.wr W16 (Safe.exa hZ.alike F14 (by decide) (by decide)) CH11.1
  have CH18 := CHr.trans CH11 ch17
  have N16 := Fr.snoc X16 N9 I'
  refine og T16 (mkF m 24 #[vR ra0, vR ra1] [.ref ra0]) (fun _ k => st16 _ (qa X16 hx hby d32_23 rfl rfl rfl k)) ?_
  have F19 := (F14.wr W16)
  have F20 := (((U_ra0.wr W2).wr W9).wr W16)
  have F21 := (((B'.other W2 (Or.inr (slot_ne (Or.inl (ow hw 208)) (Or.inl (ow hw 177)) (by decide) (t := (.object "java/lang/Object")) (t' := (.object cN5)) (by decide) (by decide)))).other W9 (Or.inr (slot_ne (Or.inl (ow hw 208)) (Or.inl (ow hw 180)) (by decide) (t := (.object "java/lang/Object")) (t' := (.array (.object cN6))) (by decide) (by decide)))).other W16 (Or.inr (slot_ne (Or.inl (ow hw 208)) (Or.inl (ow hw 183)) (by decide) (t := (.object "java/lang/Object")) (t' := (.object "java/util/List")) (by decide) (by decide))))
  have F22 := (Fw9.other W16 (Or.inr (slot_ne (Or.inl (ow hw 180)) (Or.inl (ow hw 183)) (by decide) (t := (.array (.object cN6))) (t' := (.object "java/util/List")) (by decide) (by decide))))
  have F23 := ((Fw2.other W9 (Or.inr (slot_ne (Or.inl (ow hw 177)) (Or.inl (ow hw 180)) (by decide) (t := (.object cN5)) (t' := (.array (.object cN6))) (by decide) (by decide)))).other W16 (Or.inr (slot_ne (Or.inl (ow hw 177)) (Or.inl (ow hw 183)) (by decide) (t := (.object cN5)) (t' := (.object "java/util/List")) (by decide) (by decide))))
  have F24 := (((E'.other W2 (Or.inr (slot_ne (Or.inl (ow hw 207)) (Or.inl (ow hw 177)) (by decide) (t := (.object cN1)) (t' := (.object cN5)) (by decide) (by decide)))).other W9 (Or.inr (slot_ne (Or.inl (ow hw 207)) (Or.inl (ow hw 180)) (by decide) (t := (.object cN1)) (t' := (.array (.object cN6))) (by decide) (by decide)))).other W16 (Or.inr (slot_ne (Or.inl (ow hw 207)) (Or.inl (ow hw 183)) (by decide) (t := (.object cN1)) (t' := (.object "java/util/List")) (by decide) (by decide))))
  have F25 := (((F'.other W2 (Or.inr (slot_ne (Or.inr (ow hw 220)) (Or.inl (ow hw 177)) (by decide) (t := (.object cN4)) (t' := (.object cN5)) (by decide) (by decide)))).other W9 (Or.inr (slot_ne (Or.inr (ow hw 220)) (Or.inl (ow hw 180)) (by decide) (t := (.object cN4)) (t' := (.array (.object cN6))) (by decide) (by decide)))).other W16 (Or.inr (slot_ne (Or.inr (ow hw 220)) (Or.inl (ow hw 183)) (by decide) (t := (.object cN4)) (t' := (.object "java/util/List")) (by decide) (by decide))))
  have F26 := (F12.wr W16 I')
  obtain ⟨T27, h27, L27, X27, e27, bL27, K27, Un27, kf27, st27⟩ := own_fill (W := 0) X16 hx hl hZ hown (own_xt hw) (ow hw 27) (by show ThS Z s.heap; rw [hh]; exact ThS.ext OLD.2 ThS.start) (Vm.MethodsKnown.alikeC hS0.1.alike (hKn rfl).1) (Vm.FramesKnown.alikeC hS0.1.alike (hKn rfl).2) e16 (by intro y hy; simp only [List.mem_append, List.mem_cons, List.not_mem_nil, or_false, false_or] at hy; (repeat' (rcases hy with hy | hy)) <;> first | rfl | (subst hy; rfl)) F19 F20 F21 rus F22 (Sus.ext F26.2) (g := (mkF m 24 #[vR ra0, vR ra1] [.ref ra0])) rfl (zs hml) rfl (hb hby d32_24) (lb rfl) (lb rfl) (lb rfl) (lb rfl) (lb rfl)
  have N27 := Fr.app N16 (fun y hy => by rw [bL27 y hy]; exact I')
  have ch28 := CHr.keep K27 (allS (Safe.exa hZ.alike F19 (by decide) (by decide)) all0) CH18.1
  have CH29 := CHr.trans CH18 ch28
  refine og T27 (mkF m 30 #[vR ra0, vR ra1] [.ref ra1, .ref ra0]) (fun _ k => st27 _ (XS.pop X27.here hx rfl (hb hby d32_27) rfl rfl (qa X27 hx hby d32_28 rfl rfl rfl (qa X27 hx hby d32_29 rfl rfl rfl k)))) ?_
  have F30 := (F19.keep K27)
  obtain ⟨T31, h31, X31, e31, W31, st31⟩ := putF X27 hx hZ hown (host := "") (Or.inl (ow hw 211)) Via.refl e27 (kf27 (slot_ne (Or.inl (ow hw 207)) (Or.inl (ow hw 208)) (by decide) (t := (.object cN1)) (t' := (.object "java/lang/Object")) (by decide) (by decide)) (slot_ne (Or.inl (ow hw 207)) (Or.inl (ow hw 209)) (by decide) (t := (.object cN1)) (t' := .int) (by decide) (by decide)) (slot_ne (Or.inl (ow hw 207)) (Or.inl (ow hw 180)) (by decide) (t := (.object cN1)) (t' := (.array (.object cN6))) (by decide) (by decide)) F24) F30 (Or.inl (ow hw 207)) (ow hw 27) (ty := (.object cN1)) (by decide) rfl rfl (g := (mkF m 30 #[vR ra0, vR ra1] [.ref ra1, .ref ra0])) rfl rfl (hb hby d32_30)
  have Fw31 := (kf27 (slot_ne (Or.inl (ow hw 207)) (Or.inl (ow hw 208)) (by decide) (t := (.object cN1)) (t' := (.object "java/lang/Object")) (by decide) (by decide)) (slot_ne (Or.inl (ow hw 207)) (Or.inl (ow hw 209)) (by decide) (t := (.object cN1)) (t' := .int) (by decide) (by decide)) (slot_ne (Or.inl (ow hw 207)) (Or.inl (ow hw 180)) (by decide) (t := (.object cN1)) (t' := (.array (.object cN6))) (by decide) (by decide)) F24).same W31
  have ch32 := CHr.wr W31 (Safe.exa hZ.alike F30 (by decide) (by decide)) CH29.1
  have CH33 := CHr.trans CH29 ch32
  have N31 := Fr.snoc X31 N27 I'
  refine og T31 (mkF m 33 #[vR ra0, vR ra1] []) st31 ?_
  have F34 := (Un27.wr W31)
  have F35 := ((kf27 (slot_ne (Or.inl (ow hw 177)) (Or.inl (ow hw 208)) (by decide) (t := (.object cN5)) (t' := (.object "java/lang/Object")) (by decide) (by decide)) (slot_ne (Or.inl (ow hw 177)) (Or.inl (ow hw 209)) (by decide) (t := (.object cN5)) (t' := .int) (by decide) (by decide)) (slot_ne (Or.inl (ow hw 177)) (Or.inl (ow hw 180)) (by decide) (t := (.object cN5)) (t' := (.array (.object cN6))) (by decide) (by decide)) F23).other W31 (Or.inr (slot_ne (Or.inl (ow hw 177)) (Or.inl (ow hw 207)) (by decide) (t := (.object cN5)) (t' := (.object cN1)) (by decide) (by decide))))
  have F36 := ((kf27 (slot_ne (Or.inr (ow hw 220)) (Or.inl (ow hw 208)) (by decide) (t := (.object cN4)) (t' := (.object "java/lang/Object")) (by decide) (by decide)) (slot_ne (Or.inr (ow hw 220)) (Or.inl (ow hw 209)) (by decide) (t := (.object cN4)) (t' := .int) (by decide) (by decide)) (slot_ne (Or.inr (ow hw 220)) (Or.inl (ow hw 180)) (by decide) (t := (.object cN4)) (t' := (.array (.object cN6))) (by decide) (by decide)) F25).other W31 (Or.inr (slot_ne (Or.inr (ow hw 220)) (Or.inl (ow hw 207)) (by decide) (t := (.object cN4)) (t' := (.object cN1)) (by decide) (by decide))))
  have F37 := ((kf27 (slot_ne (Or.inl (ow hw 183)) (Or.inl (ow hw 208)) (by decide) (t := (.object "java/util/List")) (t' := (.object "java/lang/Object")) (by decide) (by decide)) (slot_ne (Or.inl (ow hw 183)) (Or.inl (ow hw 209)) (by decide) (t := (.object "java/util/List")) (t' := .int) (by decide) (by decide)) (slot_ne (Or.inl (ow hw 183)) (Or.inl (ow hw 180)) (by decide) (t := (.object "java/util/List")) (t' := (.array (.object cN6))) (by decide) (by decide)) Fw16).other W31 (Or.inr (slot_ne (Or.inl (ow hw 183)) (Or.inl (ow hw 207)) (by decide) (t := (.object "java/util/List")) (t' := (.object cN1)) (by decide) (by decide))))
  have K40 := (((((Keep.refl h0 [ra0]).wr W2 (Or.inl (List.mem_of_getElem? (i := 0) rfl))).wr W9 (Or.inl (List.mem_of_getElem? (i := 0) rfl))).wr W16 (Or.inl (List.mem_of_getElem? (i := 0) rfl))).trans K27 (allS (Or.inl (List.mem_of_getElem? (i := 0) rfl)) all0))
  have KEEP := (K40.wr W31 (Or.inl (List.mem_of_getElem? (i := 0) rfl)))
  have F38 := (Nat.le_trans (Nat.le_trans (Nat.le_trans (Nat.le_trans hk0 (Nat.le_of_eq W2.size.symm)) (Nat.le_of_eq W9.size.symm)) (Nat.le_of_eq W16.size.symm)) K27.1)
  have F39 := (Nat.le_trans F38 (Nat.le_of_eq W31.size.symm))
  exact own_leaveW (s := s) (vm0 := s.vm) X31 hS0 F39 hZ (own_EW hw) e31 CH33 hh hlk (v := none) (fun _ => rfl) (lb rfl) (lb rfl) (by rw [e31]; exact ⟨rfl, N31, KEEP, F34, F35, Fw31, F36, F37⟩) (fun fs hr => X31.returnOut hx hret (hb hby d32_33) hr)
abbrev R31_47 : Room := { frames := 4, cells := 1, slots := 2752, locals := 55 }
def Q31_47 (Z : State) (ra0 ra1 : Addr) (us up : Value) (h0 : Heap) (n0 : Nat) (v : Option Value) (h : Heap) (L : List Loc) : Prop := (v = none ∧ Fr n0 L ∧ Keep h0 h [ra0] ∧ Unt h ra0 ∧ Fld Z h ra0 cN5 "cause" "Ljava/lang/Throwable;" (.ref ra0) ∧ Fld Z h ra0 cN5 "detailMessage" "Ljava/lang/String;" (.ref ra1) ∧ Fld Z h ra0 cN2 "reason" "Lcom/example/webhooks_to_ledger/webhookstoledger/HoldReason;" .null ∧ Fld Z h ra0 cN5 "suppressedExceptions" "Ljava/util/List;" up)
theorem rm31_47 l Z a0 (hw : HW Z a0) ra0 ra1 (us : Value) (up : Value) h0 n0 (OLD : Old Z n0 h0) (U_ra0 : Unt h0 ra0) (A' : Exa Z h0 ra0 cN2) (B' : Fld Z h0 ra0 cN5 "backtrace" "Ljava/lang/Object;" .null) (C' : Fld Z h0 ra0 cN5 "cause" "Ljava/lang/Throwable;" .null) (D' : Fld Z h0 ra0 cN5 "depth" "I" (.int 0)) (E' : Fld Z h0 ra0 cN5 "detailMessage" "Ljava/lang/String;" .null) (F' : Fld Z h0 ra0 cN2 "reason" "Lcom/example/webhooks_to_ledger/webhookstoledger/HoldReason;" .null) (G' : Fld Z h0 ra0 cN5 "stackTrace" "[Ljava/lang/StackTraceElement;" .null) (H' : Fld Z h0 ra0 cN5 "suppressedExceptions" "Ljava/util/List;" .null) (I' : n0 ≤ ra0) (Sus : Sta Z Z.heap cN5 "UNASSIGNED_STACK" "[Ljava/lang/StackTraceElement;" us) (rf_us : us.isRef = true) (Sup : Sta Z Z.heap cN5 "SUPPRESSED_SENTINEL" "Ljava/util/List;" up) (rf_up : up.isRef = true) (hl : l.stackTraces = true) (rus : us.isRef = true) :
    own_CW l Z true y27 jdk_59_method_2_code 2 none [] R31_47 #[.ref ra0, .ref ra1] h0 [] (Q31_47 Z ra0 ra1 us up h0 n0) := by
  refine own_entryW (plainFor_of_name pn_6) fun p e s m below meth c s₁ hx hby hml hown hnm hret hlk hZ hh hCH hSf hKn X0 e0 => ?_
  have N0 := Fr.nil n0
  have hS0 : s.Since s.vm h0.size := own_since s _
  have hk0 : h0.size ≤ h0.size := Nat.le_refl _
  have CH0 : CHr Z own_EL s.vm h0 s.vm h0 := CHr.refl hCH
  rw [ef_1_5 m ra0 ra1]
  refine og s₁ (mkF m 2 #[vR ra0, vR ra1] [.ref ra1, .ref ra0]) (fun _ k => qa X0 hx hby d31_0 rfl rfl rfl (qa X0 hx hby d31_1 rfl rfl rfl k)) ?_
  obtain ⟨_, _, ⟨T1, L1, k1, n1⟩, -, X1, hs1, hg1, ⟨Lc1, hQ1, l1, y1, z1, ch1⟩, st1⟩ := X0.specialBackS hx (y := y26) rfl hown (mvT hZ (ow hw 169)) (mvT hZ (ow hw 170)) (mvT hZ (ow hw 174)) (by decide) (own_backSH (W := 0) (rm32_46 l Z a0 hw ra0 ra1 us up h0 n0 OLD U_ra0 A' B' C' D' E' F' G' H' I' Sus rf_us Sup rf_up hl rus) hZ (ow hw 174) (ow hw 173) (lb rfl) (lb rfl) (own_EW hw) CH0.1 all0 (fun _ => ⟨Vm.MethodsKnown.alikeC hS0.1.alike (hKn rfl).1, Vm.FramesKnown.alikeC hS0.1.alike (hKn rfl).2⟩)) (g := (mkF m 2 #[vR ra0, vR ra1] [.ref ra1, .ref ra0])) rfl (zs hml) (Steps.refl _) (a := ra0) (argsL := [.ref ra1]) (rest := []) (lenOf pd_5 rfl) rfl (lb rfl) (hb hby d31_2) (fun _ _ => ⟨rfl, e0, (lb rfl), (lb rfl)⟩)
  dsimp only [Pt.U, Pt.locs, Pt.cells, Pt.slots] at X1 l1 y1 z1 st1 hQ1 hs1 hg1 ch1
  subst l1 y1 z1
  replace X1 := own_reb X1
  obtain ⟨hZ1, hS1, hown1⟩ := own_after hZ hS0 e0 hk0 hs1 hg1 hown
  obtain ⟨rfl, Nq1, K1, f2, f3, f4, f5, f6⟩ := hQ1
  have N1 := Fr.app N0 Nq1
  have CH7 := CHr.trans CH0 ch1
  refine ot T1 (mkF m 5 #[vR ra0, vR ra1] []) st1 ?_
  have KEEP := ((Keep.refl h0 [ra0]).trans K1 (allS (Or.inl (List.mem_of_getElem? (i := 0) rfl)) all0))
  exact own_leaveW (s := s) (vm0 := T1.vm) X1 hS1 (Nat.le_refl _) hZ1 (own_EW hw) rfl CH7 hh hlk (v := none) (fun _ => rfl) (lb rfl) (lb rfl) (by exact ⟨rfl, N1, KEEP, f2, f3, f4, f5, f6⟩) (fun fs hr => X1.returnOut hx hret (hb hby d31_5) hr)
abbrev R35_49 : Room := { frames := 0, cells := 0, slots := 0, locals := 0 }
def Q35_49 (Z : State) (ra0 ra1 : Addr) (h0 : Heap) (n0 : Nat) (v : Option Value) (h : Heap) (L : List Loc) : Prop := (v = some (.ref ra0) ∧ Fr n0 L ∧ h = h0)
theorem rm35_49 l Z a0 (hw : HW Z a0) ra0 ra1 h0 n0 (OLD : Old Z n0 h0) :
    own_CN l Z y28 jdk_31_method_11_code 2 (some (.object "java/lang/Object")) [] R35_49 #[.ref ra0, .ref ra1] h0 (Q35_49 Z ra0 ra1 h0 n0) := by
  refine own_entryN (plainFor_of_name pn_7) fun p e s m below meth c s₁ hx hby hml hown hnm hret hlk hZ hh X0 e0 => ?_
  have N0 := Fr.nil n0
  rw [ef_1_5 m ra0 ra1]
  refine og s₁ (mkF m 14 #[vR ra0, vR ra1] [.ref ra0]) (fun _ k => qa X0 hx hby d35_0 rfl rfl rfl (XS.ifnonnullYes X0.here hx rfl (pc0 := 1) (pc' := 13) rfl (hb hby d35_1) rfl (by decide) (by decide) (qa X0 hx hby d35_13 rfl rfl rfl k))) ?_
  exact own_leaveN X0 hlk (v := some (.ref ra0)) (own_nr hret) (lb rfl) (lb rfl) (by rw [e0]; exact ⟨rfl, N0, rfl⟩) (own_ra X0 hx hret rfl rfl rfl (hb hby d35_14))
abbrev R30_48 : Room := { frames := 5, cells := 3, slots := 2780, locals := 68 }
def Q30_48 (Z : State) (ra0 ra1 kw0 : Addr) (us up : Value) (h0 : Heap) (n0 : Nat) (v : Option Value) (h : Heap) (L : List Loc) : Prop := (v = none ∧ Fr n0 L ∧ Keep h0 h [ra0] ∧ Unt h ra0 ∧ Fld Z h ra0 cN5 "cause" "Ljava/lang/Throwable;" (.ref ra0) ∧ Fld Z h ra0 cN5 "detailMessage" "Ljava/lang/String;" (.ref ra1) ∧ Fld Z h ra0 cN2 "reason" "Lcom/example/webhooks_to_ledger/webhookstoledger/HoldReason;" (.ref kw0) ∧ Fld Z h ra0 cN5 "suppressedExceptions" "Ljava/util/List;" up)
theorem rm30_48 l Z a0 (hw : HW Z a0) ra0 ra1 kw0 (us : Value) (up : Value) h0 n0 (OLD : Old Z n0 h0) (EK0 : Exa Z Z.heap kw0 cN4) (U_ra0 : Unt h0 ra0) (A' : Exa Z h0 ra0 cN2) (B' : Fld Z h0 ra0 cN5 "backtrace" "Ljava/lang/Object;" .null) (C' : Fld Z h0 ra0 cN5 "cause" "Ljava/lang/Throwable;" .null) (D' : Fld Z h0 ra0 cN5 "depth" "I" (.int 0)) (E' : Fld Z h0 ra0 cN5 "detailMessage" "Ljava/lang/String;" .null) (F' : Fld Z h0 ra0 cN2 "reason" "Lcom/example/webhooks_to_ledger/webhookstoledger/HoldReason;" .null) (G' : Fld Z h0 ra0 cN5 "stackTrace" "[Ljava/lang/StackTraceElement;" .null) (H' : Fld Z h0 ra0 cN5 "suppressedExceptions" "Ljava/util/List;" .null) (I' : n0 ≤ ra0) (Sus : Sta Z Z.heap cN5 "UNASSIGNED_STACK" "[Ljava/lang/StackTraceElement;" us) (rf_us : us.isRef = true) (Sup : Sta Z Z.heap cN5 "SUPPRESSED_SENTINEL" "Ljava/util/List;" up) (rf_up : up.isRef = true) (hl : l.stackTraces = true) (rus : us.isRef = true) :
    own_CW l Z true y29 prog_14_method_1_code 3 none [] R30_48 #[.ref ra0, .ref kw0, .ref ra1] h0 [] (Q30_48 Z ra0 ra1 kw0 us up h0 n0) := by
  refine own_entryW (plainFor_of_name pn_8) fun p e s m below meth c s₁ hx hby hml hown hnm hret hlk hZ hh hCH hSf hKn X0 e0 => ?_
  have N0 := Fr.nil n0
  have hS0 : s.Since s.vm h0.size := own_since s _
  have hk0 : h0.size ≤ h0.size := Nat.le_refl _
  have CH0 : CHr Z own_EL s.vm h0 s.vm h0 := CHr.refl hCH
  rw [ef_30_48 m ra0 kw0 ra1]
  refine og s₁ (mkF m 2 #[vR ra0, vR kw0, vR ra1] [.ref ra1, .ref ra0]) (fun _ k => qa X0 hx hby d30_0 rfl rfl rfl (qa X0 hx hby d30_1 rfl rfl rfl k)) ?_
  obtain ⟨_, _, ⟨T1, L1, k1, n1⟩, -, X1, hs1, hg1, ⟨Lc1, hQ1, l1, y1, z1, ch1⟩, st1⟩ := X0.specialBackS hx (y := y27) rfl hown (mvT hZ (ow hw 164)) (mvT hZ (ow hw 165)) (mvT hZ (ow hw 168)) (by decide) (own_backSH (W := 0) (rm31_47 l Z a0 hw ra0 ra1 us up h0 n0 OLD U_ra0 A' B' C' D' E' F' G' H' I' Sus rf_us Sup rf_up hl rus) hZ (ow hw 168) (ow hw 167) (lb rfl) (lb rfl) (own_EW hw) CH0.1 all0 (fun _ => ⟨Vm.MethodsKnown.alikeC hS0.1.alike (hKn rfl).1, Vm.FramesKnown.alikeC hS0.1.alike (hKn rfl).2⟩)) (g := (mkF m 2 #[vR ra0, vR kw0, vR ra1] [.ref ra1, .ref ra0])) rfl (zs hml) (Steps.refl _) (a := ra0) (argsL := [.ref ra1]) (rest := []) (lenOf pd_5 rfl) rfl (lb rfl) (hb hby d30_2) (fun _ _ => ⟨rfl, e0, (lb rfl), (lb rfl)⟩)
  dsimp only [Pt.U, Pt.locs, Pt.cells, Pt.slots] at X1 l1 y1 z1 st1 hQ1 hs1 hg1 ch1
  subst l1 y1 z1
  replace X1 := own_reb X1
  obtain ⟨hZ1, hS1, hown1⟩ := own_after hZ hS0 e0 hk0 hs1 hg1 hown
  obtain ⟨rfl, Nq1, K1, f2, f3, f4, f5, f6⟩ := hQ1
  have N1 := Fr.app N0 Nq1
  have CH7 := CHr.trans CH0 ch1
  refine og T1 (mkF m 7 #[vR ra0, vR kw0, vR ra1] [.ref kw0, .ref ra0]) (fun _ k => st1.trans (qa X1 hx hby d30_5 rfl rfl rfl (qa X1 hx hby d30_6 rfl rfl rfl k))) ?_
  have F9 := (Nat.le_trans (Nat.le_refl _) K1.1)
  obtain ⟨l8, T8, h8, k8, lb8, lk8, X8, e8, E8, hS8, hk8, hZ8, hown8, Ex8, Fc8, Fv8, Av8, la8, lz8, ch8, Lt8, sf8, st8⟩ := ldcCH X1 hx hZ1 hown1 (ow hw 212) (own_wS hw) rfl hS1 (Nat.le_refl _) (own_EW hw) (by decide) CH7.1 (vs := [.int 114, .int 101, .int 97, .int 115, .int 111, .int 110]) (z := (6 : Int32)) (by decide) (by decide) (by decide) (g := (mkF m 7 #[vR ra0, vR kw0, vR ra1] [.ref kw0, .ref ra0])) rfl (hb hby d30_7) (n := 24) (by decide) (by decide) (lb rfl) (lb rfl)
  have CH10 := CHr.trans CH7 ch8
  have Ay8 : Arv Z h8 lb8 lk8 .byte (6 : Int32) (own_by ([114, 101, 97, 115, 111, 110] : List Int32)) (.int 0) := Av8
  refine og T8 (mkF m 9 #[vR ra0, vR kw0, vR ra1] [.ref l8, .ref kw0, .ref ra0]) st8 ?_
  have F11 := ((OLD.keep K1 (allS I' all0)).ext E8)
  obtain ⟨_, T12, L12, X12, hQ12, st12⟩ := own_tc X8 hx hZ8 hown8 (ow hw 213) (ow hw 214) (rm35_49 l Z a0 hw kw0 l8 h8 n0 F11 ) (ow hw 216) (ow hw 215) e8 (g := (mkF m 9 #[vR ra0, vR kw0, vR ra1] [.ref l8, .ref kw0, .ref ra0])) rfl (zs hml) (argsL := [.ref kw0, .ref l8]) (rest := [.ref ra0]) (lenOf pd_22 rfl) rfl (hb hby d30_9) (W := 1) rfl
  obtain ⟨rfl, Nq12, eq12⟩ := hQ12
  have N12 := Fr.app N1 Nq12
  refine ot T12 (mkF m 12 #[vR ra0, vR kw0, vR ra1] [.ref kw0, .ref ra0]) st12 ?_
  obtain ⟨T13, X13, e13, st13⟩ := castY X12 hx hZ8 hown8 (ow hw 217) eq12 (Ins.self (EK0.ext F11.2)) (g := (mkF m 12 #[vR ra0, vR kw0, vR ra1] [.ref kw0, .ref ra0])) rfl rfl (hb hby d30_12)
  refine og T13 (mkF m 15 #[vR ra0, vR kw0, vR ra1] [.ref kw0, .ref ra0]) st13 ?_
  have F14 := ((A'.keep K1).ext E8)
  have F15 := (f5.ext E8)
  obtain ⟨T16, h16, X16, e16, W16, st16⟩ := putF X13 hx hZ8 hown8 (host := "") (Or.inl (ow hw 219)) Via.refl e13 F15 F14 (Or.inr ⟨(ow hw 220), rfl, hnm⟩) (ow hw 27) (ty := (.object cN4)) (by decide) rfl rfl (g := (mkF m 15 #[vR ra0, vR kw0, vR ra1] [.ref kw0, .ref ra0])) rfl rfl (hb hby d30_15)
  have Fw16 := F15.same W16
  have ch17 := CHr.wr W16 (Safe.exa hZ8.alike F14 (by decide) (by decide)) CH10.1
  have CH18 := CHr.trans CH10 ch17
  have N16 := Fr.snoc X16 N12 I'
  refine og T16 (mkF m 18 #[vR ra0, vR kw0, vR ra1] []) st16 ?_
  have F19 := ((f2.ext E8).wr W16)
  have F20 := ((f3.ext E8).other W16 (Or.inr (slot_ne (Or.inl (ow hw 177)) (Or.inr (ow hw 220)) (by decide) (t := (.object cN5)) (t' := (.object cN4)) (by decide) (by decide))))
  have F21 := ((f4.ext E8).other W16 (Or.inr (slot_ne (Or.inl (ow hw 207)) (Or.inr (ow hw 220)) (by decide) (t := (.object cN1)) (t' := (.object cN4)) (by decide) (by decide))))
  have F22 := ((f6.ext E8).other W16 (Or.inr (slot_ne (Or.inl (ow hw 183)) (Or.inr (ow hw 220)) (by decide) (t := (.object "java/util/List")) (t' := (.object cN4)) (by decide) (by decide))))
  have KEEP := ((((Keep.refl h0 [ra0]).trans K1 (allS (Or.inl (List.mem_of_getElem? (i := 0) rfl)) all0)).ext E8).wr W16 (Or.inl (List.mem_of_getElem? (i := 0) rfl)))
  have F23 := (Nat.le_trans hk8 (Nat.le_of_eq W16.size.symm))
  exact own_leaveW (s := s) (vm0 := T8.vm) X16 hS8 F23 hZ8 (own_EW hw) e16 CH18 hh hlk (v := none) (fun _ => rfl) (lb rfl) (lb rfl) (by rw [e16]; exact ⟨rfl, N16, KEEP, F19, F20, F21, Fw16, F22⟩) (fun fs hr => X16.returnOut hx hret (hb hby d30_18) hr)
abbrev R4_9 : Room := { frames := 6, cells := 13, slots := 2988, locals := 94 }
def Q4_9 (Z : State) (ra0 ra1 : Addr) (kc2 : ClassId) (kw0 : Addr) (G1 : Int32) (us up : Value) (h0 : Heap) (n0 : Nat) (v : Option Value) (h : Heap) (L : List Loc) : Prop := (∃ (b1 o92 o93 : Addr) (kc94 : ClassId), (0 : Int32) = (0 : Int32) ∧ v = some (.ref b1) ∧ Fr n0 L ∧ Keep h0 h [] ∧ h0.size ≤ b1 ∧ h0.size ≤ o92 ∧ h0.size ≤ o93 ∧ Exa Z h b1 cN2 ∧ Unt h b1 ∧ Fld Z h b1 cN5 "cause" "Ljava/lang/Throwable;" (.ref b1) ∧ Fld Z h b1 cN5 "detailMessage" "Ljava/lang/String;" (.ref o92) ∧ Fld Z h b1 cN2 "reason" "Lcom/example/webhooks_to_ledger/webhookstoledger/HoldReason;" (.ref kw0) ∧ Fld Z h b1 cN5 "suppressedExceptions" "Ljava/util/List;" up ∧ Exa Z h o92 cN1 ∧ Fld Z h o92 cN1 "coder" "B" (.int 0) ∧ Fld Z h o92 cN1 "value" "[B" (.ref o93) ∧ Arv Z h o93 kc94 .byte (27 : Int32) (own_by (cL0 ++ cL1)) (.int 0))
theorem rm4_9 l Z a0 (hw : HW Z a0) ra0 ra1 kc2 kw0 (G1 : Int32) (us : Value) (up : Value) h0 n0 (OLD : Old Z n0 h0) (A' : Exa Z h0 ra0 cN1) (B' : Fld Z h0 ra0 cN1 "coder" "B" (.int 0)) (C' : Fld Z h0 ra0 cN1 "value" "[B" (.ref ra1)) (D' : Arv Z h0 ra1 kc2 .byte (0 : Int32) (own_by ([] : List Int32)) (.int 0)) (SK0 : Sta Z Z.heap cN4 "UNMAPPED_TYPE" "Lcom/example/webhooks_to_ledger/webhookstoledger/HoldReason;" (.ref kw0)) (EK0 : Exa Z Z.heap kw0 cN4) (O2 : Sta Z Z.heap cN1 "COMPACT_STRINGS" "Z" (.int G1)) (P5 : ¬ (G1 = (0 : Int32))) (Sus : Sta Z Z.heap cN5 "UNASSIGNED_STACK" "[Ljava/lang/StackTraceElement;" us) (rf_us : us.isRef = true) (Sup : Sta Z Z.heap cN5 "SUPPRESSED_SENTINEL" "Ljava/util/List;" up) (rf_up : up.isRef = true) (hl : l.stackTraces = true) (rus : us.isRef = true) :
    own_CW l Z true y30 prog_14_method_3_code 1 (some (.object cN2)) [] R4_9 #[.ref ra0] h0 [] (Q4_9 Z ra0 ra1 kc2 kw0 G1 us up h0 n0) := by
  refine own_entryW (plainFor_of_name pn_8) fun p e s m below meth c s₁ hx hby hml hown hnm hret hlk hZ hh hCH hSf hKn X0 e0 => ?_
  have N0 := Fr.nil n0
  have hS0 : s.Since s.vm h0.size := own_since s _
  have hk0 : h0.size ≤ h0.size := Nat.le_refl _
  have CH0 : CHr Z own_EL s.vm h0 s.vm h0 := CHr.refl hCH
  rw [ef_5_7 m ra0]
  obtain ⟨T1, h1, X1, e1, E1, A1, D1, U1, st1⟩ := newO X0 hx hZ hown (ow hw 26) (ow hw 27) (ow hw 24) e0 (g := (mkF m 0 #[vR ra0] [])) rfl (hb hby d4_0) (lb rfl) (lb rfl)
  obtain ⟨b1, gb1⟩ : ∃ z, z = h0.size := ⟨_, rfl⟩
  rw [← gb1] at A1 D1 U1 st1
  have g2 : n0 ≤ b1 := Nat.le_trans (own_osz OLD) (Nat.le_of_eq gb1.symm)
  have z3 : h0.size ≤ b1 := Nat.le_trans (Nat.le_refl _) (Nat.le_of_eq gb1.symm)
  have ch4 := CHr.ext E1 CH0.1
  have CH5 := CHr.trans CH0 ch4
  have Uu1 : Unt h1 b1 := U1
  refine og T1 (mkF m 4 #[vR ra0] [.ref b1, .ref b1]) (fun _ k => st1 _ (XS.dup X1.here hx rfl (hb hby d4_3) rfl rfl k)) ?_
  have F6 := (OLD.ext E1)
  obtain ⟨T7, X7, e7, st7⟩ := getS2 X1 hx hZ hown (host := "") (Or.inl (ow hw 28)) Via.refl e1 (SK0.ext F6.2) (g := (mkF m 4 #[vR ra0] [.ref b1, .ref b1])) rfl (hb hby d4_4)
  refine og T7 (mkF m 7 #[vR ra0] [.ref kw0, .ref b1, .ref b1]) st7 ?_
  obtain ⟨T8, h8, X8, e8, E8, A8, D8, U8, st8⟩ := newO X7 hx hZ hown (ow hw 31) (ow hw 32) (ow hw 33) e7 (g := (mkF m 7 #[vR ra0] [.ref kw0, .ref b1, .ref b1])) rfl (hb hby d4_7) (lb rfl) (lb rfl)
  obtain ⟨b8, gb8⟩ : ∃ z, z = h1.size := ⟨_, rfl⟩
  rw [← gb8] at A8 D8 U8 st8
  have g9 : n0 ≤ b8 := Nat.le_trans (own_osz F6) (Nat.le_of_eq gb8.symm)
  have F11 := (Nat.le_trans (Nat.le_refl _) E1.1)
  have z10 : h0.size ≤ b8 := Nat.le_trans F11 (Nat.le_of_eq gb8.symm)
  have ch12 := CHr.ext E8 CH5.1
  have CH13 := CHr.trans CH5 ch12
  refine og T8 (mkF m 11 #[vR ra0] [.ref b8, .ref b8, .ref kw0, .ref b1, .ref b1]) (fun _ k => st8 _ (XS.dup X8.here hx rfl (hb hby d4_10) rfl rfl k)) ?_
  have F14 := (F6.ext E8)
  obtain ⟨_, T15, L15, X15, hQ15, st15⟩ := own_sc X8 hx hZ rfl hown (ow hw 34) (ow hw 35) (rm5_7 l Z a0 hw b8 G1 h8 n0 F14 A8 (D8 (Or.inl (ow hw 48)) (ty := .byte) (by decide)) (D8 (Or.inl (ow hw 72)) (ty := .int) (by decide)) (D8 (Or.inl (ow hw 46)) (ty := (.array .byte)) (by decide)) O2 P5 g9) (ow hw 36) (ow hw 33) e8 (g := (mkF m 11 #[vR ra0] [.ref b8, .ref b8, .ref kw0, .ref b1, .ref b1])) rfl (zs hml) (argsL := []) (rest := [.ref b8, .ref kw0, .ref b1, .ref b1]) (lenOf pd_3 rfl) rfl (hb hby d4_11) (W := 4) rfl
  obtain ⟨o16, kc17, rfl, Nq15, K15, f18, f19, f20, f21, f22⟩ := hQ15
  have N15 := Fr.app N0 Nq15
  have g23 : n0 ≤ o16 := Nat.le_trans (own_osz F14) f18
  have F25 := (Nat.le_trans F11 E8.1)
  have z24 : h0.size ≤ o16 := Nat.le_trans F25 f18
  have ch26 := CHr.keep K15 (allS (Safe.exa hZ.alike A8 (by decide) (by decide)) all0) CH13.1
  have CH27 := CHr.trans CH13 ch26
  have sf28 := Safe.keep K15 (allS (Safe.exa hZ.alike A8 (by decide) (by decide)) all0) CH13.1 (Safe.new f18)
  refine ot T15 (mkF m 14 #[vR ra0] [.ref b8, .ref kw0, .ref b1, .ref b1]) st15 ?_
  have F30 := (Nat.le_trans (Nat.le_trans (Nat.le_trans hk0 E1.1) E8.1) K15.1)
  have F31 := (Nat.le_trans F25 K15.1)
  obtain ⟨l29, T29, h29, k29, lb29, lk29, X29, e29, E29, hS29, hk29, hZ29, hown29, Ex29, Fc29, Fv29, Av29, la29, lz29, ch29, Lt29, sf29, st29⟩ := ldcCH X15 hx hZ hown (ow hw 49) (own_wS hw) rfl hS0 F30 (own_EW hw) (by decide) CH27.1 (vs := [.int 101, .int 118, .int 101, .int 110, .int 116, .int 32, .int 116, .int 121, .int 112, .int 101, .int 32, .int 34]) (z := (12 : Int32)) (by decide) (by decide) (by decide) (g := (mkF m 14 #[vR ra0] [.ref b8, .ref kw0, .ref b1, .ref b1])) rfl (hb hby d4_14) (n := 48) (by decide) (by decide) (lb rfl) (lb rfl)
  have CH32 := CHr.trans CH27 ch29
  have Ay29 : Arv Z h29 lb29 lk29 .byte (12 : Int32) (own_by cL0) (.int 0) := Av29
  refine og T29 (mkF m 16 #[vR ra0] [.ref l29, .ref b8, .ref kw0, .ref b1, .ref b1]) st29 ?_
  have F33 := ((A8.keep K15).ext E29)
  have F34 := (f19.ext E29)
  have F35 := (f20.ext E29)
  have F36 := (f21.ext E29)
  have F37 := (f22.ext E29)
  have hp38 : own_L cL0 := own_hpl _ rfl
  have F39 := ((F14.keep K15 (allS g9 all0)).ext E29)
  obtain ⟨_, T40, L40, X40, hQ40, st40⟩ := own_vc X29 hx hZ29 hown29 (ow hw 50) (ow hw 51) (ow hw 53) (ow hw 52) F33 (rm7_10 l Z a0 hw b8 o16 kc17 l29 lb29 lk29 cL0 G1 h29 n0 F39 F33 F34 F35 F36 F37 Ex29 Fc29 Fv29 rfl hp38 Ay29 O2 P5 g23 (own_ne_lo A8.lt f18) g9) (ow hw 54) (ow hw 33) e29 (g := (mkF m 16 #[vR ra0] [.ref l29, .ref b8, .ref kw0, .ref b1, .ref b1])) rfl (zs hml) (argsL := [.ref l29]) (rest := [.ref kw0, .ref b1, .ref b1]) (lenOf pd_9 rfl) rfl (hb hby d4_16) (W := 3) rfl
  obtain ⟨rfl, Nq40, K40, f41, f42, f43, f44⟩ := hQ40
  have N40 := Fr.app N15 Nq40
  have ch45 := CHr.keep K40 (allS (CHr.safe ch29 f22.lt sf28) (allS (Safe.exa hZ29.alike F33 (by decide) (by decide)) all0)) CH32.1
  have CH46 := CHr.trans CH32 ch45
  refine og T40 (mkF m 20 #[vR ra0] [.ref ra0, .ref b8, .ref kw0, .ref b1, .ref b1]) (fun _ k => st40.trans (qa X40 hx hby d4_19 rfl rfl rfl k)) ?_
  have F47 := (F33.keep K40)
  have F48 := ((((A'.ext E1).ext E8).keep K15).ext E29)
  have F49 := (F48.keep K40)
  have F50 := ((((B'.ext E1).ext E8).keep K15 (ninS (own_ne_lo (Nat.lt_of_lt_of_le A'.lt E1.1) (Nat.le_of_eq gb8.symm)) nin0)).ext E29)
  have F51 := (F50.keep K40 (ninS (own_ne_lo (Nat.lt_of_lt_of_le (Nat.lt_of_lt_of_le A'.lt E1.1) E8.1) f18) (ninS (own_ne_lo (Nat.lt_of_lt_of_le A'.lt E1.1) (Nat.le_of_eq gb8.symm)) nin0)))
  have F52 := ((((C'.ext E1).ext E8).keep K15 (ninS (own_ne_lo (Nat.lt_of_lt_of_le A'.lt E1.1) (Nat.le_of_eq gb8.symm)) nin0)).ext E29)
  have F53 := (F52.keep K40 (ninS (own_ne_lo (Nat.lt_of_lt_of_le (Nat.lt_of_lt_of_le A'.lt E1.1) E8.1) f18) (ninS (own_ne_lo (Nat.lt_of_lt_of_le A'.lt E1.1) (Nat.le_of_eq gb8.symm)) nin0)))
  have F54 := ((((D'.ext E1).ext E8).keep K15 (ninS (own_ne_lo (Nat.lt_of_lt_of_le D'.lt E1.1) (Nat.le_of_eq gb8.symm)) nin0)).ext E29)
  have F55 := (F54.keep K40 (ninS (own_ne_lo (Nat.lt_of_lt_of_le (Nat.lt_of_lt_of_le D'.lt E1.1) E8.1) f18) (ninS (own_ne_lo (Nat.lt_of_lt_of_le D'.lt E1.1) (Nat.le_of_eq gb8.symm)) nin0)))
  have F56 := (F39.keep K40 (allS g23 (allS g9 all0)))
  obtain ⟨_, T57, L57, X57, hQ57, st57⟩ := own_vc X40 hx hZ29 hown29 (ow hw 50) (ow hw 51) (ow hw 53) (ow hw 52) F47 (rm7_17 l Z a0 hw b8 o16 kc17 cL0 ra0 ra1 kc2 G1 T40.heap n0 F56 F47 f42 f43 f44 rfl hp38 f41 F49 F51 F53 F55 O2 P5 g23 (own_ne_lo A8.lt f18) g9) (ow hw 54) (ow hw 33) rfl (g := (mkF m 20 #[vR ra0] [.ref ra0, .ref b8, .ref kw0, .ref b1, .ref b1])) rfl (zs hml) (argsL := [.ref ra0]) (rest := [.ref kw0, .ref b1, .ref b1]) (lenOf pd_9 rfl) rfl (hb hby d4_20) (W := 3) rfl
  obtain ⟨rfl, Nq57, K57, f58, f59, f60, f61⟩ := hQ57
  have N57 := Fr.app N40 Nq57
  have ch62 := CHr.keep K57 (allS (CHr.safe ch45 (Nat.lt_of_lt_of_le f22.lt E29.1) (CHr.safe ch29 f22.lt sf28)) (allS (Safe.exa hZ29.alike F47 (by decide) (by decide)) all0)) CH46.1
  have CH63 := CHr.trans CH46 ch62
  refine ot T57 (mkF m 23 #[vR ra0] [.ref b8, .ref kw0, .ref b1, .ref b1]) st57 ?_
  have F65 := (Nat.le_trans (Nat.le_trans hk29 K40.1) K57.1)
  have F66 := (Nat.le_trans (Nat.le_trans (Nat.le_trans F31 E29.1) K40.1) K57.1)
  obtain ⟨l64, T64, h64, k64, lb64, lk64, X64, e64, E64, hS64, hk64, hZ64, hown64, Ex64, Fc64, Fv64, Av64, la64, lz64, ch64, Lt64, sf64, st64⟩ := ldcCH X57 hx hZ29 hown29 (ow hw 98) (own_wS hw) rfl hS29 F65 (own_EW hw) (by decide) CH63.1 (vs := [.int 34, .int 32, .int 105, .int 115, .int 32, .int 110, .int 111, .int 116, .int 32, .int 109, .int 97, .int 112, .int 112, .int 101, .int 100]) (z := (15 : Int32)) (by decide) (by decide) (by decide) (g := (mkF m 23 #[vR ra0] [.ref b8, .ref kw0, .ref b1, .ref b1])) rfl (hb hby d4_23) (n := 60) (by decide) (by decide) (lb rfl) (lb rfl)
  have CH67 := CHr.trans CH63 ch64
  have Ay64 : Arv Z h64 lb64 lk64 .byte (15 : Int32) (own_by cL1) (.int 0) := Av64
  refine og T64 (mkF m 25 #[vR ra0] [.ref l64, .ref b8, .ref kw0, .ref b1, .ref b1]) st64 ?_
  have F68 := ((F47.keep K57).ext E64)
  have F69 := (f59.ext E64)
  have F70 := (f60.ext E64)
  have F71 := (f61.ext E64)
  have F72 := (f58.ext E64)
  have hp73 : own_L cL1 := own_hpl _ rfl
  have F74 := ((F56.keep K57 (allS g23 (allS g9 all0))).ext E64)
  obtain ⟨_, T75, L75, X75, hQ75, st75⟩ := own_vc X64 hx hZ64 hown64 (ow hw 50) (ow hw 51) (ow hw 53) (ow hw 52) F68 (rm7_22 l Z a0 hw b8 o16 kc17 cL0 l64 lb64 lk64 cL1 G1 h64 n0 F74 F68 F69 F70 F71 rfl hp38 F72 Ex64 Fc64 Fv64 rfl hp73 Ay64 O2 P5 g9 (ne_exa Ex64 F68 (by decide)) (Ne.symm (own_ne_arv F68 (ow hw 32) Ay64))) (ow hw 54) (ow hw 33) e64 (g := (mkF m 25 #[vR ra0] [.ref l64, .ref b8, .ref kw0, .ref b1, .ref b1])) rfl (zs hml) (argsL := [.ref l64]) (rest := [.ref kw0, .ref b1, .ref b1]) (lenOf pd_9 rfl) rfl (hb hby d4_25) (W := 3) rfl
  obtain ⟨o76, kc77, rfl, Nq75, K75, f78, f79, f80, f81, f82⟩ := hQ75
  have N75 := Fr.app N57 Nq75
  have g83 : n0 ≤ o76 := Nat.le_trans (own_osz F74) f78
  have F85 := (Nat.le_trans F66 E64.1)
  have z84 : h0.size ≤ o76 := Nat.le_trans F85 f78
  have ch86 := CHr.keep K75 (allS (Safe.exa hZ64.alike F68 (by decide) (by decide)) all0) CH67.1
  have CH87 := CHr.trans CH67 ch86
  have sf88 := Safe.keep K75 (allS (Safe.exa hZ64.alike F68 (by decide) (by decide)) all0) CH67.1 (Safe.new f78)
  refine ot T75 (mkF m 28 #[vR ra0] [.ref b8, .ref kw0, .ref b1, .ref b1]) st75 ?_
  have F89 := (F68.keep K75)
  have F90 := (F74.keep K75 (allS g9 all0))
  obtain ⟨_, T91, L91, X91, hQ91, st91⟩ := own_vc X75 hx hZ64 hown64 (ow hw 122) (ow hw 123) (ow hw 125) (ow hw 124) F89 (rm20_32 l Z a0 hw b8 o76 kc77 ((cL0 ++ cL1)) G1 T75.heap n0 F90 F89 f79 f80 f81 (own_la rfl rfl) (own_happ hp38 hp73) f82 O2 P5) (ow hw 126) (ow hw 33) rfl (g := (mkF m 28 #[vR ra0] [.ref b8, .ref kw0, .ref b1, .ref b1])) rfl (zs hml) (argsL := []) (rest := [.ref kw0, .ref b1, .ref b1]) (lenOf pd_21 rfl) rfl (hb hby d4_28) (W := 3) rfl
  obtain ⟨o92, o93, kc94, hc95, rfl, Nq91, K91, f96, f97, f98, f99, f100, f101⟩ := hQ91
  have N91 := Fr.app N75 Nq91
  have g102 : n0 ≤ o92 := Nat.le_trans (own_osz F90) f96
  have F104 := (Nat.le_trans F85 K75.1)
  have z103 : h0.size ≤ o92 := Nat.le_trans F104 f96
  have g105 : n0 ≤ o93 := Nat.le_trans (own_osz F90) f97
  have z106 : h0.size ≤ o93 := Nat.le_trans F104 f97
  have ch107 := CHr.keep K91 all0 CH87.1
  have CH108 := CHr.trans CH87 ch107
  have sf109 := Safe.keep K91 all0 CH87.1 (Safe.new f96)
  have sf110 := Safe.keep K91 all0 CH87.1 (Safe.new f97)
  refine ot T91 (mkF m 31 #[vR ra0] [.ref o92, .ref kw0, .ref b1, .ref b1]) st91 ?_
  have F111 := ((((Uu1.ext E8).keep K15 (ninS (own_ne_lo A1.lt (Nat.le_of_eq gb8.symm)) nin0)).ext E29).keep K40 (ninS (own_ne_lo (Nat.lt_of_lt_of_le A1.lt E8.1) f18) (ninS (own_ne_lo A1.lt (Nat.le_of_eq gb8.symm)) nin0)))
  have F112 := ((((F111.keep K57 (ninS (own_ne_lo (Nat.lt_of_lt_of_le A1.lt E8.1) f18) (ninS (own_ne_lo A1.lt (Nat.le_of_eq gb8.symm)) nin0))).ext E64).keep K75 (ninS (own_ne_lo A1.lt (Nat.le_of_eq gb8.symm)) nin0)).keep K91 nin0)
  have F113 := ((((A1.ext E8).keep K15).ext E29).keep K40)
  have F114 := ((((F113.keep K57).ext E64).keep K75).keep K91)
  have F115 := (((((D1 (Or.inl (ow hw 208)) (ty := (.object "java/lang/Object")) (by decide)).ext E8).keep K15 (ninS (own_ne_lo A1.lt (Nat.le_of_eq gb8.symm)) nin0)).ext E29).keep K40 (ninS (own_ne_lo (Nat.lt_of_lt_of_le A1.lt E8.1) f18) (ninS (own_ne_lo A1.lt (Nat.le_of_eq gb8.symm)) nin0)))
  have F116 := ((((F115.keep K57 (ninS (own_ne_lo (Nat.lt_of_lt_of_le A1.lt E8.1) f18) (ninS (own_ne_lo A1.lt (Nat.le_of_eq gb8.symm)) nin0))).ext E64).keep K75 (ninS (own_ne_lo A1.lt (Nat.le_of_eq gb8.symm)) nin0)).keep K91 nin0)
  have F117 := (((((D1 (Or.inl (ow hw 177)) (ty := (.object cN5)) (by decide)).ext E8).keep K15 (ninS (own_ne_lo A1.lt (Nat.le_of_eq gb8.symm)) nin0)).ext E29).keep K40 (ninS (own_ne_lo (Nat.lt_of_lt_of_le A1.lt E8.1) f18) (ninS (own_ne_lo A1.lt (Nat.le_of_eq gb8.symm)) nin0)))
  have F118 := ((((F117.keep K57 (ninS (own_ne_lo (Nat.lt_of_lt_of_le A1.lt E8.1) f18) (ninS (own_ne_lo A1.lt (Nat.le_of_eq gb8.symm)) nin0))).ext E64).keep K75 (ninS (own_ne_lo A1.lt (Nat.le_of_eq gb8.symm)) nin0)).keep K91 nin0)
  have F119 := (((((D1 (Or.inl (ow hw 209)) (ty := .int) (by decide)).ext E8).keep K15 (ninS (own_ne_lo A1.lt (Nat.le_of_eq gb8.symm)) nin0)).ext E29).keep K40 (ninS (own_ne_lo (Nat.lt_of_lt_of_le A1.lt E8.1) f18) (ninS (own_ne_lo A1.lt (Nat.le_of_eq gb8.symm)) nin0)))
  have F120 := ((((F119.keep K57 (ninS (own_ne_lo (Nat.lt_of_lt_of_le A1.lt E8.1) f18) (ninS (own_ne_lo A1.lt (Nat.le_of_eq gb8.symm)) nin0))).ext E64).keep K75 (ninS (own_ne_lo A1.lt (Nat.le_of_eq gb8.symm)) nin0)).keep K91 nin0)
  have F121 := (((((D1 (Or.inl (ow hw 207)) (ty := (.object cN1)) (by decide)).ext E8).keep K15 (ninS (own_ne_lo A1.lt (Nat.le_of_eq gb8.symm)) nin0)).ext E29).keep K40 (ninS (own_ne_lo (Nat.lt_of_lt_of_le A1.lt E8.1) f18) (ninS (own_ne_lo A1.lt (Nat.le_of_eq gb8.symm)) nin0)))
  have F122 := ((((F121.keep K57 (ninS (own_ne_lo (Nat.lt_of_lt_of_le A1.lt E8.1) f18) (ninS (own_ne_lo A1.lt (Nat.le_of_eq gb8.symm)) nin0))).ext E64).keep K75 (ninS (own_ne_lo A1.lt (Nat.le_of_eq gb8.symm)) nin0)).keep K91 nin0)
  have F123 := (((((D1 (Or.inr (ow hw 220)) (ty := (.object cN4)) (by decide)).ext E8).keep K15 (ninS (own_ne_lo A1.lt (Nat.le_of_eq gb8.symm)) nin0)).ext E29).keep K40 (ninS (own_ne_lo (Nat.lt_of_lt_of_le A1.lt E8.1) f18) (ninS (own_ne_lo A1.lt (Nat.le_of_eq gb8.symm)) nin0)))
  have F124 := ((((F123.keep K57 (ninS (own_ne_lo (Nat.lt_of_lt_of_le A1.lt E8.1) f18) (ninS (own_ne_lo A1.lt (Nat.le_of_eq gb8.symm)) nin0))).ext E64).keep K75 (ninS (own_ne_lo A1.lt (Nat.le_of_eq gb8.symm)) nin0)).keep K91 nin0)
  have F125 := (((((D1 (Or.inl (ow hw 180)) (ty := (.array (.object cN6))) (by decide)).ext E8).keep K15 (ninS (own_ne_lo A1.lt (Nat.le_of_eq gb8.symm)) nin0)).ext E29).keep K40 (ninS (own_ne_lo (Nat.lt_of_lt_of_le A1.lt E8.1) f18) (ninS (own_ne_lo A1.lt (Nat.le_of_eq gb8.symm)) nin0)))
  have F126 := ((((F125.keep K57 (ninS (own_ne_lo (Nat.lt_of_lt_of_le A1.lt E8.1) f18) (ninS (own_ne_lo A1.lt (Nat.le_of_eq gb8.symm)) nin0))).ext E64).keep K75 (ninS (own_ne_lo A1.lt (Nat.le_of_eq gb8.symm)) nin0)).keep K91 nin0)
  have F127 := (((((D1 (Or.inl (ow hw 183)) (ty := (.object "java/util/List")) (by decide)).ext E8).keep K15 (ninS (own_ne_lo A1.lt (Nat.le_of_eq gb8.symm)) nin0)).ext E29).keep K40 (ninS (own_ne_lo (Nat.lt_of_lt_of_le A1.lt E8.1) f18) (ninS (own_ne_lo A1.lt (Nat.le_of_eq gb8.symm)) nin0)))
  have F128 := ((((F127.keep K57 (ninS (own_ne_lo (Nat.lt_of_lt_of_le A1.lt E8.1) f18) (ninS (own_ne_lo A1.lt (Nat.le_of_eq gb8.symm)) nin0))).ext E64).keep K75 (ninS (own_ne_lo A1.lt (Nat.le_of_eq gb8.symm)) nin0)).keep K91 nin0)
  have F129 := (F90.keep K91 all0)
  obtain ⟨_, _, ⟨T130, L130, k130, n130⟩, -, X130, hs130, hg130, ⟨Lc130, hQ130, l130, y130, z130, ch130⟩, st130⟩ := X91.specialBackS hx (y := y29) rfl hown64 (mvT hZ64 (ow hw 161)) (mvT hZ64 (ow hw 162)) (mvT hZ64 (ow hw 163)) (by decide) (own_backSH (W := 1) (rm30_48 l Z a0 hw b1 o92 kw0 us up T91.heap n0 F129 EK0 F112 F114 F116 F118 F120 F122 F124 F126 F128 g2 Sus rf_us Sup rf_up hl rus) hZ64 (ow hw 163) (ow hw 24) (lb rfl) (lb rfl) (own_EW hw) CH108.1 all0 (fun _ => ⟨Vm.MethodsKnown.alikeC hS64.1.alike (hKn rfl).1, Vm.FramesKnown.alikeC hS64.1.alike (hKn rfl).2⟩)) (g := (mkF m 31 #[vR ra0] [.ref o92, .ref kw0, .ref b1, .ref b1])) rfl (zs hml) (Steps.refl _) (a := b1) (argsL := [.ref kw0, .ref o92]) (rest := [.ref b1]) (lenOf pd_23 rfl) rfl (lb rfl) (hb hby d4_31) (fun _ _ => ⟨rfl, rfl, (lb rfl), (lb rfl)⟩)
  dsimp only [Pt.U, Pt.locs, Pt.cells, Pt.slots] at X130 l130 y130 z130 st130 hQ130 hs130 hg130 ch130
  subst l130 y130 z130
  replace X130 := own_reb X130
  have F131 := (Nat.le_trans (Nat.le_trans hk64 K75.1) K91.1)
  obtain ⟨hZ130, hS130, hown130⟩ := own_after hZ64 hS64 rfl F131 hs130 hg130 hown64
  obtain ⟨rfl, Nq130, K130, f132, f133, f134, f135, f136⟩ := hQ130
  have N130 := Fr.app N91 Nq130
  have CH137 := CHr.trans CH108 ch130
  refine ot T130 (mkF m 34 #[vR ra0] [.ref b1]) st130 ?_
  have F138 := (F114.keep K130)
  have F139 := (f98.keep K130)
  have F140 := (f99.keep K130 (ninS (Ne.symm (own_ne_lo (Nat.lt_of_lt_of_le (Nat.lt_of_lt_of_le (Nat.lt_of_lt_of_le (Nat.lt_of_lt_of_le (Nat.lt_of_lt_of_le (Nat.lt_of_lt_of_le (Nat.lt_of_lt_of_le A1.lt E8.1) K15.1) E29.1) K40.1) K57.1) E64.1) K75.1) f96)) nin0))
  have F141 := (f100.keep K130 (ninS (Ne.symm (own_ne_lo (Nat.lt_of_lt_of_le (Nat.lt_of_lt_of_le (Nat.lt_of_lt_of_le (Nat.lt_of_lt_of_le (Nat.lt_of_lt_of_le (Nat.lt_of_lt_of_le (Nat.lt_of_lt_of_le A1.lt E8.1) K15.1) E29.1) K40.1) K57.1) E64.1) K75.1) f96)) nin0))
  have F142 := (f101.keep K130 (ninS (Ne.symm (own_ne_lo (Nat.lt_of_lt_of_le (Nat.lt_of_lt_of_le (Nat.lt_of_lt_of_le (Nat.lt_of_lt_of_le (Nat.lt_of_lt_of_le (Nat.lt_of_lt_of_le (Nat.lt_of_lt_of_le A1.lt E8.1) K15.1) E29.1) K40.1) K57.1) E64.1) K75.1) f97)) nin0))
  have K143 := (((((Keep.refl h0 []).ext E1).ext E8).trans K15 (allS (Or.inr z10) all0)).ext E29)
  have K144 := ((((K143.trans K40 (allS (Or.inr z24) (allS (Or.inr z10) all0))).trans K57 (allS (Or.inr z24) (allS (Or.inr z10) all0))).ext E64).trans K75 (allS (Or.inr z10) all0))
  have KEEP := ((K144.trans K91 all0).trans K130 (allS (Or.inr z3) all0))
  exact own_leaveW (s := s) (vm0 := T130.vm) X130 hS130 (Nat.le_refl _) hZ130 (own_EW hw) rfl CH137 hh hlk (v := some (.ref b1)) (own_nr hret) (lb rfl) (lb rfl) (by exact ⟨b1, o92, o93, kc94, hc95, rfl, N130, KEEP, z3, z103, z106, F138, f132, f133, f134, f135, f136, F139, F140, F141, F142⟩) (own_ra X130 hx hret rfl rfl rfl (hb hby d4_34))
abbrev R36_50 : Room := { frames := 0, cells := 0, slots := 0, locals := 0 }
def Q36_50 (Z : State) (ra0 w1 : Addr) (h0 : Heap) (n0 : Nat) (v : Option Value) (h : Heap) (L : List Loc) : Prop := (v = some (.ref w1) ∧ Fr n0 L ∧ h = h0)
theorem rm36_50 l Z a0 (hw : HW Z a0) ra0 w1 h0 n0 (OLD : Old Z n0 h0) (A' : Fld Z h0 ra0 cN2 "reason" "Lcom/example/webhooks_to_ledger/webhookstoledger/HoldReason;" (.ref w1)) :
    own_CN l Z y31 prog_14_method_4_code 1 (some (.object cN4)) [] R36_50 #[.ref ra0] h0 (Q36_50 Z ra0 w1 h0 n0) := by
  refine own_entryN (plainFor_of_name pn_8) fun p e s m below meth c s₁ hx hby hml hown hnm hret hlk hZ hh X0 e0 => ?_
  have N0 := Fr.nil n0
  rw [ef_5_7 m ra0]
  refine og s₁ (mkF m 1 #[vR ra0] [.ref ra0]) (fun _ k => qa X0 hx hby d36_0 rfl rfl rfl k) ?_
  obtain ⟨T2, X2, e2, st2⟩ := qf X0 hx hZ hown (ow hw 219) e0 A' (g := (mkF m 1 #[vR ra0] [.ref ra0])) rfl rfl hby d36_1
  refine og T2 (mkF m 4 #[vR ra0] [.ref w1]) st2 ?_
  exact own_leaveN X2 hlk (v := some (.ref w1)) (own_nr hret) (lb rfl) (lb rfl) (by rw [e2]; exact ⟨rfl, N0, rfl⟩) (own_ra X2 hx hret rfl rfl rfl (hb hby d36_4))
abbrev R38_51 : Room := { frames := 0, cells := 0, slots := 0, locals := 0 }
def Q38_51 (Z : State) (ra0 w1 : Addr) (h0 : Heap) (n0 : Nat) (v : Option Value) (h : Heap) (L : List Loc) : Prop := (v = some (.ref w1) ∧ Fr n0 L ∧ h = h0)
theorem rm38_51 l Z a0 (hw : HW Z a0) ra0 w1 h0 n0 (OLD : Old Z n0 h0) (A' : Fld Z h0 ra0 cN5 "detailMessage" "Ljava/lang/String;" (.ref w1)) :
    own_CN l Z y34 jdk_78_method_6_code 1 (some (.object cN1)) [] R38_51 #[.ref ra0] h0 (Q38_51 Z ra0 w1 h0 n0) := by
  refine own_entryN (plainFor_of_name pn_5) fun p e s m below meth c s₁ hx hby hml hown hnm hret hlk hZ hh X0 e0 => ?_
  have N0 := Fr.nil n0
  rw [ef_5_7 m ra0]
  refine og s₁ (mkF m 1 #[vR ra0] [.ref ra0]) (fun _ k => qa X0 hx hby d38_0 rfl rfl rfl k) ?_
  obtain ⟨T2, X2, e2, st2⟩ := qf X0 hx hZ hown (ow hw 211) e0 A' (g := (mkF m 1 #[vR ra0] [.ref ra0])) rfl rfl hby d38_1
  refine og T2 (mkF m 4 #[vR ra0] [.ref w1]) st2 ?_
  exact own_leaveN X2 hlk (v := some (.ref w1)) (own_nr hret) (lb rfl) (lb rfl) (by rw [e2]; exact ⟨rfl, N0, rfl⟩) (own_ra X2 hx hret rfl rfl rfl (hb hby d38_4))
abbrev R39_52 : Room := { frames := 4, cells := 0, slots := 0, locals := 53 }
def Q39_52 (Z : State) (ra0 ra1 : Addr) (kc2 : ClassId) (G3 : Value) (G1 : Int32) (h0 : Heap) (n0 : Nat) (v : Option Value) (h : Heap) (L : List Loc) : Prop := (v = some (.int 1) ∧ Fr n0 L ∧ h = h0)
theorem rm39_52 l Z a0 (hw : HW Z a0) ra0 ra1 kc2 (G3 : Value) (G1 : Int32) h0 n0 (OLD : Old Z n0 h0) (A' : Exa Z h0 ra0 cN1) (B' : Fld Z h0 ra0 cN1 "coder" "B" (.int 0)) (C' : Fld Z h0 ra0 cN1 "value" "[B" (.ref ra1)) (D' : Arv Z h0 ra1 kc2 .byte (27 : Int32) (own_by cL2) (.int 0)) (O4 : Sta Z Z.heap "jdk/internal/util/Preconditions" "SIOOBE_FORMATTER" "Ljava/util/function/BiFunction;" G3) (rG3 : G3.isRef = true) (O2 : Sta Z Z.heap cN1 "COMPACT_STRINGS" "Z" (.int G1)) (P5 : ¬ (G1 = (0 : Int32))) :
    own_CN l Z y36 method_3_code 1 (some .boolean) [] R39_52 #[.ref ra0] h0 (Q39_52 Z ra0 ra1 kc2 G3 G1 h0 n0) := by
  refine own_entryN (plainFor_of_name pn_9) fun p e s m below meth c s₁ hx hby hml hown hnm hret hlk hZ hh X0 e0 => ?_
  have N0 := Fr.nil n0
  rw [ef_5_7 m ra0]
  refine og s₁ (mkF m 2 #[vR ra0] [.int 0, .ref ra0]) (fun _ k => qa X0 hx hby d39_0 rfl rfl rfl (qc X0 hx hby d39_1 rfl k)) ?_
  have hp1 : own_L cL2 := own_hpl _ rfl
  obtain ⟨T2, X2, e2, st2⟩ := own_chA X0 hx hZ hown (ow hw 244) hw A' C' B' D' rfl hp1 e0 (O2.ext OLD.2) P5 (O4.ext OLD.2) rG3 (i := 0) (lb rfl) (g := (mkF m 2 #[vR ra0] [.int 0, .ref ra0])) rfl (zs hml) (rest := []) rfl (hb hby d39_2) (W := 0) rfl
  refine og T2 (mkF m 12 #[vR ra0] [.int 1, .ref ra0]) (fun _ k => st2 _ (qb X2 hx hby d39_5 rfl (qn X2 hx hby d39_7 rfl rfl (tq 101) (qa X2 hx hby d39_10 rfl rfl rfl (qc X2 hx hby d39_11 rfl k))))) ?_
  obtain ⟨T3, X3, e3, st3⟩ := own_chA X2 hx hZ hown (ow hw 244) hw A' C' B' D' rfl hp1 e2 (O2.ext OLD.2) P5 (O4.ext OLD.2) rG3 (i := 1) (lb rfl) (g := (mkF m 12 #[vR ra0] [.int 1, .ref ra0])) rfl (zs hml) (rest := []) rfl (hb hby d39_12) (W := 0) rfl
  refine og T3 (mkF m 22 #[vR ra0] [.int 2, .ref ra0]) (fun _ k => st3 _ (qb X3 hx hby d39_15 rfl (qn X3 hx hby d39_17 rfl rfl (tq 118) (qa X3 hx hby d39_20 rfl rfl rfl (qc X3 hx hby d39_21 rfl k))))) ?_
  obtain ⟨T4, X4, e4, st4⟩ := own_chA X3 hx hZ hown (ow hw 244) hw A' C' B' D' rfl hp1 e3 (O2.ext OLD.2) P5 (O4.ext OLD.2) rG3 (i := 2) (lb rfl) (g := (mkF m 22 #[vR ra0] [.int 2, .ref ra0])) rfl (zs hml) (rest := []) rfl (hb hby d39_22) (W := 0) rfl
  refine og T4 (mkF m 32 #[vR ra0] [.int 3, .ref ra0]) (fun _ k => st4 _ (qb X4 hx hby d39_25 rfl (qn X4 hx hby d39_27 rfl rfl (tq 101) (qa X4 hx hby d39_30 rfl rfl rfl (qc X4 hx hby d39_31 rfl k))))) ?_
  obtain ⟨T5, X5, e5, st5⟩ := own_chA X4 hx hZ hown (ow hw 244) hw A' C' B' D' rfl hp1 e4 (O2.ext OLD.2) P5 (O4.ext OLD.2) rG3 (i := 3) (lb rfl) (g := (mkF m 32 #[vR ra0] [.int 3, .ref ra0])) rfl (zs hml) (rest := []) rfl (hb hby d39_32) (W := 0) rfl
  refine og T5 (mkF m 42 #[vR ra0] [.int 4, .ref ra0]) (fun _ k => st5 _ (qb X5 hx hby d39_35 rfl (qn X5 hx hby d39_37 rfl rfl (tq 110) (qa X5 hx hby d39_40 rfl rfl rfl (qc X5 hx hby d39_41 rfl k))))) ?_
  obtain ⟨T6, X6, e6, st6⟩ := own_chA X5 hx hZ hown (ow hw 244) hw A' C' B' D' rfl hp1 e5 (O2.ext OLD.2) P5 (O4.ext OLD.2) rG3 (i := 4) (lb rfl) (g := (mkF m 42 #[vR ra0] [.int 4, .ref ra0])) rfl (zs hml) (rest := []) rfl (hb hby d39_42) (W := 0) rfl
  refine og T6 (mkF m 52 #[vR ra0] [.int 5, .ref ra0]) (fun _ k => st6 _ (qb X6 hx hby d39_45 rfl (qn X6 hx hby d39_47 rfl rfl (tq 116) (qa X6 hx hby d39_50 rfl rfl rfl (qc X6 hx hby d39_51 rfl k))))) ?_
  obtain ⟨T7, X7, e7, st7⟩ := own_chA X6 hx hZ hown (ow hw 244) hw A' C' B' D' rfl hp1 e6 (O2.ext OLD.2) P5 (O4.ext OLD.2) rG3 (i := 5) (lb rfl) (g := (mkF m 52 #[vR ra0] [.int 5, .ref ra0])) rfl (zs hml) (rest := []) rfl (hb hby d39_52) (W := 0) rfl
  refine og T7 (mkF m 63 #[vR ra0] [.int 6, .ref ra0]) (fun _ k => st7 _ (qb X7 hx hby d39_55 rfl (qn X7 hx hby d39_57 rfl rfl (tq 32) (qa X7 hx hby d39_60 rfl rfl rfl (qb X7 hx hby d39_61 rfl k))))) ?_
  obtain ⟨T8, X8, e8, st8⟩ := own_chA X7 hx hZ hown (ow hw 244) hw A' C' B' D' rfl hp1 e7 (O2.ext OLD.2) P5 (O4.ext OLD.2) rG3 (i := 6) (lb rfl) (g := (mkF m 63 #[vR ra0] [.int 6, .ref ra0])) rfl (zs hml) (rest := []) rfl (hb hby d39_63) (W := 0) rfl
  refine og T8 (mkF m 74 #[vR ra0] [.int 7, .ref ra0]) (fun _ k => st8 _ (qb X8 hx hby d39_66 rfl (qn X8 hx hby d39_68 rfl rfl (tq 116) (qa X8 hx hby d39_71 rfl rfl rfl (qb X8 hx hby d39_72 rfl k))))) ?_
  obtain ⟨T9, X9, e9, st9⟩ := own_chA X8 hx hZ hown (ow hw 244) hw A' C' B' D' rfl hp1 e8 (O2.ext OLD.2) P5 (O4.ext OLD.2) rG3 (i := 7) (lb rfl) (g := (mkF m 74 #[vR ra0] [.int 7, .ref ra0])) rfl (zs hml) (rest := []) rfl (hb hby d39_74) (W := 0) rfl
  refine og T9 (mkF m 85 #[vR ra0] [.int 8, .ref ra0]) (fun _ k => st9 _ (qb X9 hx hby d39_77 rfl (qn X9 hx hby d39_79 rfl rfl (tq 121) (qa X9 hx hby d39_82 rfl rfl rfl (qb X9 hx hby d39_83 rfl k))))) ?_
  obtain ⟨T10, X10, e10, st10⟩ := own_chA X9 hx hZ hown (ow hw 244) hw A' C' B' D' rfl hp1 e9 (O2.ext OLD.2) P5 (O4.ext OLD.2) rG3 (i := 8) (lb rfl) (g := (mkF m 85 #[vR ra0] [.int 8, .ref ra0])) rfl (zs hml) (rest := []) rfl (hb hby d39_85) (W := 0) rfl
  refine og T10 (mkF m 96 #[vR ra0] [.int 9, .ref ra0]) (fun _ k => st10 _ (qb X10 hx hby d39_88 rfl (qn X10 hx hby d39_90 rfl rfl (tq 112) (qa X10 hx hby d39_93 rfl rfl rfl (qb X10 hx hby d39_94 rfl k))))) ?_
  obtain ⟨T11, X11, e11, st11⟩ := own_chA X10 hx hZ hown (ow hw 244) hw A' C' B' D' rfl hp1 e10 (O2.ext OLD.2) P5 (O4.ext OLD.2) rG3 (i := 9) (lb rfl) (g := (mkF m 96 #[vR ra0] [.int 9, .ref ra0])) rfl (zs hml) (rest := []) rfl (hb hby d39_96) (W := 0) rfl
  refine og T11 (mkF m 107 #[vR ra0] [.int 10, .ref ra0]) (fun _ k => st11 _ (qb X11 hx hby d39_99 rfl (qn X11 hx hby d39_101 rfl rfl (tq 101) (qa X11 hx hby d39_104 rfl rfl rfl (qb X11 hx hby d39_105 rfl k))))) ?_
  obtain ⟨T12, X12, e12, st12⟩ := own_chA X11 hx hZ hown (ow hw 244) hw A' C' B' D' rfl hp1 e11 (O2.ext OLD.2) P5 (O4.ext OLD.2) rG3 (i := 10) (lb rfl) (g := (mkF m 107 #[vR ra0] [.int 10, .ref ra0])) rfl (zs hml) (rest := []) rfl (hb hby d39_107) (W := 0) rfl
  refine og T12 (mkF m 118 #[vR ra0] [.int 11, .ref ra0]) (fun _ k => st12 _ (qb X12 hx hby d39_110 rfl (qn X12 hx hby d39_112 rfl rfl (tq 32) (qa X12 hx hby d39_115 rfl rfl rfl (qb X12 hx hby d39_116 rfl k))))) ?_
  obtain ⟨T13, X13, e13, st13⟩ := own_chA X12 hx hZ hown (ow hw 244) hw A' C' B' D' rfl hp1 e12 (O2.ext OLD.2) P5 (O4.ext OLD.2) rG3 (i := 11) (lb rfl) (g := (mkF m 118 #[vR ra0] [.int 11, .ref ra0])) rfl (zs hml) (rest := []) rfl (hb hby d39_118) (W := 0) rfl
  refine og T13 (mkF m 131 #[vR ra0] [.int 1]) (fun _ k => st13 _ (qb X13 hx hby d39_121 rfl (qn X13 hx hby d39_123 rfl rfl (tq 34) (qc X13 hx hby d39_126 rfl (XS.goto X13.here hx rfl (pc0 := 127) (pc' := 131) rfl (hb hby d39_127) (by decide) (by decide) k))))) ?_
  exact own_leaveN X13 hlk (v := some (.int (nar .boolean (1 : Int32)))) (own_nr hret) (lb rfl) (lb rfl) (by rw [e13]; exact ⟨rfl, N0, rfl⟩) (fun fs hr => retN X13 hx (t := .boolean) hret (by simp) (hb hby d39_131) hr)
abbrev R45_53 : Room := { frames := 4, cells := 0, slots := 0, locals := 53 }
def Q45_53 (Z : State) (ra0 ra1 : Addr) (kc2 : ClassId) (G3 : Value) (G1 : Int32) (h0 : Heap) (n0 : Nat) (v : Option Value) (h : Heap) (L : List Loc) : Prop := (v = some (.int 1) ∧ Fr n0 L ∧ h = h0)
theorem rm45_53 l Z a0 (hw : HW Z a0) ra0 ra1 kc2 (G3 : Value) (G1 : Int32) h0 n0 (OLD : Old Z n0 h0) (A' : Exa Z h0 ra0 cN1) (B' : Fld Z h0 ra0 cN1 "coder" "B" (.int 0)) (C' : Fld Z h0 ra0 cN1 "value" "[B" (.ref ra1)) (D' : Arv Z h0 ra1 kc2 .byte (27 : Int32) (own_by cL2) (.int 0)) (O4 : Sta Z Z.heap "jdk/internal/util/Preconditions" "SIOOBE_FORMATTER" "Ljava/util/function/BiFunction;" G3) (rG3 : G3.isRef = true) (O2 : Sta Z Z.heap cN1 "COMPACT_STRINGS" "Z" (.int G1)) (P5 : ¬ (G1 = (0 : Int32))) :
    own_CN l Z y37 method_4_code 2 (some .boolean) [] R45_53 #[.ref ra0, .int 12] h0 (Q45_53 Z ra0 ra1 kc2 G3 G1 h0 n0) := by
  refine own_entryN (plainFor_of_name pn_9) fun p e s m below meth c s₁ hx hby hml hown hnm hret hlk hZ hh X0 e0 => ?_
  have N0 := Fr.nil n0
  rw [ef_45_53 m ra0]
  refine og s₁ (mkF m 2 #[vR ra0, vI 12] [.int 12, .ref ra0]) (fun _ k => qa X0 hx hby d45_0 rfl rfl rfl (qi X0 hx hby d45_1 rfl rfl k)) ?_
  have hp1 : own_L cL2 := own_hpl _ rfl
  obtain ⟨T2, X2, e2, st2⟩ := own_chA X0 hx hZ hown (ow hw 244) hw A' C' B' D' rfl hp1 e0 (O2.ext OLD.2) P5 (O4.ext OLD.2) rG3 (i := 12) (lb rfl) (g := (mkF m 2 #[vR ra0, vI 12] [.int 12, .ref ra0])) rfl (zs hml) (rest := []) rfl (hb hby d45_2) (W := 0) rfl
  refine og T2 (mkF m 14 #[vR ra0, vI 12] [.int 13, .ref ra0]) (fun _ k => st2 _ (qb X2 hx hby d45_5 rfl (qn X2 hx hby d45_7 rfl rfl (tq 34) (qa X2 hx hby d45_10 rfl rfl rfl (qi X2 hx hby d45_11 rfl rfl (qc X2 hx hby d45_12 rfl (qp X2 hx hby d45_13 rfl rfl k))))))) ?_
  obtain ⟨T3, X3, e3, st3⟩ := own_chA X2 hx hZ hown (ow hw 244) hw A' C' B' D' rfl hp1 e2 (O2.ext OLD.2) P5 (O4.ext OLD.2) rG3 (i := 13) (lb rfl) (g := (mkF m 14 #[vR ra0, vI 12] [.int 13, .ref ra0])) rfl (zs hml) (rest := []) rfl (hb hby d45_14) (W := 0) rfl
  refine og T3 (mkF m 26 #[vR ra0, vI 12] [.int 14, .ref ra0]) (fun _ k => st3 _ (qb X3 hx hby d45_17 rfl (qn X3 hx hby d45_19 rfl rfl (tq 32) (qa X3 hx hby d45_22 rfl rfl rfl (qi X3 hx hby d45_23 rfl rfl (qc X3 hx hby d45_24 rfl (qp X3 hx hby d45_25 rfl rfl k))))))) ?_
  obtain ⟨T4, X4, e4, st4⟩ := own_chA X3 hx hZ hown (ow hw 244) hw A' C' B' D' rfl hp1 e3 (O2.ext OLD.2) P5 (O4.ext OLD.2) rG3 (i := 14) (lb rfl) (g := (mkF m 26 #[vR ra0, vI 12] [.int 14, .ref ra0])) rfl (zs hml) (rest := []) rfl (hb hby d45_26) (W := 0) rfl
  refine og T4 (mkF m 38 #[vR ra0, vI 12] [.int 15, .ref ra0]) (fun _ k => st4 _ (qb X4 hx hby d45_29 rfl (qn X4 hx hby d45_31 rfl rfl (tq 105) (qa X4 hx hby d45_34 rfl rfl rfl (qi X4 hx hby d45_35 rfl rfl (qc X4 hx hby d45_36 rfl (qp X4 hx hby d45_37 rfl rfl k))))))) ?_
  obtain ⟨T5, X5, e5, st5⟩ := own_chA X4 hx hZ hown (ow hw 244) hw A' C' B' D' rfl hp1 e4 (O2.ext OLD.2) P5 (O4.ext OLD.2) rG3 (i := 15) (lb rfl) (g := (mkF m 38 #[vR ra0, vI 12] [.int 15, .ref ra0])) rfl (zs hml) (rest := []) rfl (hb hby d45_38) (W := 0) rfl
  refine og T5 (mkF m 50 #[vR ra0, vI 12] [.int 16, .ref ra0]) (fun _ k => st5 _ (qb X5 hx hby d45_41 rfl (qn X5 hx hby d45_43 rfl rfl (tq 115) (qa X5 hx hby d45_46 rfl rfl rfl (qi X5 hx hby d45_47 rfl rfl (qc X5 hx hby d45_48 rfl (qp X5 hx hby d45_49 rfl rfl k))))))) ?_
  obtain ⟨T6, X6, e6, st6⟩ := own_chA X5 hx hZ hown (ow hw 244) hw A' C' B' D' rfl hp1 e5 (O2.ext OLD.2) P5 (O4.ext OLD.2) rG3 (i := 16) (lb rfl) (g := (mkF m 50 #[vR ra0, vI 12] [.int 16, .ref ra0])) rfl (zs hml) (rest := []) rfl (hb hby d45_50) (W := 0) rfl
  refine og T6 (mkF m 62 #[vR ra0, vI 12] [.int 17, .ref ra0]) (fun _ k => st6 _ (qb X6 hx hby d45_53 rfl (qn X6 hx hby d45_55 rfl rfl (tq 32) (qa X6 hx hby d45_58 rfl rfl rfl (qi X6 hx hby d45_59 rfl rfl (qc X6 hx hby d45_60 rfl (qp X6 hx hby d45_61 rfl rfl k))))))) ?_
  obtain ⟨T7, X7, e7, st7⟩ := own_chA X6 hx hZ hown (ow hw 244) hw A' C' B' D' rfl hp1 e6 (O2.ext OLD.2) P5 (O4.ext OLD.2) rG3 (i := 17) (lb rfl) (g := (mkF m 62 #[vR ra0, vI 12] [.int 17, .ref ra0])) rfl (zs hml) (rest := []) rfl (hb hby d45_62) (W := 0) rfl
  refine og T7 (mkF m 75 #[vR ra0, vI 12] [.int 18, .ref ra0]) (fun _ k => st7 _ (qb X7 hx hby d45_65 rfl (qn X7 hx hby d45_67 rfl rfl (tq 110) (qa X7 hx hby d45_70 rfl rfl rfl (qi X7 hx hby d45_71 rfl rfl (qb X7 hx hby d45_72 rfl (qp X7 hx hby d45_74 rfl rfl k))))))) ?_
  obtain ⟨T8, X8, e8, st8⟩ := own_chA X7 hx hZ hown (ow hw 244) hw A' C' B' D' rfl hp1 e7 (O2.ext OLD.2) P5 (O4.ext OLD.2) rG3 (i := 18) (lb rfl) (g := (mkF m 75 #[vR ra0, vI 12] [.int 18, .ref ra0])) rfl (zs hml) (rest := []) rfl (hb hby d45_75) (W := 0) rfl
  refine og T8 (mkF m 88 #[vR ra0, vI 12] [.int 19, .ref ra0]) (fun _ k => st8 _ (qb X8 hx hby d45_78 rfl (qn X8 hx hby d45_80 rfl rfl (tq 111) (qa X8 hx hby d45_83 rfl rfl rfl (qi X8 hx hby d45_84 rfl rfl (qb X8 hx hby d45_85 rfl (qp X8 hx hby d45_87 rfl rfl k))))))) ?_
  obtain ⟨T9, X9, e9, st9⟩ := own_chA X8 hx hZ hown (ow hw 244) hw A' C' B' D' rfl hp1 e8 (O2.ext OLD.2) P5 (O4.ext OLD.2) rG3 (i := 19) (lb rfl) (g := (mkF m 88 #[vR ra0, vI 12] [.int 19, .ref ra0])) rfl (zs hml) (rest := []) rfl (hb hby d45_88) (W := 0) rfl
  refine og T9 (mkF m 101 #[vR ra0, vI 12] [.int 20, .ref ra0]) (fun _ k => st9 _ (qb X9 hx hby d45_91 rfl (qn X9 hx hby d45_93 rfl rfl (tq 116) (qa X9 hx hby d45_96 rfl rfl rfl (qi X9 hx hby d45_97 rfl rfl (qb X9 hx hby d45_98 rfl (qp X9 hx hby d45_100 rfl rfl k))))))) ?_
  obtain ⟨T10, X10, e10, st10⟩ := own_chA X9 hx hZ hown (ow hw 244) hw A' C' B' D' rfl hp1 e9 (O2.ext OLD.2) P5 (O4.ext OLD.2) rG3 (i := 20) (lb rfl) (g := (mkF m 101 #[vR ra0, vI 12] [.int 20, .ref ra0])) rfl (zs hml) (rest := []) rfl (hb hby d45_101) (W := 0) rfl
  refine og T10 (mkF m 114 #[vR ra0, vI 12] [.int 21, .ref ra0]) (fun _ k => st10 _ (qb X10 hx hby d45_104 rfl (qn X10 hx hby d45_106 rfl rfl (tq 32) (qa X10 hx hby d45_109 rfl rfl rfl (qi X10 hx hby d45_110 rfl rfl (qb X10 hx hby d45_111 rfl (qp X10 hx hby d45_113 rfl rfl k))))))) ?_
  obtain ⟨T11, X11, e11, st11⟩ := own_chA X10 hx hZ hown (ow hw 244) hw A' C' B' D' rfl hp1 e10 (O2.ext OLD.2) P5 (O4.ext OLD.2) rG3 (i := 21) (lb rfl) (g := (mkF m 114 #[vR ra0, vI 12] [.int 21, .ref ra0])) rfl (zs hml) (rest := []) rfl (hb hby d45_114) (W := 0) rfl
  refine og T11 (mkF m 127 #[vR ra0, vI 12] [.int 22, .ref ra0]) (fun _ k => st11 _ (qb X11 hx hby d45_117 rfl (qn X11 hx hby d45_119 rfl rfl (tq 109) (qa X11 hx hby d45_122 rfl rfl rfl (qi X11 hx hby d45_123 rfl rfl (qb X11 hx hby d45_124 rfl (qp X11 hx hby d45_126 rfl rfl k))))))) ?_
  obtain ⟨T12, X12, e12, st12⟩ := own_chA X11 hx hZ hown (ow hw 244) hw A' C' B' D' rfl hp1 e11 (O2.ext OLD.2) P5 (O4.ext OLD.2) rG3 (i := 22) (lb rfl) (g := (mkF m 127 #[vR ra0, vI 12] [.int 22, .ref ra0])) rfl (zs hml) (rest := []) rfl (hb hby d45_127) (W := 0) rfl
  refine og T12 (mkF m 140 #[vR ra0, vI 12] [.int 23, .ref ra0]) (fun _ k => st12 _ (qb X12 hx hby d45_130 rfl (qn X12 hx hby d45_132 rfl rfl (tq 97) (qa X12 hx hby d45_135 rfl rfl rfl (qi X12 hx hby d45_136 rfl rfl (qb X12 hx hby d45_137 rfl (qp X12 hx hby d45_139 rfl rfl k))))))) ?_
  obtain ⟨T13, X13, e13, st13⟩ := own_chA X12 hx hZ hown (ow hw 244) hw A' C' B' D' rfl hp1 e12 (O2.ext OLD.2) P5 (O4.ext OLD.2) rG3 (i := 23) (lb rfl) (g := (mkF m 140 #[vR ra0, vI 12] [.int 23, .ref ra0])) rfl (zs hml) (rest := []) rfl (hb hby d45_140) (W := 0) rfl
  refine og T13 (mkF m 153 #[vR ra0, vI 12] [.int 24, .ref ra0]) (fun _ k => st13 _ (qb X13 hx hby d45_143 rfl (qn X13 hx hby d45_145 rfl rfl (tq 112) (qa X13 hx hby d45_148 rfl rfl rfl (qi X13 hx hby d45_149 rfl rfl (qb X13 hx hby d45_150 rfl (qp X13 hx hby d45_152 rfl rfl k))))))) ?_
  obtain ⟨T14, X14, e14, st14⟩ := own_chA X13 hx hZ hown (ow hw 244) hw A' C' B' D' rfl hp1 e13 (O2.ext OLD.2) P5 (O4.ext OLD.2) rG3 (i := 24) (lb rfl) (g := (mkF m 153 #[vR ra0, vI 12] [.int 24, .ref ra0])) rfl (zs hml) (rest := []) rfl (hb hby d45_153) (W := 0) rfl
  refine og T14 (mkF m 166 #[vR ra0, vI 12] [.int 25, .ref ra0]) (fun _ k => st14 _ (qb X14 hx hby d45_156 rfl (qn X14 hx hby d45_158 rfl rfl (tq 112) (qa X14 hx hby d45_161 rfl rfl rfl (qi X14 hx hby d45_162 rfl rfl (qb X14 hx hby d45_163 rfl (qp X14 hx hby d45_165 rfl rfl k))))))) ?_
  obtain ⟨T15, X15, e15, st15⟩ := own_chA X14 hx hZ hown (ow hw 244) hw A' C' B' D' rfl hp1 e14 (O2.ext OLD.2) P5 (O4.ext OLD.2) rG3 (i := 25) (lb rfl) (g := (mkF m 166 #[vR ra0, vI 12] [.int 25, .ref ra0])) rfl (zs hml) (rest := []) rfl (hb hby d45_166) (W := 0) rfl
  refine og T15 (mkF m 179 #[vR ra0, vI 12] [.int 26, .ref ra0]) (fun _ k => st15 _ (qb X15 hx hby d45_169 rfl (qn X15 hx hby d45_171 rfl rfl (tq 101) (qa X15 hx hby d45_174 rfl rfl rfl (qi X15 hx hby d45_175 rfl rfl (qb X15 hx hby d45_176 rfl (qp X15 hx hby d45_178 rfl rfl k))))))) ?_
  obtain ⟨T16, X16, e16, st16⟩ := own_chA X15 hx hZ hown (ow hw 244) hw A' C' B' D' rfl hp1 e15 (O2.ext OLD.2) P5 (O4.ext OLD.2) rG3 (i := 26) (lb rfl) (g := (mkF m 179 #[vR ra0, vI 12] [.int 26, .ref ra0])) rfl (zs hml) (rest := []) rfl (hb hby d45_179) (W := 0) rfl
  refine og T16 (mkF m 192 #[vR ra0, vI 12] [.int 1]) (fun _ k => st16 _ (qb X16 hx hby d45_182 rfl (qn X16 hx hby d45_184 rfl rfl (tq 100) (qc X16 hx hby d45_187 rfl (XS.goto X16.here hx rfl (pc0 := 188) (pc' := 192) rfl (hb hby d45_188) (by decide) (by decide) k))))) ?_
  exact own_leaveN X16 hlk (v := some (.int (nar .boolean (1 : Int32)))) (own_nr hret) (lb rfl) (lb rfl) (by rw [e16]; exact ⟨rfl, N0, rfl⟩) (fun fs hr => retN X16 hx (t := .boolean) hret (by simp) (hb hby d45_192) hr)
abbrev R50_55 : Room := { frames := 0, cells := 0, slots := 0, locals := 0 }
def Q50_55 (Z : State) (pi0 : Int32) (h0 : Heap) (n0 : Nat) (v : Option Value) (h : Heap) (L : List Loc) : Prop := (v = some (.int 1) ∧ Fr n0 L ∧ h = h0)
theorem rm50_55 l Z a0 (hw : HW Z a0) (pi0 : Int32) h0 n0 (OLD : Old Z n0 h0) (hc4 : ¬ ((255 : Int32) < pi0)) :
    own_CN l Z y38 jdk_43_method_3_code 1 (some .boolean) [] R50_55 #[.int pi0] h0 (Q50_55 Z pi0 h0 n0) := by
  refine own_entryN (plainFor_of_name pn_10) fun p e s m below meth c s₁ hx hby hml hown hnm hret hlk hZ hh X0 e0 => ?_
  have N0 := Fr.nil n0
  rw [ef_50_55 m pi0]
  refine og s₁ (mkF m 12 #[vI pi0] [.int 1]) (fun _ k => qi X0 hx hby d50_0 rfl rfl (XS.sipush X0.here hx rfl (hb hby d50_1) (qn X0 hx hby d50_4 rfl rfl (flt hc4).2.2.1 (qc X0 hx hby d50_7 rfl (XS.goto X0.here hx rfl (pc0 := 8) (pc' := 12) rfl (hb hby d50_8) (by decide) (by decide) k))))) ?_
  exact own_leaveN X0 hlk (v := some (.int (nar .boolean (1 : Int32)))) (own_nr hret) (lb rfl) (lb rfl) (by rw [e0]; exact ⟨rfl, N0, rfl⟩) (fun fs hr => retN X0 hx (t := .boolean) hret (by simp) (hb hby d50_12) hr)
abbrev R51_56 : Room := { frames := 0, cells := 1, slots := 1, locals := 0 }
def Q51_56 (Z : State) (pi0 : Int32) (h0 : Heap) (n0 : Nat) (v : Option Value) (h : Heap) (L : List Loc) : Prop := (∃ (b1 : Addr) (k1 : ClassId), v = some (.ref b1) ∧ Fr n0 L ∧ Keep h0 h [] ∧ h0.size ≤ b1 ∧ Arv Z h b1 k1 .byte (1 : Int32) [(.int (pi0.toInt8.toInt32))] (.int 0))
theorem rm51_56 l Z a0 (hw : HW Z a0) (pi0 : Int32) h0 n0 (OLD : Old Z n0 h0) :
    own_CN l Z y39 jdk_43_method_46_code 1 (some (.array .byte)) [] R51_56 #[.int pi0] h0 (Q51_56 Z pi0 h0 n0) := by
  refine own_entryN (plainFor_of_name pn_10) fun p e s m below meth c s₁ hx hby hml hown hnm hret hlk hZ hh X0 e0 => ?_
  have N0 := Fr.nil n0
  rw [ef_50_55 m pi0]
  refine og s₁ (mkF m 1 #[vI pi0] [.int 1]) (fun _ k => qc X0 hx hby d51_0 rfl k) ?_
  obtain ⟨T1, h1, k1, X1, e1, E1, A1, st1⟩ := newP X0 hx hZ (ow hw 15) e0 (g := (mkF m 1 #[vI pi0] [.int 1])) rfl (hb hby d51_1) rfl (by decide) (cap := 1) (by decide) (lb rfl) (lb rfl) (lb rfl)
  obtain ⟨b1, gb1⟩ : ∃ z, z = h0.size := ⟨_, rfl⟩
  rw [← gb1] at A1 st1
  have g2 : n0 ≤ b1 := Nat.le_trans (own_osz OLD) (Nat.le_of_eq gb1.symm)
  have z3 : h0.size ≤ b1 := Nat.le_trans (Nat.le_refl _) (Nat.le_of_eq gb1.symm)
  have V1 : Arv Z h1 b1 k1 .byte (1 : Int32) [.int 0] (.int 0) := (Arv.new A1 (by decide)).pad (pad_rep [] (.int 0) 1)
  refine og T1 (mkF m 7 #[vI pi0] [(.int (pi0.toInt8.toInt32)), .int 0, .ref b1, .ref b1]) (fun _ k => st1 _ (XS.dup X1.here hx rfl (hb hby d51_3) rfl rfl (qc X1 hx hby d51_4 rfl (qi X1 hx hby d51_5 rfl rfl (XS.i2b X1.here hx rfl (hb hby d51_6) rfl k))))) ?_
  obtain ⟨cl4, Ar4, qr4, Sr4, Nr4, Hr4, Gr4⟩ := id V1
  obtain ⟨T4, h4, X4, e4, W4, st4⟩ := stB X1 hx hZ e1 Ar4 (j := (0 : Int32)) (inb_of Sr4 ⟨by decide, by decide⟩) (g := (mkF m 7 #[vI pi0] [(.int (pi0.toInt8.toInt32)), .int 0, .ref b1, .ref b1])) rfl rfl (hb hby d51_7)
  have V4 : Arv Z h4 b1 k1 .byte (1 : Int32) [(.int (nar .byte (pi0.toInt8.toInt32)))] (.int 0) := Arv.set Ar4 qr4 Sr4 Nr4 Hr4 Gr4 (fits_nar_byte _) W4 0 rfl (lb rfl)
  rw [show nar .byte (pi0.toInt8.toInt32) = (pi0.toInt8.toInt32) from (own_b8 _)] at V4
  have N4 := Fr.snoc X4 N0 g2
  refine og T4 (mkF m 8 #[vI pi0] [.ref b1]) st4 ?_
  have KEEP := (((Keep.refl h0 []).ext E1).wr W4 (Or.inr z3))
  exact own_leaveN X4 hlk (v := some (.ref b1)) (own_nr hret) (lb rfl) (lb rfl) (by rw [e4]; exact ⟨b1, k1, rfl, N4, KEEP, z3, V4⟩) (own_ra X4 hx hret rfl rfl rfl (hb hby d51_8))
abbrev R52_57 : Room := { frames := 1, cells := 0, slots := 0, locals := 12 }
def Q52_57 (Z : State) (ra0 ra1 : Addr) (pi2 : Int32) (u2 u5 : Value) (h0 : Heap) (n0 : Nat) (v : Option Value) (h : Heap) (L : List Loc) : Prop := (v = none ∧ Fr n0 L ∧ Keep h0 h [ra0] ∧ Fld Z h ra0 cN1 "value" "[B" (.ref ra1) ∧ Fld Z h ra0 cN1 "coder" "B" (.int (nar .byte pi2)))
theorem rm52_57 l Z a0 (hw : HW Z a0) ra0 ra1 (pi2 : Int32) (u2 : Value) (u5 : Value) h0 n0 (OLD : Old Z n0 h0) (A' : Exa Z h0 ra0 cN1) (B' : Fld Z h0 ra0 cN1 "value" "[B" u2) (C' : n0 ≤ ra0) (D' : Fld Z h0 ra0 cN1 "coder" "B" u5) :
    own_CN l Z y40 jdk_42_method_151_code 3 none [] R52_57 #[.ref ra0, .ref ra1, .int pi2] h0 (Q52_57 Z ra0 ra1 pi2 u2 u5 h0 n0) := by
  refine own_entryN (plainFor_of_name pn_0) fun p e s m below meth c s₁ hx hby hml hown hnm hret hlk hZ hh X0 e0 => ?_
  have N0 := Fr.nil n0
  rw [ef_52_57 m ra0 ra1 pi2]
  refine og s₁ (mkF m 1 #[vR ra0, vR ra1, vI pi2] [.ref ra0]) (fun _ k => qa X0 hx hby d52_0 rfl rfl rfl k) ?_
  obtain ⟨T1, X1, e1, st1⟩ := initO X0 hx hZ hown (ow hw 11) (ow hw 12) (ow hw 13) e0 (g := (mkF m 1 #[vR ra0, vR ra1, vI pi2] [.ref ra0])) rfl (zs hml) rfl (hb hby d52_1) (by decide) (W := 0) (lb rfl) (by decide)
  refine og T1 (mkF m 6 #[vR ra0, vR ra1, vI pi2] [.ref ra1, .ref ra0]) (fun _ k => st1 _ (qa X1 hx hby d52_4 rfl rfl rfl (qa X1 hx hby d52_5 rfl rfl rfl k))) ?_
  obtain ⟨T3, h3, X3, e3, W3, st3⟩ := putF X1 hx hZ hown (host := "") (Or.inl (ow hw 20)) Via.refl e1 B' A' (Or.inr ⟨(ow hw 16), rfl, hnm⟩) (ow hw 1) (ty := (.array .byte)) (by decide) rfl rfl (g := (mkF m 6 #[vR ra0, vR ra1, vI pi2] [.ref ra1, .ref ra0])) rfl rfl (hb hby d52_6)
  have Fw3 := B'.same W3
  have N3 := Fr.snoc X3 N0 C'
  refine og T3 (mkF m 11 #[vR ra0, vR ra1, vI pi2] [.int pi2, .ref ra0]) (fun _ k => st3 _ (qa X3 hx hby d52_9 rfl rfl rfl (qi X3 hx hby d52_10 rfl rfl k))) ?_
  have F4 := (A'.wr W3)
  have F6 := (D'.other W3 (Or.inr (slot_ne (Or.inr (ow hw 17)) (Or.inr (ow hw 16)) (by decide) (t := .byte) (t' := (.array .byte)) (by decide) (by decide))))
  obtain ⟨T7, h7, X7, e7, W7, st7⟩ := putFN X3 hx hZ hown (ow hw 21) Via.refl e3 F6 F4 (Or.inr ⟨(ow hw 17), rfl, hnm⟩) (ow hw 1) (ty := .byte) (v' := (.int (nar .byte pi2))) (by decide) rfl (fits_nar_byte _) (g := (mkF m 11 #[vR ra0, vR ra1, vI pi2] [.int pi2, .ref ra0])) rfl rfl (hb hby d52_11)
  have Fw7 := F6.same W7
  have N7 := Fr.snoc X7 N3 C'
  refine og T7 (mkF m 14 #[vR ra0, vR ra1, vI pi2] []) st7 ?_
  have F8 := (Fw3.other W7 (Or.inr (slot_ne (Or.inr (ow hw 16)) (Or.inr (ow hw 17)) (by decide) (t := (.array .byte)) (t' := .byte) (by decide) (by decide))))
  have KEEP := (((Keep.refl h0 [ra0]).wr W3 (Or.inl (List.mem_of_getElem? (i := 0) rfl))).wr W7 (Or.inl (List.mem_of_getElem? (i := 0) rfl)))
  exact own_leaveN X7 hlk (v := none) (fun _ => rfl) (lb rfl) (lb rfl) (by rw [e7]; exact ⟨rfl, N7, KEEP, F8, Fw7⟩) (fun fs hr => X7.returnOut hx hret (hb hby d52_14) hr)
abbrev R49_54 : Room := { frames := 2, cells := 2, slots := 5, locals := 27 }
def Q49_54 (Z : State) (pi0 G1 : Int32) (h0 : Heap) (n0 : Nat) (v : Option Value) (h : Heap) (L : List Loc) : Prop := (∃ (b3 o8 : Addr) (kc9 : ClassId), v = some (.ref b3) ∧ Fr n0 L ∧ Keep h0 h [] ∧ h0.size ≤ b3 ∧ h0.size ≤ o8 ∧ Exa Z h b3 cN1 ∧ Fld Z h b3 cN1 "value" "[B" (.ref o8) ∧ Fld Z h b3 cN1 "coder" "B" (.int 0) ∧ Arv Z h o8 kc9 .byte (1 : Int32) [(.int (pi0.toInt8.toInt32))] (.int 0))
theorem rm49_54 l Z a0 (hw : HW Z a0) (pi0 : Int32) (G1 : Int32) h0 n0 (OLD : Old Z n0 h0) (O2 : Sta Z Z.heap cN1 "COMPACT_STRINGS" "Z" (.int G1)) (P5 : ¬ (G1 = (0 : Int32))) (hp2 : ¬ ((255 : Int32) < pi0)) :
    own_CN l Z y41 jdk_42_method_139_code 1 (some (.object cN1)) [] R49_54 #[.int pi0] h0 (Q49_54 Z pi0 G1 h0 n0) := by
  refine own_entryN (plainFor_of_name pn_0) fun p e s m below meth c s₁ hx hby hml hown hnm hret hlk hZ hh X0 e0 => ?_
  have N0 := Fr.nil n0
  rw [ef_50_55 m pi0]
  obtain ⟨T1, X1, e1, st1⟩ := getS2 X0 hx hZ hown (host := "") (Or.inl (ow hw 70)) Via.refl e0 (O2.ext OLD.2) (g := (mkF m 0 #[vI pi0] [])) rfl (hb hby d49_0)
  refine og T1 (mkF m 7 #[vI pi0] [.int pi0]) (fun _ k => st1 _ (XS.ifNo X1.here hx rfl (hb hby d49_3) rfl ((if0 _ _).trans (feq P5).1) (qi X1 hx hby d49_6 rfl rfl k))) ?_
  obtain ⟨_, T2, L2, X2, hQ2, st2⟩ := own_tc X1 hx hZ hown (ow hw 282) (ow hw 283) (rm50_55 l Z a0 hw pi0 h0 n0 OLD hp2) (ow hw 284) (ow hw 256) e1 (g := (mkF m 7 #[vI pi0] [.int pi0])) rfl (zs hml) (argsL := [.int pi0]) (rest := []) (lenOf pd_29 rfl) rfl (hb hby d49_7) (W := 0) rfl
  obtain ⟨rfl, Nq2, eq2⟩ := hQ2
  have N2 := Fr.app N0 Nq2
  refine og T2 (mkF m 13 #[vI pi0] []) (fun _ k => st2.trans (XS.ifNo X2.here hx rfl (hb hby d49_10) rfl ((if0 _ _).trans (feq (by decide : ¬ ((1 : Int32) = (0 : Int32)))).1) k)) ?_
  obtain ⟨T3, h3, X3, e3, E3, A3, D3, U3, st3⟩ := newO X2 hx hZ hown (ow hw 285) (ow hw 1) (ow hw 2) eq2 (g := (mkF m 13 #[vI pi0] [])) rfl (hb hby d49_13) (lb rfl) (lb rfl)
  obtain ⟨b3, gb3⟩ : ∃ z, z = h0.size := ⟨_, rfl⟩
  rw [← gb3] at A3 D3 U3 st3
  have g4 : n0 ≤ b3 := Nat.le_trans (own_osz OLD) (Nat.le_of_eq gb3.symm)
  have z5 : h0.size ≤ b3 := Nat.le_trans (Nat.le_refl _) (Nat.le_of_eq gb3.symm)
  refine og T3 (mkF m 18 #[vI pi0] [.int pi0, .ref b3, .ref b3]) (fun _ k => st3 _ (XS.dup X3.here hx rfl (hb hby d49_16) rfl rfl (qi X3 hx hby d49_17 rfl rfl k))) ?_
  have F6 := (OLD.ext E3)
  obtain ⟨_, T7, L7, X7, hQ7, st7⟩ := own_tc X3 hx hZ hown (ow hw 286) (ow hw 287) (rm51_56 l Z a0 hw pi0 h3 n0 F6 ) (ow hw 288) (ow hw 256) e3 (g := (mkF m 18 #[vI pi0] [.int pi0, .ref b3, .ref b3])) rfl (zs hml) (argsL := [.int pi0]) (rest := [.ref b3, .ref b3]) (lenOf pd_30 rfl) rfl (hb hby d49_18) (W := 2) rfl
  obtain ⟨o8, kc9, rfl, Nq7, K7, f10, f11⟩ := hQ7
  have N7 := Fr.app N2 Nq7
  have g12 : n0 ≤ o8 := Nat.le_trans (own_osz F6) f10
  have F14 := (Nat.le_trans (Nat.le_refl _) E3.1)
  have z13 : h0.size ≤ o8 := Nat.le_trans F14 f10
  refine og T7 (mkF m 22 #[vI pi0] [.int 0, .ref o8, .ref b3, .ref b3]) (fun _ k => st7.trans (qc X7 hx hby d49_21 rfl k)) ?_
  have F15 := (A3.keep K7)
  have F16 := ((D3 (Or.inr (ow hw 16)) (ty := (.array .byte)) (by decide)).keep K7 nin0)
  have F17 := ((D3 (Or.inr (ow hw 17)) (ty := .byte) (by decide)).keep K7 nin0)
  have F18 := (F6.keep K7 all0)
  obtain ⟨_, T19, L19, X19, hQ19, st19⟩ := own_sc X7 hx hZ rfl hown (ow hw 289) (ow hw 290) (rm52_57 l Z a0 hw b3 o8 ((0 : Int32)) (.null) ((.int 0)) T7.heap n0 F18 F15 F16 g4 F17) (ow hw 291) (ow hw 2) rfl (g := (mkF m 22 #[vI pi0] [.int 0, .ref o8, .ref b3, .ref b3])) rfl (zs hml) (argsL := [.ref o8, .int 0]) (rest := [.ref b3]) (lenOf pd_31 rfl) rfl (hb hby d49_22) (W := 1) rfl
  obtain ⟨rfl, Nq19, K19, f20, f21⟩ := hQ19
  have N19 := Fr.app N7 Nq19
  refine ot T19 (mkF m 25 #[vI pi0] [.ref b3]) st19 ?_
  have F22 := (F15.keep K19)
  have F23 := (f11.keep K19 (ninS (Ne.symm (own_ne_lo A3.lt f10)) nin0))
  have KEEP := ((((Keep.refl h0 []).ext E3).trans K7 all0).trans K19 (allS (Or.inr z5) all0))
  exact own_leaveN X19 hlk (v := some (.ref b3)) (own_nr hret) (lb rfl) (lb rfl) (by exact ⟨b3, o8, kc9, rfl, N19, KEEP, z5, z13, F22, f20, f21, F23⟩) (own_ra X19 hx hret rfl rfl rfl (hb hby d49_25))
abbrev R11_62 : Room := { frames := 0, cells := 0, slots := 0, locals := 0 }
def Q11_62 (Z : State) (ra0 ra1 : Addr) (kc2 : ClassId) (cs3 : List Int32) (h0 : Heap) (n0 : Nat) (v : Option Value) (h : Heap) (L : List Loc) : Prop := (v = none ∧ Fr n0 L ∧ h = h0)
theorem rm11_62 l Z a0 (hw : HW Z a0) ra0 ra1 kc2 (cs3 : List Int32) h0 n0 (OLD : Old Z n0 h0) (A' : Exa Z h0 ra0 cN3) (B' : Fld Z h0 ra0 cN0 "coder" "B" (.int 0)) (C' : Fld Z h0 ra0 cN0 "count" "I" (.int 12)) (D' : Fld Z h0 ra0 cN0 "value" "[B" (.ref ra1)) (E' : cs3.length = 12) (F' : own_L cs3) (G' : Arv Z h0 ra1 kc2 .byte (16 : Int32) (own_by cs3) (.int 0)) :
    own_CN l Z y4 jdk_68_method_9_code 3 none [] R11_62 #[.ref ra0, .int 13] h0 (Q11_62 Z ra0 ra1 kc2 cs3 h0 n0) := by
  refine own_entryN (plainFor_of_name pn_1) fun p e s m below meth c s₁ hx hby hml hown hnm hret hlk hZ hh X0 e0 => ?_
  have N0 := Fr.nil n0
  rw [ef_11_62 m ra0]
  refine og s₁ (mkF m 1 #[vR ra0, vI 13, vU] [.ref ra0]) (fun _ k => qa X0 hx hby d11_0 rfl rfl rfl k) ?_
  obtain ⟨T1, X1, e1, st1⟩ := qf X0 hx hZ hown (ow hw 45) e0 D' (g := (mkF m 1 #[vR ra0, vI 13, vU] [.ref ra0])) rfl rfl hby d11_1
  refine og T1 (mkF m 4 #[vR ra0, vI 13, vU] [.ref ra1]) st1 ?_
  obtain ⟨cl2, Ar2, -, Sr2, Nr2, -, -⟩ := id G'
  refine og T1 (mkF m 5 #[vR ra0, vI 13, vU] [.int 16]) (fun t k => X1.arraylength hx (by rw [e1]; exact Ar2.1) (State.isArrayOf_alike hZ.alike Ar2.2.1) (g := (mkF m 4 #[vR ra0, vI 13, vU] [.ref ra1])) rfl rfl (hb hby d11_4) t (by rw [len_of Sr2 Nr2]; exact k)) ?_
  refine og T1 (mkF m 6 #[vR ra0, vI 13, vU] [.ref ra0, .int 16]) (fun _ k => qa X1 hx hby d11_5 rfl rfl rfl k) ?_
  obtain ⟨T3, X3, e3, st3⟩ := qf X1 hx hZ hown (ow hw 47) e1 B' (g := (mkF m 6 #[vR ra0, vI 13, vU] [.ref ra0, .int 16])) rfl rfl hby d11_6
  refine og T3 (mkF m 10 #[vR ra0, vI 13, vU] [.int 16]) (fun _ k => st3 _ (XS.ishr X3.here hx rfl (hb hby d11_9) rfl (by rw [show ((16 : Int32) >>> ((0 : Int32) &&& 31)) = (16 : Int32) from by decide]; exact k))) ?_
  refine og T3 (mkF m 38 #[vR ra0, vI 13, vI 16] []) (fun _ k => XS.istoreN X3.here hx rfl (hb hby d11_10) rfl (l' := #[vR ra0, vI 13, vI 16]) rfl (qi X3 hx hby d11_11 rfl rfl (qi X3 hx hby d11_12 rfl rfl (XS.isub X3.here hx rfl (hb hby d11_13) rfl (XS.ifYes X3.here hx rfl (pc0 := 14) (pc' := 38) rfl (hb hby d11_14) rfl ((if0 _ _).trans (flt (by decide : ¬ ((0 : Int32) < (-3 : Int32)))).2.2.2) (by decide) (by decide) k))))) ?_
  exact own_leaveN X3 hlk (v := none) (fun _ => rfl) (lb rfl) (lb rfl) (by rw [e3]; exact ⟨rfl, N0, rfl⟩) (fun fs hr => X3.returnOut hx hret (hb hby d11_38) hr)
abbrev R14_64 : Room := { frames := 1, cells := 0, slots := 0, locals := 18 }
def Q14_64 (Z : State) (ra0 ra1 : Addr) (kc2 : ClassId) (cs3 : List Int32) (ra4 : Addr) (kc5 : ClassId) (cs6 : List Int32) (G1 : Int32) (h0 : Heap) (n0 : Nat) (v : Option Value) (h : Heap) (L : List Loc) : Prop := (v = none ∧ Fr n0 L ∧ Keep h0 h [ra4] ∧ Arv Z h ra4 kc5 .byte (16 : Int32) (own_by (cs6 ++ cs3)) (.int 0))
theorem rm14_64 l Z a0 (hw : HW Z a0) ra0 ra1 kc2 (cs3 : List Int32) ra4 kc5 (cs6 : List Int32) (G1 : Int32) h0 n0 (OLD : Old Z n0 h0) (A' : Exa Z h0 ra0 cN1) (B' : Fld Z h0 ra0 cN1 "coder" "B" (.int 0)) (C' : Fld Z h0 ra0 cN1 "value" "[B" (.ref ra1)) (D' : cs3.length = 1) (E' : own_L cs3) (F' : Arv Z h0 ra1 kc2 .byte (1 : Int32) (own_by cs3) (.int 0)) (G' : cs6.length = 12) (H' : own_L cs6) (I' : Arv Z h0 ra4 kc5 .byte (16 : Int32) (own_by cs6) (.int 0)) (O2 : Sta Z Z.heap cN1 "COMPACT_STRINGS" "Z" (.int G1)) (P5 : ¬ (G1 = (0 : Int32))) (J' : n0 ≤ ra4) :
    own_CN l Z y7 jdk_42_method_147_code 4 none [] R14_64 #[.ref ra0, .ref ra4, .int 12, .int 0] h0 (Q14_64 Z ra0 ra1 kc2 cs3 ra4 kc5 cs6 G1 h0 n0) := by
  refine own_entryN (plainFor_of_name pn_0) fun p e s m below meth c s₁ hx hby hml hown hnm hret hlk hZ hh X0 e0 => ?_
  have N0 := Fr.nil n0
  rw [ef_14_21 m ra0 ra4]
  refine og s₁ (mkF m 1 #[vR ra0, vR ra4, vI 12, vI 0] [.ref ra0]) (fun _ k => qa X0 hx hby d14_0 rfl rfl rfl k) ?_
  obtain ⟨_, T1, L1, X1, hQ1, st1⟩ := own_vc X0 hx hZ hown (ow hw 65) (ow hw 66) (ow hw 68) (ow hw 67) A' (rm10_15 l Z a0 hw ra0 G1 ((0 : Int32)) h0 n0 OLD O2 P5 B') (ow hw 69) (ow hw 2) e0 (g := (mkF m 1 #[vR ra0, vR ra4, vI 12, vI 0] [.ref ra0])) rfl (zs hml) (argsL := []) (rest := []) (lenOf pd_4 rfl) rfl (hb hby d14_1) (W := 0) rfl
  obtain ⟨rfl, Nq1, eq1⟩ := hQ1
  have N1 := Fr.app N0 Nq1
  refine og T1 (mkF m 9 #[vR ra0, vR ra4, vI 12, vI 0] [.ref ra0]) (fun _ k => st1.trans (qi X1 hx hby d14_4 rfl rfl (qn X1 hx hby d14_5 rfl rfl (tq 0) (qa X1 hx hby d14_8 rfl rfl rfl k)))) ?_
  obtain ⟨T2, X2, e2, st2⟩ := qf X1 hx hZ hown (ow hw 20) eq1 C' (g := (mkF m 9 #[vR ra0, vR ra4, vI 12, vI 0] [.ref ra0])) rfl rfl hby d14_9
  refine og T2 (mkF m 16 #[vR ra0, vR ra4, vI 12, vI 0] [.int 0, .int 12, .ref ra4, .int 0, .ref ra1]) (fun _ k => st2 _ (qc X2 hx hby d14_12 rfl (qa X2 hx hby d14_13 rfl rfl rfl (qi X2 hx hby d14_14 rfl rfl (qi X2 hx hby d14_15 rfl rfl k))))) ?_
  refine og T2 (mkF m 17 #[vR ra0, vR ra4, vI 12, vI 0] [.int 12, .ref ra4, .int 0, .ref ra1]) (fun _ k => XS.ishl X2.here hx rfl (hb hby d14_16) rfl (by rw [show ((12 : Int32) <<< ((0 : Int32) &&& 31)) = (12 : Int32) from by decide]; exact k)) ?_
  refine og T2 (mkF m 18 #[vR ra0, vR ra4, vI 12, vI 0] [.ref ra0, .int 12, .ref ra4, .int 0, .ref ra1]) (fun _ k => qa X2 hx hby d14_17 rfl rfl rfl k) ?_
  obtain ⟨T3, X3, e3, st3⟩ := qf X2 hx hZ hown (ow hw 20) e2 C' (g := (mkF m 18 #[vR ra0, vR ra4, vI 12, vI 0] [.ref ra0, .int 12, .ref ra4, .int 0, .ref ra1])) rfl rfl hby d14_18
  refine og T3 (mkF m 21 #[vR ra0, vR ra4, vI 12, vI 0] [.ref ra1, .int 12, .ref ra4, .int 0, .ref ra1]) st3 ?_
  obtain ⟨cl4, Ar4, -, Sr4, Nr4, -, -⟩ := id F'
  refine og T3 (mkF m 22 #[vR ra0, vR ra4, vI 12, vI 0] [.int 1, .int 12, .ref ra4, .int 0, .ref ra1]) (fun t k => X3.arraylength hx (by rw [e3]; exact Ar4.1) (State.isArrayOf_alike hZ.alike Ar4.2.1) (g := (mkF m 21 #[vR ra0, vR ra4, vI 12, vI 0] [.ref ra1, .int 12, .ref ra4, .int 0, .ref ra1])) rfl rfl (hb hby d14_21) t (by rw [len_of Sr4 Nr4]; exact k)) ?_
  obtain ⟨T5, h5, L5, X5, e5, N5, K5, Vq5, st5⟩ := own_cpB X3 hx hZ hown (ow hw 94) (ow hw 97) (ow hw 95) (ow hw 96) e3 F' I' (sp := (0 : Int32)) (dp := (12 : Int32)) (nn := (1 : Int32)) rfl (by decide) (by decide) (by decide) (by decide) (show _ = _ from G') ((Eq.symm D') ▸ lb rfl) N1 J' (g := (mkF m 22 #[vR ra0, vR ra4, vI 12, vI 0] [.int 1, .int 12, .ref ra4, .int 0, .ref ra1])) rfl (zs hml) rfl (hb hby d14_22) (lb rfl) (W := 0) (lb rfl) (lb rfl)
  have V5 : Arv Z h5 ra4 kc5 .byte (16 : Int32) (own_by (cs6 ++ cs3)) (.int 0) := Vq5
  refine og T5 (mkF m 43 #[vR ra0, vR ra4, vI 12, vI 0] []) (fun _ k => st5 _ (XS.goto X5.here hx rfl (pc0 := 25) (pc' := 43) rfl (hb hby d14_25) (by decide) (by decide) k)) ?_
  have KEEP := ((Keep.refl h0 [ra4]).trans K5 (allS (Or.inl (List.mem_of_getElem? (i := 0) rfl)) all0))
  exact own_leaveN X5 hlk (v := none) (fun _ => rfl) (lb rfl) (lb rfl) (by rw [e5]; exact ⟨rfl, N5, KEEP, V5⟩) (fun fs hr => X5.returnOut hx hret (hb hby d14_43) hr)
abbrev R12_63 : Room := { frames := 2, cells := 0, slots := 0, locals := 33 }
def Q12_63 (Z : State) (ra0 ra1 : Addr) (kc2 : ClassId) (cs3 : List Int32) (ra4 ra5 : Addr) (kc6 : ClassId) (cs7 : List Int32) (G1 : Int32) (h0 : Heap) (n0 : Nat) (v : Option Value) (h : Heap) (L : List Loc) : Prop := (v = none ∧ Fr n0 L ∧ Keep h0 h [ra1] ∧ Arv Z h ra1 kc2 .byte (16 : Int32) (own_by (cs3 ++ cs7)) (.int 0))
theorem rm12_63 l Z a0 (hw : HW Z a0) ra0 ra1 kc2 (cs3 : List Int32) ra4 ra5 kc6 (cs7 : List Int32) (G1 : Int32) h0 n0 (OLD : Old Z n0 h0) (A' : Exa Z h0 ra0 cN3) (B' : Fld Z h0 ra0 cN0 "coder" "B" (.int 0)) (C' : Fld Z h0 ra0 cN0 "count" "I" (.int 12)) (D' : Fld Z h0 ra0 cN0 "value" "[B" (.ref ra1)) (E' : cs3.length = 12) (F' : own_L cs3) (G' : Arv Z h0 ra1 kc2 .byte (16 : Int32) (own_by cs3) (.int 0)) (H' : Exa Z h0 ra4 cN1) (I' : Fld Z h0 ra4 cN1 "coder" "B" (.int 0)) (J' : Fld Z h0 ra4 cN1 "value" "[B" (.ref ra5)) (K' : cs7.length = 1) (L' : own_L cs7) (M' : Arv Z h0 ra5 kc6 .byte (1 : Int32) (own_by cs7) (.int 0)) (O2 : Sta Z Z.heap cN1 "COMPACT_STRINGS" "Z" (.int G1)) (P5 : ¬ (G1 = (0 : Int32))) (N' : n0 ≤ ra1) :
    own_CN l Z y8 jdk_68_method_73_code 3 none [] R12_63 #[.ref ra0, .int 12, .ref ra4] h0 (Q12_63 Z ra0 ra1 kc2 cs3 ra4 ra5 kc6 cs7 G1 h0 n0) := by
  refine own_entryN (plainFor_of_name pn_1) fun p e s m below meth c s₁ hx hby hml hown hnm hret hlk hZ hh X0 e0 => ?_
  have N0 := Fr.nil n0
  rw [ef_12_20 m ra0 ra4]
  refine og s₁ (mkF m 2 #[vR ra0, vI 12, vR ra4] [.ref ra4, .ref ra0]) (fun _ k => qa X0 hx hby d12_0 rfl rfl rfl (qa X0 hx hby d12_1 rfl rfl rfl k)) ?_
  obtain ⟨_, T1, L1, X1, hQ1, st1⟩ := own_pc X0 hx hZ hown (ow hw 83) (ow hw 86) (ow hw 84) (ow hw 85) A' (rm13_14 l Z a0 hw ra0 ra4 G1 ((0 : Int32)) ((0 : Int32)) h0 n0 OLD O2 P5 B' I' H' (by decide : (0 : Int32) = (0 : Int32))) (ow hw 87) (ow hw 41) e0 (g := (mkF m 2 #[vR ra0, vI 12, vR ra4] [.ref ra4, .ref ra0])) rfl (zs hml) (argsL := [.ref ra4]) (rest := []) (lenOf pd_5 rfl) rfl (hb hby d12_2) (W := 0) rfl
  obtain ⟨rfl, Nq1, eq1⟩ := hQ1
  have N1 := Fr.app N0 Nq1
  refine og T1 (mkF m 7 #[vR ra0, vI 12, vR ra4] [.ref ra0, .ref ra4]) (fun _ k => st1.trans (qa X1 hx hby d12_5 rfl rfl rfl (qa X1 hx hby d12_6 rfl rfl rfl k))) ?_
  obtain ⟨T2, X2, e2, st2⟩ := qf X1 hx hZ hown (ow hw 45) eq1 D' (g := (mkF m 7 #[vR ra0, vI 12, vR ra4] [.ref ra0, .ref ra4])) rfl rfl hby d12_7
  refine og T2 (mkF m 12 #[vR ra0, vI 12, vR ra4] [.ref ra0, .int 12, .ref ra1, .ref ra4]) (fun _ k => st2 _ (qi X2 hx hby d12_10 rfl rfl (qa X2 hx hby d12_11 rfl rfl rfl k))) ?_
  obtain ⟨T3, X3, e3, st3⟩ := qf X2 hx hZ hown (ow hw 47) e2 B' (g := (mkF m 12 #[vR ra0, vI 12, vR ra4] [.ref ra0, .int 12, .ref ra1, .ref ra4])) rfl rfl hby d12_12
  refine og T3 (mkF m 15 #[vR ra0, vI 12, vR ra4] [.int 0, .int 12, .ref ra1, .ref ra4]) st3 ?_
  obtain ⟨_, T4, L4, X4, hQ4, st4⟩ := own_vc X3 hx hZ hown (ow hw 89) (ow hw 90) (ow hw 92) (ow hw 91) H' (rm14_64 l Z a0 hw ra4 ra5 kc6 cs7 ra1 kc2 cs3 G1 h0 n0 OLD H' I' J' K' L' M' E' F' G' O2 P5 N') (ow hw 93) (ow hw 2) e3 (g := (mkF m 15 #[vR ra0, vI 12, vR ra4] [.int 0, .int 12, .ref ra1, .ref ra4])) rfl (zs hml) (argsL := [.ref ra1, .int 12, .int 0]) (rest := []) (lenOf pd_6 rfl) rfl (hb hby d12_15) (W := 0) rfl
  obtain ⟨rfl, Nq4, K4, f5⟩ := hQ4
  have N4 := Fr.app N1 Nq4
  refine ot T4 (mkF m 18 #[vR ra0, vI 12, vR ra4] []) st4 ?_
  have KEEP := ((Keep.refl h0 [ra1]).trans K4 (allS (Or.inl (List.mem_of_getElem? (i := 0) rfl)) all0))
  exact own_leaveN X4 hlk (v := none) (fun _ => rfl) (lb rfl) (lb rfl) (by exact ⟨rfl, N4, KEEP, f5⟩) (fun fs hr => X4.returnOut hx hret (hb hby d12_18) hr)
abbrev R8_61 : Room := { frames := 3, cells := 0, slots := 0, locals := 47 }
def Q8_61 (Z : State) (ra0 ra1 : Addr) (kc2 : ClassId) (cs3 : List Int32) (ra4 ra5 : Addr) (kc6 : ClassId) (cs7 : List Int32) (G1 : Int32) (h0 : Heap) (n0 : Nat) (v : Option Value) (h : Heap) (L : List Loc) : Prop := (v = some (.ref ra0) ∧ Fr n0 L ∧ Keep h0 h [ra1, ra0] ∧ Arv Z h ra1 kc2 .byte (16 : Int32) (own_by (cs3 ++ cs7)) (.int 0) ∧ Fld Z h ra0 cN0 "coder" "B" (.int 0) ∧ Fld Z h ra0 cN0 "count" "I" (.int 13) ∧ Fld Z h ra0 cN0 "value" "[B" (.ref ra1))
theorem rm8_61 l Z a0 (hw : HW Z a0) ra0 ra1 kc2 (cs3 : List Int32) ra4 ra5 kc6 (cs7 : List Int32) (G1 : Int32) h0 n0 (OLD : Old Z n0 h0) (A' : Exa Z h0 ra0 cN3) (B' : Fld Z h0 ra0 cN0 "coder" "B" (.int 0)) (C' : Fld Z h0 ra0 cN0 "count" "I" (.int 12)) (D' : Fld Z h0 ra0 cN0 "value" "[B" (.ref ra1)) (E' : cs3.length = 12) (F' : own_L cs3) (G' : Arv Z h0 ra1 kc2 .byte (16 : Int32) (own_by cs3) (.int 0)) (H' : Exa Z h0 ra4 cN1) (I' : Fld Z h0 ra4 cN1 "coder" "B" (.int 0)) (J' : Fld Z h0 ra4 cN1 "value" "[B" (.ref ra5)) (K' : cs7.length = 1) (L' : own_L cs7) (M' : Arv Z h0 ra5 kc6 .byte (1 : Int32) (own_by cs7) (.int 0)) (O2 : Sta Z Z.heap cN1 "COMPACT_STRINGS" "Z" (.int G1)) (P5 : ¬ (G1 = (0 : Int32))) (N' : n0 ≤ ra1) (ne_ra0_ra1 : ra0 ≠ ra1) (P' : n0 ≤ ra0) :
    own_CN l Z y9 jdk_68_method_22_code 3 (some (.object cN0)) [] R8_61 #[.ref ra0, .ref ra4] h0 (Q8_61 Z ra0 ra1 kc2 cs3 ra4 ra5 kc6 cs7 G1 h0 n0) := by
  refine own_entryN (plainFor_of_name pn_1) fun p e s m below meth c s₁ hx hby hml hown hnm hret hlk hZ hh X0 e0 => ?_
  have N0 := Fr.nil n0
  rw [ef_8_11 m ra0 ra4]
  refine og s₁ (mkF m 10 #[vR ra0, vR ra4, vU] [.ref ra4]) (fun _ k => qa X0 hx hby d8_0 rfl rfl rfl (XS.ifnonnullYes X0.here hx rfl (pc0 := 1) (pc' := 9) rfl (hb hby d8_1) rfl (by decide) (by decide) (qa X0 hx hby d8_9 rfl rfl rfl k))) ?_
  obtain ⟨T1, X1, e1, st1⟩ := own_lenA X0 hx hZ hown (ow hw 60) hw H' J' I' M' K' L' e0 (O2.ext OLD.2) P5 (g := (mkF m 10 #[vR ra0, vR ra4, vU] [.ref ra4])) rfl (zs hml) (rest := []) rfl (hb hby d8_10) (W := 0) rfl
  refine og T1 (mkF m 16 #[vR ra0, vR ra4, vI 1] [.ref ra0, .ref ra0]) (fun _ k => st1 _ (XS.istoreN X1.here hx rfl (hb hby d8_13) rfl (l' := #[vR ra0, vR ra4, vI 1]) rfl (qa X1 hx hby d8_14 rfl rfl rfl (qa X1 hx hby d8_15 rfl rfl rfl k)))) ?_
  obtain ⟨T2, X2, e2, st2⟩ := qf X1 hx hZ hown (ow hw 71) e1 C' (g := (mkF m 16 #[vR ra0, vR ra4, vI 1] [.ref ra0, .ref ra0])) rfl rfl hby d8_16
  refine og T2 (mkF m 21 #[vR ra0, vR ra4, vI 1] [.int 13, .ref ra0]) (fun _ k => st2 _ (qi X2 hx hby d8_19 rfl rfl (qp X2 hx hby d8_20 rfl rfl k))) ?_
  obtain ⟨_, T3, L3, X3, hQ3, st3⟩ := own_pc X2 hx hZ hown (ow hw 73) (ow hw 76) (ow hw 74) (ow hw 75) A' (rm11_62 l Z a0 hw ra0 ra1 kc2 cs3 h0 n0 OLD A' B' C' D' E' F' G') (ow hw 77) (ow hw 41) e2 (g := (mkF m 21 #[vR ra0, vR ra4, vI 1] [.int 13, .ref ra0])) rfl (zs hml) (argsL := [.int 13]) (rest := []) (lenOf pd_2 rfl) rfl (hb hby d8_21) (W := 0) rfl
  obtain ⟨rfl, Nq3, eq3⟩ := hQ3
  have N3 := Fr.app N0 Nq3
  refine og T3 (mkF m 26 #[vR ra0, vR ra4, vI 1] [.ref ra0, .ref ra0]) (fun _ k => st3.trans (qa X3 hx hby d8_24 rfl rfl rfl (qa X3 hx hby d8_25 rfl rfl rfl k))) ?_
  obtain ⟨T4, X4, e4, st4⟩ := qf X3 hx hZ hown (ow hw 71) eq3 C' (g := (mkF m 26 #[vR ra0, vR ra4, vI 1] [.ref ra0, .ref ra0])) rfl rfl hby d8_26
  refine og T4 (mkF m 30 #[vR ra0, vR ra4, vI 1] [.ref ra4, .int 12, .ref ra0]) (fun _ k => st4 _ (qa X4 hx hby d8_29 rfl rfl rfl k)) ?_
  obtain ⟨_, T5, L5, X5, hQ5, st5⟩ := own_pc X4 hx hZ hown (ow hw 78) (ow hw 81) (ow hw 79) (ow hw 80) A' (rm12_63 l Z a0 hw ra0 ra1 kc2 cs3 ra4 ra5 kc6 cs7 G1 h0 n0 OLD A' B' C' D' E' F' G' H' I' J' K' L' M' O2 P5 N') (ow hw 82) (ow hw 41) e4 (g := (mkF m 30 #[vR ra0, vR ra4, vI 1] [.ref ra4, .int 12, .ref ra0])) rfl (zs hml) (argsL := [.int 12, .ref ra4]) (rest := []) (lenOf pd_7 rfl) rfl (hb hby d8_30) (W := 0) rfl
  obtain ⟨rfl, Nq5, K5, f6⟩ := hQ5
  have N5 := Fr.app N3 Nq5
  refine og T5 (mkF m 35 #[vR ra0, vR ra4, vI 1] [.ref ra0, .ref ra0]) (fun _ k => st5.trans (qa X5 hx hby d8_33 rfl rfl rfl (XS.dup X5.here hx rfl (hb hby d8_34) rfl rfl k))) ?_
  have F7 := (C'.keep K5 (ninS ne_ra0_ra1 nin0))
  obtain ⟨T8, X8, e8, st8⟩ := qf X5 hx hZ hown (ow hw 71) rfl F7 (g := (mkF m 35 #[vR ra0, vR ra4, vI 1] [.ref ra0, .ref ra0])) rfl rfl hby d8_35
  refine og T8 (mkF m 40 #[vR ra0, vR ra4, vI 1] [.int 13, .ref ra0]) (fun _ k => st8 _ (qi X8 hx hby d8_38 rfl rfl (qp X8 hx hby d8_39 rfl rfl k))) ?_
  have F9 := (A'.keep K5)
  obtain ⟨T10, h10, X10, e10, W10, st10⟩ := putF X8 hx hZ hown (host := "") (Or.inl (ow hw 71)) Via.refl e8 F7 F9 (Or.inl (ow hw 72)) (ow hw 32) (ty := .int) (by decide) rfl rfl (g := (mkF m 40 #[vR ra0, vR ra4, vI 1] [.int 13, .ref ra0])) rfl rfl (hb hby d8_40)
  have Fw10 := F7.same W10
  have N10 := Fr.snoc X10 N5 P'
  refine og T10 (mkF m 44 #[vR ra0, vR ra4, vI 1] [.ref ra0]) (fun _ k => st10 _ (qa X10 hx hby d8_43 rfl rfl rfl k)) ?_
  have F11 := (f6.other W10 (Ne.symm ne_ra0_ra1))
  have F12 := ((B'.keep K5 (ninS ne_ra0_ra1 nin0)).other W10 (Or.inr (slot_ne (Or.inl (ow hw 48)) (Or.inl (ow hw 72)) (by decide) (t := .byte) (t' := .int) (by decide) (by decide))))
  have F13 := ((D'.keep K5 (ninS ne_ra0_ra1 nin0)).other W10 (Or.inr (slot_ne (Or.inl (ow hw 46)) (Or.inl (ow hw 72)) (by decide) (t := (.array .byte)) (t' := .int) (by decide) (by decide))))
  have KEEP := (((Keep.refl h0 [ra1, ra0]).trans K5 (allS (Or.inl (List.mem_of_getElem? (i := 0) rfl)) all0)).wr W10 (Or.inl (List.mem_of_getElem? (i := 1) rfl)))
  exact own_leaveN X10 hlk (v := some (.ref ra0)) (own_nr hret) (lb rfl) (lb rfl) (by rw [e10]; exact ⟨rfl, N10, KEEP, F11, F12, Fw10, F13⟩) (own_ra X10 hx hret rfl rfl rfl (hb hby d8_44))
abbrev R7_60 : Room := { frames := 4, cells := 0, slots := 0, locals := 61 }
def Q7_60 (Z : State) (ra0 ra1 : Addr) (kc2 : ClassId) (cs3 : List Int32) (ra4 ra5 : Addr) (kc6 : ClassId) (cs7 : List Int32) (G1 : Int32) (h0 : Heap) (n0 : Nat) (v : Option Value) (h : Heap) (L : List Loc) : Prop := (v = some (.ref ra0) ∧ Fr n0 L ∧ Keep h0 h [ra1, ra0] ∧ Arv Z h ra1 kc2 .byte (16 : Int32) (own_by (cs3 ++ cs7)) (.int 0) ∧ Fld Z h ra0 cN0 "coder" "B" (.int 0) ∧ Fld Z h ra0 cN0 "count" "I" (.int 13) ∧ Fld Z h ra0 cN0 "value" "[B" (.ref ra1))
theorem rm7_60 l Z a0 (hw : HW Z a0) ra0 ra1 kc2 (cs3 : List Int32) ra4 ra5 kc6 (cs7 : List Int32) (G1 : Int32) h0 n0 (OLD : Old Z n0 h0) (A' : Exa Z h0 ra0 cN3) (B' : Fld Z h0 ra0 cN0 "coder" "B" (.int 0)) (C' : Fld Z h0 ra0 cN0 "count" "I" (.int 12)) (D' : Fld Z h0 ra0 cN0 "value" "[B" (.ref ra1)) (E' : cs3.length = 12) (F' : own_L cs3) (G' : Arv Z h0 ra1 kc2 .byte (16 : Int32) (own_by cs3) (.int 0)) (H' : Exa Z h0 ra4 cN1) (I' : Fld Z h0 ra4 cN1 "coder" "B" (.int 0)) (J' : Fld Z h0 ra4 cN1 "value" "[B" (.ref ra5)) (K' : cs7.length = 1) (L' : own_L cs7) (M' : Arv Z h0 ra5 kc6 .byte (1 : Int32) (own_by cs7) (.int 0)) (O2 : Sta Z Z.heap cN1 "COMPACT_STRINGS" "Z" (.int G1)) (P5 : ¬ (G1 = (0 : Int32))) (N' : n0 ≤ ra1) (ne_ra0_ra1 : ra0 ≠ ra1) (P' : n0 ≤ ra0) :
    own_CN l Z y10 jdk_67_method_7_code 2 (some (.object cN3)) [] R7_60 #[.ref ra0, .ref ra4] h0 (Q7_60 Z ra0 ra1 kc2 cs3 ra4 ra5 kc6 cs7 G1 h0 n0) := by
  refine own_entryN (plainFor_of_name pn_2) fun p e s m below meth c s₁ hx hby hml hown hnm hret hlk hZ hh X0 e0 => ?_
  have N0 := Fr.nil n0
  rw [ef_1_5 m ra0 ra4]
  refine og s₁ (mkF m 2 #[vR ra0, vR ra4] [.ref ra4, .ref ra0]) (fun _ k => qa X0 hx hby d7_0 rfl rfl rfl (qa X0 hx hby d7_1 rfl rfl rfl k)) ?_
  obtain ⟨_, _, ⟨T2, L2, k2, n2⟩, -, X2, ⟨Lc2, hQ2, l2, y2, z2⟩, st2⟩ := superBack X0 hx hZ (y := y9) hown (ow hw 55) (own_same (z := y4) (ow hw 76) (ow hw 56) rfl (by decide)) (ow hw 56) (ow hw 57) (by decide) (backOf (W := 0) (rm8_61 l Z a0 hw ra0 ra1 kc2 cs3 ra4 ra5 kc6 cs7 G1 h0 n0 OLD A' B' C' D' E' F' G' H' I' J' K' L' M' O2 P5 N' ne_ra0_ra1 P') hZ (ow hw 59) (ow hw 41) (lb rfl) (lb rfl)) e0 (Ins.self A') (g := (mkF m 2 #[vR ra0, vR ra4] [.ref ra4, .ref ra0])) rfl (zs hml) (ow hw 59) (argsL := [.ref ra4]) (rest := []) (lenOf pd_8 rfl) rfl (lb rfl) (hb hby d7_2) (fun _ _ => ⟨rfl, e0, (lb rfl), (lb rfl)⟩)
  dsimp only [Pt.U, Pt.locs, Pt.cells, Pt.slots] at X2 l2 y2 z2 st2 hQ2
  subst l2 y2 z2
  obtain ⟨rfl, Nq2, K2, f3, f4, f5, f6⟩ := hQ2
  have N2 := Fr.app N0 Nq2
  refine og T2 (mkF m 7 #[vR ra0, vR ra4] [.ref ra0]) (fun _ k => st2.trans (XS.pop X2.here hx rfl (hb hby d7_5) rfl rfl (qa X2 hx hby d7_6 rfl rfl rfl k))) ?_
  have KEEP := ((Keep.refl h0 [ra1, ra0]).trans K2 (allS (Or.inl (List.mem_of_getElem? (i := 0) rfl)) (allS (Or.inl (List.mem_of_getElem? (i := 1) rfl)) all0)))
  exact own_leaveN X2 hlk (v := some (.ref ra0)) (own_nr hret) (lb rfl) (lb rfl) (by exact ⟨rfl, N2, KEEP, f3, f4, f5, f6⟩) (own_ra X2 hx hret rfl rfl rfl (hb hby d7_7))
abbrev R17_70 : Room := { frames := 0, cells := 0, slots := 0, locals := 0 }
def Q17_70 (Z : State)  (h0 : Heap) (n0 : Nat) (v : Option Value) (h : Heap) (L : List Loc) : Prop := (v = some (.int 18) ∧ Fr n0 L ∧ h = h0)
theorem rm17_70 l Z a0 (hw : HW Z a0)  h0 n0 (OLD : Old Z n0 h0) :
    own_CN l Z y11 jdk_29_method_65_code 2 (some .int) [] R17_70 #[.int 12, .int 18] h0 (Q17_70 Z  h0 n0) := by
  refine own_entryN (Jvm.Free.JP.mathPlain rfl (by decide +kernel)) fun p e s m below meth c s₁ hx hby hml hown hnm hret hlk hZ hh X0 e0 => ?_
  have N0 := Fr.nil n0
  rw [ef_17_70 m ]
  refine og s₁ (mkF m 10 #[vI 12, vI 18] [.int 18]) (fun _ k => qi X0 hx hby d17_0 rfl rfl (qi X0 hx hby d17_1 rfl rfl (XS.icmpYes X0.here hx rfl (pc0 := 2) (pc' := 9) rfl (hb hby d17_2) rfl (tlt (by decide : (12 : Int32) < (18 : Int32))).1 (by decide) (by decide) (qi X0 hx hby d17_9 rfl rfl k)))) ?_
  exact own_leaveN X0 hlk (v := some (.int 18)) (own_nr hret) (lb rfl) (lb rfl) (by rw [e0]; exact ⟨rfl, N0, rfl⟩) (fun fs hr => retI X0 hx hret (hb hby d17_10) hr)
abbrev R16_69 : Room := { frames := 1, cells := 0, slots := 0, locals := 14 }
def Q16_69 (Z : State)  (h0 : Heap) (n0 : Nat) (v : Option Value) (h : Heap) (L : List Loc) : Prop := (v = some (.int 34) ∧ Fr n0 L ∧ h = h0)
theorem rm16_69 l Z a0 (hw : HW Z a0)  h0 n0 (OLD : Old Z n0 h0) :
    own_CN l Z y12 jdk_48_method_27_code 4 (some .int) [] R16_69 #[.int 16, .int 12, .int 18] h0 (Q16_69 Z  h0 n0) := by
  refine own_entryN (plainFor_of_name pn_3) fun p e s m below meth c s₁ hx hby hml hown hnm hret hlk hZ hh X0 e0 => ?_
  have N0 := Fr.nil n0
  rw [ef_16_69 m ]
  refine og s₁ (mkF m 3 #[vI 16, vI 12, vI 18, vU] [.int 18, .int 12, .int 16]) (fun _ k => qi X0 hx hby d16_0 rfl rfl (qi X0 hx hby d16_1 rfl rfl (qi X0 hx hby d16_2 rfl rfl k))) ?_
  obtain ⟨_, T1, L1, X1, hQ1, st1⟩ := own_tc X0 hx hZ hown (ow hw 108) (ow hw 109) (rm17_70 l Z a0 hw  h0 n0 OLD ) (ow hw 111) (ow hw 110) e0 (g := (mkF m 3 #[vI 16, vI 12, vI 18, vU] [.int 18, .int 12, .int 16])) rfl (zs hml) (argsL := [.int 12, .int 18]) (rest := [.int 16]) (lenOf pd_10 rfl) rfl (hb hby d16_3) (W := 1) rfl
  obtain ⟨rfl, Nq1, eq1⟩ := hQ1
  have N1 := Fr.app N0 Nq1
  refine og T1 (mkF m 14 #[vI 16, vI 12, vI 18, vI 34] [.int 34]) (fun _ k => st1.trans (qp X1 hx hby d16_6 rfl rfl (XS.istoreN X1.here hx rfl (hb hby d16_7) rfl (l' := #[vI 16, vI 12, vI 18, vI 34]) rfl (qc X1 hx hby d16_8 rfl (qi X1 hx hby d16_9 rfl rfl (qn X1 hx hby d16_10 rfl rfl (tlt (by decide : (0 : Int32) < (34 : Int32))).2.1 (qi X1 hx hby d16_13 rfl rfl k))))))) ?_
  refine og T1 (mkF m 16 #[vI 16, vI 12, vI 18, vI 34] [.int 2147483639, .int 34]) (fun t k => X1.ldcInt hx hown (mvT hZ (ow hw 112)) (g := (mkF m 14 #[vI 16, vI 12, vI 18, vI 34] [.int 34])) rfl (hb hby d16_14) t k) ?_
  refine og T1 (mkF m 20 #[vI 16, vI 12, vI 18, vI 34] [.int 34]) (fun _ k => qn X1 hx hby d16_16 rfl rfl (flt (by decide : ¬ ((2147483639 : Int32) < (34 : Int32)))).2.2.1 (qi X1 hx hby d16_19 rfl rfl k)) ?_
  exact own_leaveN X1 hlk (v := some (.int 34)) (own_nr hret) (lb rfl) (lb rfl) (by rw [eq1]; exact ⟨rfl, N1, rfl⟩) (fun fs hr => retI X1 hx hret (hb hby d16_20) hr)
abbrev R15_68 : Room := { frames := 2, cells := 0, slots := 0, locals := 29 }
def Q15_68 (Z : State) (ra0 ra1 : Addr) (kc2 : ClassId) (cs3 : List Int32) (h0 : Heap) (n0 : Nat) (v : Option Value) (h : Heap) (L : List Loc) : Prop := (v = some (.int 34) ∧ Fr n0 L ∧ h = h0)
theorem rm15_68 l Z a0 (hw : HW Z a0) ra0 ra1 kc2 (cs3 : List Int32) h0 n0 (OLD : Old Z n0 h0) (A' : Exa Z h0 ra0 cN3) (B' : Fld Z h0 ra0 cN0 "coder" "B" (.int 0)) (C' : Fld Z h0 ra0 cN0 "count" "I" (.int 13)) (D' : Fld Z h0 ra0 cN0 "value" "[B" (.ref ra1)) (E' : cs3.length = 13) (F' : own_L cs3) (G' : Arv Z h0 ra1 kc2 .byte (16 : Int32) (own_by cs3) (.int 0)) :
    own_CN l Z y13 jdk_68_method_10_code 6 (some .int) [] R15_68 #[.ref ra0, .int 28] h0 (Q15_68 Z ra0 ra1 kc2 cs3 h0 n0) := by
  refine own_entryN (plainFor_of_name pn_1) fun p e s m below meth c s₁ hx hby hml hown hnm hret hlk hZ hh X0 e0 => ?_
  have N0 := Fr.nil n0
  rw [ef_15_68 m ra0]
  refine og s₁ (mkF m 1 #[vR ra0, vI 28, vU, vU, vU, vU] [.ref ra0]) (fun _ k => qa X0 hx hby d15_0 rfl rfl rfl k) ?_
  obtain ⟨T1, X1, e1, st1⟩ := qf X0 hx hZ hown (ow hw 45) e0 D' (g := (mkF m 1 #[vR ra0, vI 28, vU, vU, vU, vU] [.ref ra0])) rfl rfl hby d15_1
  refine og T1 (mkF m 4 #[vR ra0, vI 28, vU, vU, vU, vU] [.ref ra1]) st1 ?_
  obtain ⟨cl2, Ar2, -, Sr2, Nr2, -, -⟩ := id G'
  refine og T1 (mkF m 5 #[vR ra0, vI 28, vU, vU, vU, vU] [.int 16]) (fun t k => X1.arraylength hx (by rw [e1]; exact Ar2.1) (State.isArrayOf_alike hZ.alike Ar2.2.1) (g := (mkF m 4 #[vR ra0, vI 28, vU, vU, vU, vU] [.ref ra1])) rfl rfl (hb hby d15_4) t (by rw [len_of Sr2 Nr2]; exact k)) ?_
  refine og T1 (mkF m 8 #[vR ra0, vI 28, vI 16, vU, vU, vU] [.ref ra0, .int 28]) (fun _ k => XS.istoreN X1.here hx rfl (hb hby d15_5) rfl (l' := #[vR ra0, vI 28, vI 16, vU, vU, vU]) rfl (qi X1 hx hby d15_6 rfl rfl (qa X1 hx hby d15_7 rfl rfl rfl k))) ?_
  obtain ⟨T3, X3, e3, st3⟩ := qf X1 hx hZ hown (ow hw 47) e1 B' (g := (mkF m 8 #[vR ra0, vI 28, vI 16, vU, vU, vU] [.ref ra0, .int 28])) rfl rfl hby d15_8
  refine og T3 (mkF m 12 #[vR ra0, vI 28, vI 16, vU, vU, vU] [.int 28]) (fun _ k => st3 _ (XS.ishl X3.here hx rfl (hb hby d15_11) rfl (by rw [show ((28 : Int32) <<< ((0 : Int32) &&& 31)) = (28 : Int32) from by decide]; exact k))) ?_
  refine og T3 (mkF m 24 #[vR ra0, vI 28, vI 16, vI 28, vI 12, vU] [.ref ra0, .int 2, .int 16, .int 12, .int 16]) (fun _ k => XS.istoreN X3.here hx rfl (hb hby d15_12) rfl (l' := #[vR ra0, vI 28, vI 16, vI 28, vU, vU]) rfl (qi X3 hx hby d15_13 rfl rfl (qi X3 hx hby d15_14 rfl rfl (XS.isub X3.here hx rfl (hb hby d15_15) rfl (XS.istore X3.here hx rfl (hb hby d15_16) rfl (l' := #[vR ra0, vI 28, vI 16, vI 28, vI 12, vU]) rfl (qi X3 hx hby d15_18 rfl rfl (XS.iload X3.here hx rfl (hb hby d15_19) rfl (qi X3 hx hby d15_21 rfl rfl (qc X3 hx hby d15_22 rfl (qa X3 hx hby d15_23 rfl rfl rfl k)))))))))) ?_
  obtain ⟨T4, X4, e4, st4⟩ := qf X3 hx hZ hown (ow hw 47) e3 B' (g := (mkF m 24 #[vR ra0, vI 28, vI 16, vI 28, vI 12, vU] [.ref ra0, .int 2, .int 16, .int 12, .int 16])) rfl rfl hby d15_24
  refine og T4 (mkF m 28 #[vR ra0, vI 28, vI 16, vI 28, vI 12, vU] [.int 2, .int 16, .int 12, .int 16]) (fun _ k => st4 _ (XS.ishl X4.here hx rfl (hb hby d15_27) rfl (by rw [show ((2 : Int32) <<< ((0 : Int32) &&& 31)) = (2 : Int32) from by decide]; exact k))) ?_
  refine og T4 (mkF m 29 #[vR ra0, vI 28, vI 16, vI 28, vI 12, vU] [.int 18, .int 12, .int 16]) (fun _ k => qp X4 hx hby d15_28 rfl rfl k) ?_
  obtain ⟨_, T5, L5, X5, hQ5, st5⟩ := own_tc X4 hx hZ hown (ow hw 104) (ow hw 105) (rm16_69 l Z a0 hw  h0 n0 OLD ) (ow hw 107) (ow hw 106) e4 (g := (mkF m 29 #[vR ra0, vI 28, vI 16, vI 28, vI 12, vU] [.int 18, .int 12, .int 16])) rfl (zs hml) (argsL := [.int 16, .int 12, .int 18]) (rest := []) (lenOf pd_11 rfl) rfl (hb hby d15_29) (W := 0) rfl
  obtain ⟨rfl, Nq5, eq5⟩ := hQ5
  have N5 := Fr.app N0 Nq5
  refine og T5 (mkF m 36 #[vR ra0, vI 28, vI 16, vI 28, vI 12, vI 34] [.int 34]) (fun _ k => st5.trans (XS.istore X5.here hx rfl (hb hby d15_32) rfl (l' := #[vR ra0, vI 28, vI 16, vI 28, vI 12, vI 34]) rfl (XS.iload X5.here hx rfl (hb hby d15_34) rfl k))) ?_
  refine og T5 (mkF m 38 #[vR ra0, vI 28, vI 16, vI 28, vI 12, vI 34] [.int 2147483647, .int 34]) (fun t k => X5.ldcInt hx hown (mvT hZ (ow hw 113)) (g := (mkF m 36 #[vR ra0, vI 28, vI 16, vI 28, vI 12, vI 34] [.int 34])) rfl (hb hby d15_36) t k) ?_
  refine og T5 (mkF m 54 #[vR ra0, vI 28, vI 16, vI 28, vI 12, vI 34] [.ref ra0, .int 34]) (fun _ k => XS.icmpYes X5.here hx rfl (pc0 := 38) (pc' := 51) rfl (hb hby d15_38) rfl (feq (by decide : ¬ ((34 : Int32) = (2147483647 : Int32)))).2 (by decide) (by decide) (XS.iload X5.here hx rfl (hb hby d15_51) rfl (qa X5 hx hby d15_53 rfl rfl rfl k))) ?_
  obtain ⟨T6, X6, e6, st6⟩ := qf X5 hx hZ hown (ow hw 47) eq5 B' (g := (mkF m 54 #[vR ra0, vI 28, vI 16, vI 28, vI 12, vI 34] [.ref ra0, .int 34])) rfl rfl hby d15_54
  refine og T6 (mkF m 58 #[vR ra0, vI 28, vI 16, vI 28, vI 12, vI 34] [.int 34]) (fun _ k => st6 _ (XS.ishr X6.here hx rfl (hb hby d15_57) rfl (by rw [show ((34 : Int32) >>> ((0 : Int32) &&& 31)) = (34 : Int32) from by decide]; exact k))) ?_
  exact own_leaveN X6 hlk (v := some (.int 34)) (own_nr hret) (lb rfl) (lb rfl) (by rw [e6]; exact ⟨rfl, N5, rfl⟩) (fun fs hr => retI X6 hx hret (hb hby d15_58) hr)
abbrev R18_71 : Room := { frames := 1, cells := 1, slots := 34, locals := 18 }
def Q18_71 (Z : State) (ra0 : Addr) (kc1 : ClassId) (cs2 : List Int32) (h0 : Heap) (n0 : Nat) (v : Option Value) (h : Heap) (L : List Loc) : Prop := (∃ (b2 : Addr) (k2 : ClassId), v = some (.ref b2) ∧ Fr n0 L ∧ Keep h0 h [] ∧ h0.size ≤ b2 ∧ Arv Z h b2 k2 .byte (34 : Int32) (own_by cs2) (.int 0))
theorem rm18_71 l Z a0 (hw : HW Z a0) ra0 kc1 (cs2 : List Int32) h0 n0 (OLD : Old Z n0 h0) (A' : cs2.length = 13) (B' : own_L cs2) (C' : Arv Z h0 ra0 kc1 .byte (16 : Int32) (own_by cs2) (.int 0)) :
    own_CN l Z y15 jdk_65_method_121_code 3 (some (.array .byte)) [] R18_71 #[.ref ra0, .int 34] h0 (Q18_71 Z ra0 kc1 cs2 h0 n0) := by
  refine own_entryN (plainFor_of_name pn_4) fun p e s m below meth c s₁ hx hby hml hown hnm hret hlk hZ hh X0 e0 => ?_
  have N0 := Fr.nil n0
  rw [ef_18_28 m ra0]
  refine og s₁ (mkF m 2 #[vR ra0, vI 34, vU] [.ref ra0, .int 34]) (fun _ k => qi X0 hx hby d18_0 rfl rfl (qa X0 hx hby d18_1 rfl rfl rfl k)) ?_
  obtain ⟨cl1, Ar1, -, Sr1, Nr1, -, -⟩ := id C'
  refine og s₁ (mkF m 3 #[vR ra0, vI 34, vU] [.int 16, .int 34]) (fun t k => X0.arraylength hx (by rw [e0]; exact Ar1.1) (State.isArrayOf_alike hZ.alike Ar1.2.1) (g := (mkF m 2 #[vR ra0, vI 34, vU] [.ref ra0, .int 34])) rfl rfl (hb hby d18_2) t (by rw [len_of Sr1 Nr1]; exact k)) ?_
  refine og s₁ (mkF m 15 #[vR ra0, vI 34, vU] [.int 34]) (fun _ k => XS.icmpYes X0.here hx rfl (pc0 := 3) (pc' := 14) rfl (hb hby d18_3) rfl (feq (by decide : ¬ ((34 : Int32) = (16 : Int32)))).2 (by decide) (by decide) (qi X0 hx hby d18_14 rfl rfl k)) ?_
  obtain ⟨T2, h2, k2, X2, e2, E2, A2, st2⟩ := newP X0 hx hZ (ow hw 15) e0 (g := (mkF m 15 #[vR ra0, vI 34, vU] [.int 34])) rfl (hb hby d18_15) rfl (by decide) (cap := 34) (by decide) (lb rfl) (lb rfl) (lb rfl)
  obtain ⟨b2, gb2⟩ : ∃ z, z = h0.size := ⟨_, rfl⟩
  rw [← gb2] at A2 st2
  have g3 : n0 ≤ b2 := Nat.le_trans (own_osz OLD) (Nat.le_of_eq gb2.symm)
  have z4 : h0.size ≤ b2 := Nat.le_trans (Nat.le_refl _) (Nat.le_of_eq gb2.symm)
  have V2 : Arv Z h2 b2 k2 .byte (34 : Int32) (own_by ([] : List Int32)) (.int 0) := Arv.new A2 (by decide)
  refine og T2 (mkF m 23 #[vR ra0, vI 34, vR b2] [.ref ra0, .int 0, .ref b2, .int 0, .ref ra0]) (fun _ k => st2 _ (XS.astoreN X2.here hx rfl (hb hby d18_17) rfl rfl (l' := #[vR ra0, vI 34, vR b2]) rfl (qa X2 hx hby d18_18 rfl rfl rfl (qc X2 hx hby d18_19 rfl (qa X2 hx hby d18_20 rfl rfl rfl (qc X2 hx hby d18_21 rfl (qa X2 hx hby d18_22 rfl rfl rfl k))))))) ?_
  have F5 := (C'.ext E2)
  obtain ⟨cl6, Ar6, -, Sr6, Nr6, -, -⟩ := id F5
  refine og T2 (mkF m 24 #[vR ra0, vI 34, vR b2] [.int 16, .int 0, .ref b2, .int 0, .ref ra0]) (fun t k => X2.arraylength hx (by rw [e2]; exact Ar6.1) (State.isArrayOf_alike hZ.alike Ar6.2.1) (g := (mkF m 23 #[vR ra0, vI 34, vR b2] [.ref ra0, .int 0, .ref b2, .int 0, .ref ra0])) rfl rfl (hb hby d18_23) t (by rw [len_of Sr6 Nr6]; exact k)) ?_
  refine og T2 (mkF m 25 #[vR ra0, vI 34, vR b2] [.int 34, .int 16, .int 0, .ref b2, .int 0, .ref ra0]) (fun _ k => qi X2 hx hby d18_24 rfl rfl k) ?_
  have F7 := (OLD.ext E2)
  obtain ⟨_, T8, L8, X8, hQ8, st8⟩ := own_tc X2 hx hZ hown (ow hw 118) (ow hw 119) (rm19_29 l Z a0 hw  h2 n0 F7 ) (ow hw 120) (ow hw 110) e2 (g := (mkF m 25 #[vR ra0, vI 34, vR b2] [.int 34, .int 16, .int 0, .ref b2, .int 0, .ref ra0])) rfl (zs hml) (argsL := [.int 16, .int 34]) (rest := [.int 0, .ref b2, .int 0, .ref ra0]) (lenOf pd_10 rfl) rfl (hb hby d18_25) (W := 4) rfl
  obtain ⟨rfl, Nq8, eq8⟩ := hQ8
  have N8 := Fr.app N0 Nq8
  refine ot T8 (mkF m 28 #[vR ra0, vI 34, vR b2] [.int 16, .int 0, .ref b2, .int 0, .ref ra0]) st8 ?_
  obtain ⟨T9, h9, L9, X9, e9, N9, K9, Vq9, st9⟩ := own_cpB X8 hx hZ hown (ow hw 121) (ow hw 97) (ow hw 95) (ow hw 96) eq8 F5 V2 (sp := (0 : Int32)) (dp := (0 : Int32)) (nn := (16 : Int32)) rfl (by decide) (by decide) (by decide) (by decide) (show _ = _ from rfl) ((Eq.symm A') ▸ lb rfl) N8 g3 (g := (mkF m 28 #[vR ra0, vI 34, vR b2] [.int 16, .int 0, .ref b2, .int 0, .ref ra0])) rfl (zs hml) rfl (hb hby d18_28) (lb rfl) (W := 0) (lb rfl) (lb rfl)
  have V9 : Arv Z h9 b2 k2 .byte (34 : Int32) (own_by cs2) (.int 0) := (by simpa using Vq9)
  refine og T9 (mkF m 32 #[vR ra0, vI 34, vR b2] [.ref b2]) (fun _ k => st9 _ (qa X9 hx hby d18_31 rfl rfl rfl k)) ?_
  have KEEP := (((Keep.refl h0 []).ext E2).trans K9 (allS (Or.inr z4) all0))
  exact own_leaveN X9 hlk (v := some (.ref b2)) (own_nr hret) (lb rfl) (lb rfl) (by rw [e9]; exact ⟨b2, k2, rfl, N9, KEEP, z4, V9⟩) (own_ra X9 hx hret rfl rfl rfl (hb hby d18_32))
abbrev R11_67 : Room := { frames := 3, cells := 1, slots := 34, locals := 48 }
def Q11_67 (Z : State) (ra0 ra1 : Addr) (kc2 : ClassId) (cs3 : List Int32) (h0 : Heap) (n0 : Nat) (v : Option Value) (h : Heap) (L : List Loc) : Prop := (∃ (o8 : Addr) (kc9 : ClassId), v = none ∧ Fr n0 L ∧ Keep h0 h [ra0] ∧ h0.size ≤ o8 ∧ Fld Z h ra0 cN0 "coder" "B" (.int 0) ∧ Fld Z h ra0 cN0 "count" "I" (.int 13) ∧ Fld Z h ra0 cN0 "value" "[B" (.ref o8) ∧ Arv Z h o8 kc9 .byte (34 : Int32) (own_by cs3) (.int 0))
theorem rm11_67 l Z a0 (hw : HW Z a0) ra0 ra1 kc2 (cs3 : List Int32) h0 n0 (OLD : Old Z n0 h0) (A' : Exa Z h0 ra0 cN3) (B' : Fld Z h0 ra0 cN0 "coder" "B" (.int 0)) (C' : Fld Z h0 ra0 cN0 "count" "I" (.int 13)) (D' : Fld Z h0 ra0 cN0 "value" "[B" (.ref ra1)) (E' : cs3.length = 13) (F' : own_L cs3) (G' : Arv Z h0 ra1 kc2 .byte (16 : Int32) (own_by cs3) (.int 0)) (H' : n0 ≤ ra0) :
    own_CN l Z y4 jdk_68_method_9_code 3 none [] R11_67 #[.ref ra0, .int 28] h0 (Q11_67 Z ra0 ra1 kc2 cs3 h0 n0) := by
  refine own_entryN (plainFor_of_name pn_1) fun p e s m below meth c s₁ hx hby hml hown hnm hret hlk hZ hh X0 e0 => ?_
  have N0 := Fr.nil n0
  rw [ef_11_67 m ra0]
  refine og s₁ (mkF m 1 #[vR ra0, vI 28, vU] [.ref ra0]) (fun _ k => qa X0 hx hby d11_0 rfl rfl rfl k) ?_
  obtain ⟨T1, X1, e1, st1⟩ := qf X0 hx hZ hown (ow hw 45) e0 D' (g := (mkF m 1 #[vR ra0, vI 28, vU] [.ref ra0])) rfl rfl hby d11_1
  refine og T1 (mkF m 4 #[vR ra0, vI 28, vU] [.ref ra1]) st1 ?_
  obtain ⟨cl2, Ar2, -, Sr2, Nr2, -, -⟩ := id G'
  refine og T1 (mkF m 5 #[vR ra0, vI 28, vU] [.int 16]) (fun t k => X1.arraylength hx (by rw [e1]; exact Ar2.1) (State.isArrayOf_alike hZ.alike Ar2.2.1) (g := (mkF m 4 #[vR ra0, vI 28, vU] [.ref ra1])) rfl rfl (hb hby d11_4) t (by rw [len_of Sr2 Nr2]; exact k)) ?_
  refine og T1 (mkF m 6 #[vR ra0, vI 28, vU] [.ref ra0, .int 16]) (fun _ k => qa X1 hx hby d11_5 rfl rfl rfl k) ?_
  obtain ⟨T3, X3, e3, st3⟩ := qf X1 hx hZ hown (ow hw 47) e1 B' (g := (mkF m 6 #[vR ra0, vI 28, vU] [.ref ra0, .int 16])) rfl rfl hby d11_6
  refine og T3 (mkF m 10 #[vR ra0, vI 28, vU] [.int 16]) (fun _ k => st3 _ (XS.ishr X3.here hx rfl (hb hby d11_9) rfl (by rw [show ((16 : Int32) >>> ((0 : Int32) &&& 31)) = (16 : Int32) from by decide]; exact k))) ?_
  refine og T3 (mkF m 19 #[vR ra0, vI 28, vI 16] [.ref ra0, .ref ra0]) (fun _ k => XS.istoreN X3.here hx rfl (hb hby d11_10) rfl (l' := #[vR ra0, vI 28, vI 16]) rfl (qi X3 hx hby d11_11 rfl rfl (qi X3 hx hby d11_12 rfl rfl (XS.isub X3.here hx rfl (hb hby d11_13) rfl (XS.ifNo X3.here hx rfl (hb hby d11_14) rfl ((if0 _ _).trans (tlt (by decide : (0 : Int32) < (12 : Int32))).2.2.2) (qa X3 hx hby d11_17 rfl rfl rfl (qa X3 hx hby d11_18 rfl rfl rfl k))))))) ?_
  obtain ⟨T4, X4, e4, st4⟩ := qf X3 hx hZ hown (ow hw 45) e3 D' (g := (mkF m 19 #[vR ra0, vI 28, vI 16] [.ref ra0, .ref ra0])) rfl rfl hby d11_19
  refine og T4 (mkF m 24 #[vR ra0, vI 28, vI 16] [.int 28, .ref ra0, .ref ra1, .ref ra0]) (fun _ k => st4 _ (qa X4 hx hby d11_22 rfl rfl rfl (qi X4 hx hby d11_23 rfl rfl k))) ?_
  obtain ⟨_, T5, L5, X5, hQ5, st5⟩ := own_pc X4 hx hZ hown (ow hw 99) (ow hw 102) (ow hw 100) (ow hw 101) A' (rm15_68 l Z a0 hw ra0 ra1 kc2 cs3 h0 n0 OLD A' B' C' D' E' F' G') (ow hw 103) (ow hw 41) e4 (g := (mkF m 24 #[vR ra0, vI 28, vI 16] [.int 28, .ref ra0, .ref ra1, .ref ra0])) rfl (zs hml) (argsL := [.int 28]) (rest := [.ref ra1, .ref ra0]) (lenOf pd_12 rfl) rfl (hb hby d11_24) (W := 2) rfl
  obtain ⟨rfl, Nq5, eq5⟩ := hQ5
  have N5 := Fr.app N0 Nq5
  refine og T5 (mkF m 28 #[vR ra0, vI 28, vI 16] [.ref ra0, .int 34, .ref ra1, .ref ra0]) (fun _ k => st5.trans (qa X5 hx hby d11_27 rfl rfl rfl k)) ?_
  obtain ⟨T6, X6, e6, st6⟩ := qf X5 hx hZ hown (ow hw 47) eq5 B' (g := (mkF m 28 #[vR ra0, vI 28, vI 16] [.ref ra0, .int 34, .ref ra1, .ref ra0])) rfl rfl hby d11_28
  refine og T6 (mkF m 32 #[vR ra0, vI 28, vI 16] [.int 34, .ref ra1, .ref ra0]) (fun _ k => st6 _ (XS.ishl X6.here hx rfl (hb hby d11_31) rfl (by rw [show ((34 : Int32) <<< ((0 : Int32) &&& 31)) = (34 : Int32) from by decide]; exact k))) ?_
  obtain ⟨_, T7, L7, X7, hQ7, st7⟩ := own_tc X6 hx hZ hown (ow hw 114) (ow hw 115) (rm18_71 l Z a0 hw ra1 kc2 cs3 h0 n0 OLD E' F' G') (ow hw 117) (ow hw 116) e6 (g := (mkF m 32 #[vR ra0, vI 28, vI 16] [.int 34, .ref ra1, .ref ra0])) rfl (zs hml) (argsL := [.ref ra1, .int 34]) (rest := [.ref ra0]) (lenOf pd_13 rfl) rfl (hb hby d11_32) (W := 1) rfl
  obtain ⟨o8, kc9, rfl, Nq7, K7, f10, f11⟩ := hQ7
  have N7 := Fr.app N5 Nq7
  have g12 : n0 ≤ o8 := Nat.le_trans (own_osz OLD) f10
  have z13 : h0.size ≤ o8 := Nat.le_trans (Nat.le_refl _) f10
  refine ot T7 (mkF m 35 #[vR ra0, vI 28, vI 16] [.ref o8, .ref ra0]) st7 ?_
  have F14 := (A'.keep K7)
  have F15 := (D'.keep K7 nin0)
  obtain ⟨T16, h16, X16, e16, W16, st16⟩ := putF X7 hx hZ hown (host := "") (Or.inl (ow hw 45)) Via.refl rfl F15 F14 (Or.inl (ow hw 46)) (ow hw 32) (ty := (.array .byte)) (by decide) rfl rfl (g := (mkF m 35 #[vR ra0, vI 28, vI 16] [.ref o8, .ref ra0])) rfl rfl (hb hby d11_35)
  have Fw16 := F15.same W16
  have N16 := Fr.snoc X16 N7 H'
  refine og T16 (mkF m 38 #[vR ra0, vI 28, vI 16] []) st16 ?_
  have F17 := ((B'.keep K7 nin0).other W16 (Or.inr (slot_ne (Or.inl (ow hw 48)) (Or.inl (ow hw 46)) (by decide) (t := .byte) (t' := (.array .byte)) (by decide) (by decide))))
  have F18 := ((C'.keep K7 nin0).other W16 (Or.inr (slot_ne (Or.inl (ow hw 72)) (Or.inl (ow hw 46)) (by decide) (t := .int) (t' := (.array .byte)) (by decide) (by decide))))
  have F19 := (f11.other W16 (Ne.symm (own_ne_lo A'.lt f10)))
  have KEEP := (((Keep.refl h0 [ra0]).trans K7 all0).wr W16 (Or.inl (List.mem_of_getElem? (i := 0) rfl)))
  exact own_leaveN X16 hlk (v := none) (fun _ => rfl) (lb rfl) (lb rfl) (by rw [e16]; exact ⟨o8, kc9, rfl, N16, KEEP, z13, F17, F18, Fw16, F19⟩) (fun fs hr => X16.returnOut hx hret (hb hby d11_38) hr)
abbrev R14_73 : Room := { frames := 1, cells := 0, slots := 0, locals := 18 }
def Q14_73 (Z : State) (ra0 ra1 : Addr) (kc2 : ClassId) (cs3 : List Int32) (ra4 : Addr) (kc5 : ClassId) (cs6 : List Int32) (G1 : Int32) (h0 : Heap) (n0 : Nat) (v : Option Value) (h : Heap) (L : List Loc) : Prop := (v = none ∧ Fr n0 L ∧ Keep h0 h [ra4] ∧ Arv Z h ra4 kc5 .byte (34 : Int32) (own_by (cs6 ++ cs3)) (.int 0))
theorem rm14_73 l Z a0 (hw : HW Z a0) ra0 ra1 kc2 (cs3 : List Int32) ra4 kc5 (cs6 : List Int32) (G1 : Int32) h0 n0 (OLD : Old Z n0 h0) (A' : Exa Z h0 ra0 cN1) (B' : Fld Z h0 ra0 cN1 "coder" "B" (.int 0)) (C' : Fld Z h0 ra0 cN1 "value" "[B" (.ref ra1)) (D' : cs3.length = 15) (E' : own_L cs3) (F' : Arv Z h0 ra1 kc2 .byte (15 : Int32) (own_by cs3) (.int 0)) (G' : cs6.length = 13) (H' : own_L cs6) (I' : Arv Z h0 ra4 kc5 .byte (34 : Int32) (own_by cs6) (.int 0)) (O2 : Sta Z Z.heap cN1 "COMPACT_STRINGS" "Z" (.int G1)) (P5 : ¬ (G1 = (0 : Int32))) (J' : n0 ≤ ra4) :
    own_CN l Z y7 jdk_42_method_147_code 4 none [] R14_73 #[.ref ra0, .ref ra4, .int 13, .int 0] h0 (Q14_73 Z ra0 ra1 kc2 cs3 ra4 kc5 cs6 G1 h0 n0) := by
  refine own_entryN (plainFor_of_name pn_0) fun p e s m below meth c s₁ hx hby hml hown hnm hret hlk hZ hh X0 e0 => ?_
  have N0 := Fr.nil n0
  rw [ef_14_73 m ra0 ra4]
  refine og s₁ (mkF m 1 #[vR ra0, vR ra4, vI 13, vI 0] [.ref ra0]) (fun _ k => qa X0 hx hby d14_0 rfl rfl rfl k) ?_
  obtain ⟨_, T1, L1, X1, hQ1, st1⟩ := own_vc X0 hx hZ hown (ow hw 65) (ow hw 66) (ow hw 68) (ow hw 67) A' (rm10_15 l Z a0 hw ra0 G1 ((0 : Int32)) h0 n0 OLD O2 P5 B') (ow hw 69) (ow hw 2) e0 (g := (mkF m 1 #[vR ra0, vR ra4, vI 13, vI 0] [.ref ra0])) rfl (zs hml) (argsL := []) (rest := []) (lenOf pd_4 rfl) rfl (hb hby d14_1) (W := 0) rfl
  obtain ⟨rfl, Nq1, eq1⟩ := hQ1
  have N1 := Fr.app N0 Nq1
  refine og T1 (mkF m 9 #[vR ra0, vR ra4, vI 13, vI 0] [.ref ra0]) (fun _ k => st1.trans (qi X1 hx hby d14_4 rfl rfl (qn X1 hx hby d14_5 rfl rfl (tq 0) (qa X1 hx hby d14_8 rfl rfl rfl k)))) ?_
  obtain ⟨T2, X2, e2, st2⟩ := qf X1 hx hZ hown (ow hw 20) eq1 C' (g := (mkF m 9 #[vR ra0, vR ra4, vI 13, vI 0] [.ref ra0])) rfl rfl hby d14_9
  refine og T2 (mkF m 16 #[vR ra0, vR ra4, vI 13, vI 0] [.int 0, .int 13, .ref ra4, .int 0, .ref ra1]) (fun _ k => st2 _ (qc X2 hx hby d14_12 rfl (qa X2 hx hby d14_13 rfl rfl rfl (qi X2 hx hby d14_14 rfl rfl (qi X2 hx hby d14_15 rfl rfl k))))) ?_
  refine og T2 (mkF m 17 #[vR ra0, vR ra4, vI 13, vI 0] [.int 13, .ref ra4, .int 0, .ref ra1]) (fun _ k => XS.ishl X2.here hx rfl (hb hby d14_16) rfl (by rw [show ((13 : Int32) <<< ((0 : Int32) &&& 31)) = (13 : Int32) from by decide]; exact k)) ?_
  refine og T2 (mkF m 18 #[vR ra0, vR ra4, vI 13, vI 0] [.ref ra0, .int 13, .ref ra4, .int 0, .ref ra1]) (fun _ k => qa X2 hx hby d14_17 rfl rfl rfl k) ?_
  obtain ⟨T3, X3, e3, st3⟩ := qf X2 hx hZ hown (ow hw 20) e2 C' (g := (mkF m 18 #[vR ra0, vR ra4, vI 13, vI 0] [.ref ra0, .int 13, .ref ra4, .int 0, .ref ra1])) rfl rfl hby d14_18
  refine og T3 (mkF m 21 #[vR ra0, vR ra4, vI 13, vI 0] [.ref ra1, .int 13, .ref ra4, .int 0, .ref ra1]) st3 ?_
  obtain ⟨cl4, Ar4, -, Sr4, Nr4, -, -⟩ := id F'
  refine og T3 (mkF m 22 #[vR ra0, vR ra4, vI 13, vI 0] [.int 15, .int 13, .ref ra4, .int 0, .ref ra1]) (fun t k => X3.arraylength hx (by rw [e3]; exact Ar4.1) (State.isArrayOf_alike hZ.alike Ar4.2.1) (g := (mkF m 21 #[vR ra0, vR ra4, vI 13, vI 0] [.ref ra1, .int 13, .ref ra4, .int 0, .ref ra1])) rfl rfl (hb hby d14_21) t (by rw [len_of Sr4 Nr4]; exact k)) ?_
  obtain ⟨T5, h5, L5, X5, e5, N5, K5, Vq5, st5⟩ := own_cpB X3 hx hZ hown (ow hw 94) (ow hw 97) (ow hw 95) (ow hw 96) e3 F' I' (sp := (0 : Int32)) (dp := (13 : Int32)) (nn := (15 : Int32)) rfl (by decide) (by decide) (by decide) (by decide) (show _ = _ from G') ((Eq.symm D') ▸ lb rfl) N1 J' (g := (mkF m 22 #[vR ra0, vR ra4, vI 13, vI 0] [.int 15, .int 13, .ref ra4, .int 0, .ref ra1])) rfl (zs hml) rfl (hb hby d14_22) (lb rfl) (W := 0) (lb rfl) (lb rfl)
  have V5 : Arv Z h5 ra4 kc5 .byte (34 : Int32) (own_by (cs6 ++ cs3)) (.int 0) := Vq5
  refine og T5 (mkF m 43 #[vR ra0, vR ra4, vI 13, vI 0] []) (fun _ k => st5 _ (XS.goto X5.here hx rfl (pc0 := 25) (pc' := 43) rfl (hb hby d14_25) (by decide) (by decide) k)) ?_
  have KEEP := ((Keep.refl h0 [ra4]).trans K5 (allS (Or.inl (List.mem_of_getElem? (i := 0) rfl)) all0))
  exact own_leaveN X5 hlk (v := none) (fun _ => rfl) (lb rfl) (lb rfl) (by rw [e5]; exact ⟨rfl, N5, KEEP, V5⟩) (fun fs hr => X5.returnOut hx hret (hb hby d14_43) hr)
abbrev R12_72 : Room := { frames := 2, cells := 0, slots := 0, locals := 33 }
def Q12_72 (Z : State) (ra0 ra1 : Addr) (kc2 : ClassId) (cs3 : List Int32) (ra4 ra5 : Addr) (kc6 : ClassId) (cs7 : List Int32) (G1 : Int32) (h0 : Heap) (n0 : Nat) (v : Option Value) (h : Heap) (L : List Loc) : Prop := (v = none ∧ Fr n0 L ∧ Keep h0 h [ra1] ∧ Arv Z h ra1 kc2 .byte (34 : Int32) (own_by (cs3 ++ cs7)) (.int 0))
theorem rm12_72 l Z a0 (hw : HW Z a0) ra0 ra1 kc2 (cs3 : List Int32) ra4 ra5 kc6 (cs7 : List Int32) (G1 : Int32) h0 n0 (OLD : Old Z n0 h0) (A' : Exa Z h0 ra0 cN3) (B' : Fld Z h0 ra0 cN0 "coder" "B" (.int 0)) (C' : Fld Z h0 ra0 cN0 "count" "I" (.int 13)) (D' : Fld Z h0 ra0 cN0 "value" "[B" (.ref ra1)) (E' : cs3.length = 13) (F' : own_L cs3) (G' : Arv Z h0 ra1 kc2 .byte (34 : Int32) (own_by cs3) (.int 0)) (H' : Exa Z h0 ra4 cN1) (I' : Fld Z h0 ra4 cN1 "coder" "B" (.int 0)) (J' : Fld Z h0 ra4 cN1 "value" "[B" (.ref ra5)) (K' : cs7.length = 15) (L' : own_L cs7) (M' : Arv Z h0 ra5 kc6 .byte (15 : Int32) (own_by cs7) (.int 0)) (O2 : Sta Z Z.heap cN1 "COMPACT_STRINGS" "Z" (.int G1)) (P5 : ¬ (G1 = (0 : Int32))) (N' : n0 ≤ ra1) :
    own_CN l Z y8 jdk_68_method_73_code 3 none [] R12_72 #[.ref ra0, .int 13, .ref ra4] h0 (Q12_72 Z ra0 ra1 kc2 cs3 ra4 ra5 kc6 cs7 G1 h0 n0) := by
  refine own_entryN (plainFor_of_name pn_1) fun p e s m below meth c s₁ hx hby hml hown hnm hret hlk hZ hh X0 e0 => ?_
  have N0 := Fr.nil n0
  rw [ef_12_72 m ra0 ra4]
  refine og s₁ (mkF m 2 #[vR ra0, vI 13, vR ra4] [.ref ra4, .ref ra0]) (fun _ k => qa X0 hx hby d12_0 rfl rfl rfl (qa X0 hx hby d12_1 rfl rfl rfl k)) ?_
  obtain ⟨_, T1, L1, X1, hQ1, st1⟩ := own_pc X0 hx hZ hown (ow hw 83) (ow hw 86) (ow hw 84) (ow hw 85) A' (rm13_14 l Z a0 hw ra0 ra4 G1 ((0 : Int32)) ((0 : Int32)) h0 n0 OLD O2 P5 B' I' H' (by decide : (0 : Int32) = (0 : Int32))) (ow hw 87) (ow hw 41) e0 (g := (mkF m 2 #[vR ra0, vI 13, vR ra4] [.ref ra4, .ref ra0])) rfl (zs hml) (argsL := [.ref ra4]) (rest := []) (lenOf pd_5 rfl) rfl (hb hby d12_2) (W := 0) rfl
  obtain ⟨rfl, Nq1, eq1⟩ := hQ1
  have N1 := Fr.app N0 Nq1
  refine og T1 (mkF m 7 #[vR ra0, vI 13, vR ra4] [.ref ra0, .ref ra4]) (fun _ k => st1.trans (qa X1 hx hby d12_5 rfl rfl rfl (qa X1 hx hby d12_6 rfl rfl rfl k))) ?_
  obtain ⟨T2, X2, e2, st2⟩ := qf X1 hx hZ hown (ow hw 45) eq1 D' (g := (mkF m 7 #[vR ra0, vI 13, vR ra4] [.ref ra0, .ref ra4])) rfl rfl hby d12_7
  refine og T2 (mkF m 12 #[vR ra0, vI 13, vR ra4] [.ref ra0, .int 13, .ref ra1, .ref ra4]) (fun _ k => st2 _ (qi X2 hx hby d12_10 rfl rfl (qa X2 hx hby d12_11 rfl rfl rfl k))) ?_
  obtain ⟨T3, X3, e3, st3⟩ := qf X2 hx hZ hown (ow hw 47) e2 B' (g := (mkF m 12 #[vR ra0, vI 13, vR ra4] [.ref ra0, .int 13, .ref ra1, .ref ra4])) rfl rfl hby d12_12
  refine og T3 (mkF m 15 #[vR ra0, vI 13, vR ra4] [.int 0, .int 13, .ref ra1, .ref ra4]) st3 ?_
  obtain ⟨_, T4, L4, X4, hQ4, st4⟩ := own_vc X3 hx hZ hown (ow hw 89) (ow hw 90) (ow hw 92) (ow hw 91) H' (rm14_73 l Z a0 hw ra4 ra5 kc6 cs7 ra1 kc2 cs3 G1 h0 n0 OLD H' I' J' K' L' M' E' F' G' O2 P5 N') (ow hw 93) (ow hw 2) e3 (g := (mkF m 15 #[vR ra0, vI 13, vR ra4] [.int 0, .int 13, .ref ra1, .ref ra4])) rfl (zs hml) (argsL := [.ref ra1, .int 13, .int 0]) (rest := []) (lenOf pd_6 rfl) rfl (hb hby d12_15) (W := 0) rfl
  obtain ⟨rfl, Nq4, K4, f5⟩ := hQ4
  have N4 := Fr.app N1 Nq4
  refine ot T4 (mkF m 18 #[vR ra0, vI 13, vR ra4] []) st4 ?_
  have KEEP := ((Keep.refl h0 [ra1]).trans K4 (allS (Or.inl (List.mem_of_getElem? (i := 0) rfl)) all0))
  exact own_leaveN X4 hlk (v := none) (fun _ => rfl) (lb rfl) (lb rfl) (by exact ⟨rfl, N4, KEEP, f5⟩) (fun fs hr => X4.returnOut hx hret (hb hby d12_18) hr)
abbrev R8_66 : Room := { frames := 4, cells := 1, slots := 34, locals := 62 }
def Q8_66 (Z : State) (ra0 ra1 : Addr) (kc2 : ClassId) (cs3 : List Int32) (ra4 ra5 : Addr) (kc6 : ClassId) (cs7 : List Int32) (G1 : Int32) (h0 : Heap) (n0 : Nat) (v : Option Value) (h : Heap) (L : List Loc) : Prop := (∃ (o4 : Addr) (kc5 : ClassId), v = some (.ref ra0) ∧ Fr n0 L ∧ Keep h0 h [ra0] ∧ h0.size ≤ o4 ∧ Fld Z h ra0 cN0 "coder" "B" (.int 0) ∧ Fld Z h ra0 cN0 "count" "I" (.int 28) ∧ Fld Z h ra0 cN0 "value" "[B" (.ref o4) ∧ Arv Z h o4 kc5 .byte (34 : Int32) (own_by (cs3 ++ cs7)) (.int 0))
theorem rm8_66 l Z a0 (hw : HW Z a0) ra0 ra1 kc2 (cs3 : List Int32) ra4 ra5 kc6 (cs7 : List Int32) (G1 : Int32) h0 n0 (OLD : Old Z n0 h0) (A' : Exa Z h0 ra0 cN3) (B' : Fld Z h0 ra0 cN0 "coder" "B" (.int 0)) (C' : Fld Z h0 ra0 cN0 "count" "I" (.int 13)) (D' : Fld Z h0 ra0 cN0 "value" "[B" (.ref ra1)) (E' : cs3.length = 13) (F' : own_L cs3) (G' : Arv Z h0 ra1 kc2 .byte (16 : Int32) (own_by cs3) (.int 0)) (H' : Exa Z h0 ra4 cN1) (I' : Fld Z h0 ra4 cN1 "coder" "B" (.int 0)) (J' : Fld Z h0 ra4 cN1 "value" "[B" (.ref ra5)) (K' : cs7.length = 15) (L' : own_L cs7) (M' : Arv Z h0 ra5 kc6 .byte (15 : Int32) (own_by cs7) (.int 0)) (O2 : Sta Z Z.heap cN1 "COMPACT_STRINGS" "Z" (.int G1)) (P5 : ¬ (G1 = (0 : Int32))) (N' : n0 ≤ ra0) (ne_ra4_ra0 : ra4 ≠ ra0) (ne_ra5_ra0 : ra5 ≠ ra0) :
    own_CN l Z y9 jdk_68_method_22_code 3 (some (.object cN0)) [] R8_66 #[.ref ra0, .ref ra4] h0 (Q8_66 Z ra0 ra1 kc2 cs3 ra4 ra5 kc6 cs7 G1 h0 n0) := by
  refine own_entryN (plainFor_of_name pn_1) fun p e s m below meth c s₁ hx hby hml hown hnm hret hlk hZ hh X0 e0 => ?_
  have N0 := Fr.nil n0
  rw [ef_8_11 m ra0 ra4]
  refine og s₁ (mkF m 10 #[vR ra0, vR ra4, vU] [.ref ra4]) (fun _ k => qa X0 hx hby d8_0 rfl rfl rfl (XS.ifnonnullYes X0.here hx rfl (pc0 := 1) (pc' := 9) rfl (hb hby d8_1) rfl (by decide) (by decide) (qa X0 hx hby d8_9 rfl rfl rfl k))) ?_
  obtain ⟨T1, X1, e1, st1⟩ := own_lenA X0 hx hZ hown (ow hw 60) hw H' J' I' M' K' L' e0 (O2.ext OLD.2) P5 (g := (mkF m 10 #[vR ra0, vR ra4, vU] [.ref ra4])) rfl (zs hml) (rest := []) rfl (hb hby d8_10) (W := 0) rfl
  refine og T1 (mkF m 16 #[vR ra0, vR ra4, vI 15] [.ref ra0, .ref ra0]) (fun _ k => st1 _ (XS.istoreN X1.here hx rfl (hb hby d8_13) rfl (l' := #[vR ra0, vR ra4, vI 15]) rfl (qa X1 hx hby d8_14 rfl rfl rfl (qa X1 hx hby d8_15 rfl rfl rfl k)))) ?_
  obtain ⟨T2, X2, e2, st2⟩ := qf X1 hx hZ hown (ow hw 71) e1 C' (g := (mkF m 16 #[vR ra0, vR ra4, vI 15] [.ref ra0, .ref ra0])) rfl rfl hby d8_16
  refine og T2 (mkF m 21 #[vR ra0, vR ra4, vI 15] [.int 28, .ref ra0]) (fun _ k => st2 _ (qi X2 hx hby d8_19 rfl rfl (qp X2 hx hby d8_20 rfl rfl k))) ?_
  obtain ⟨_, T3, L3, X3, hQ3, st3⟩ := own_pc X2 hx hZ hown (ow hw 73) (ow hw 76) (ow hw 74) (ow hw 75) A' (rm11_67 l Z a0 hw ra0 ra1 kc2 cs3 h0 n0 OLD A' B' C' D' E' F' G' N') (ow hw 77) (ow hw 41) e2 (g := (mkF m 21 #[vR ra0, vR ra4, vI 15] [.int 28, .ref ra0])) rfl (zs hml) (argsL := [.int 28]) (rest := []) (lenOf pd_2 rfl) rfl (hb hby d8_21) (W := 0) rfl
  obtain ⟨o4, kc5, rfl, Nq3, K3, f6, f7, f8, f9, f10⟩ := hQ3
  have N3 := Fr.app N0 Nq3
  have g11 : n0 ≤ o4 := Nat.le_trans (own_osz OLD) f6
  have z12 : h0.size ≤ o4 := Nat.le_trans (Nat.le_refl _) f6
  refine og T3 (mkF m 26 #[vR ra0, vR ra4, vI 15] [.ref ra0, .ref ra0]) (fun _ k => st3.trans (qa X3 hx hby d8_24 rfl rfl rfl (qa X3 hx hby d8_25 rfl rfl rfl k))) ?_
  obtain ⟨T13, X13, e13, st13⟩ := qf X3 hx hZ hown (ow hw 71) rfl f8 (g := (mkF m 26 #[vR ra0, vR ra4, vI 15] [.ref ra0, .ref ra0])) rfl rfl hby d8_26
  refine og T13 (mkF m 30 #[vR ra0, vR ra4, vI 15] [.ref ra4, .int 13, .ref ra0]) (fun _ k => st13 _ (qa X13 hx hby d8_29 rfl rfl rfl k)) ?_
  have F14 := (A'.keep K3)
  have F15 := (H'.keep K3)
  have F16 := (I'.keep K3 (ninS ne_ra4_ra0 nin0))
  have F17 := (J'.keep K3 (ninS ne_ra4_ra0 nin0))
  have F18 := (M'.keep K3 (ninS ne_ra5_ra0 nin0))
  have F19 := (OLD.keep K3 (allS N' all0))
  obtain ⟨_, T20, L20, X20, hQ20, st20⟩ := own_pc X13 hx hZ hown (ow hw 78) (ow hw 81) (ow hw 79) (ow hw 80) F14 (rm12_72 l Z a0 hw ra0 o4 kc5 cs3 ra4 ra5 kc6 cs7 G1 T3.heap n0 F19 F14 f7 f8 f9 E' F' f10 F15 F16 F17 K' L' F18 O2 P5 g11) (ow hw 82) (ow hw 41) e13 (g := (mkF m 30 #[vR ra0, vR ra4, vI 15] [.ref ra4, .int 13, .ref ra0])) rfl (zs hml) (argsL := [.int 13, .ref ra4]) (rest := []) (lenOf pd_7 rfl) rfl (hb hby d8_30) (W := 0) rfl
  obtain ⟨rfl, Nq20, K20, f21⟩ := hQ20
  have N20 := Fr.app N3 Nq20
  refine og T20 (mkF m 35 #[vR ra0, vR ra4, vI 15] [.ref ra0, .ref ra0]) (fun _ k => st20.trans (qa X20 hx hby d8_33 rfl rfl rfl (XS.dup X20.here hx rfl (hb hby d8_34) rfl rfl k))) ?_
  have F22 := (f8.keep K20 (ninS (own_ne_lo A'.lt f6) nin0))
  obtain ⟨T23, X23, e23, st23⟩ := qf X20 hx hZ hown (ow hw 71) rfl F22 (g := (mkF m 35 #[vR ra0, vR ra4, vI 15] [.ref ra0, .ref ra0])) rfl rfl hby d8_35
  refine og T23 (mkF m 40 #[vR ra0, vR ra4, vI 15] [.int 28, .ref ra0]) (fun _ k => st23 _ (qi X23 hx hby d8_38 rfl rfl (qp X23 hx hby d8_39 rfl rfl k))) ?_
  have F24 := (F14.keep K20)
  obtain ⟨T25, h25, X25, e25, W25, st25⟩ := putF X23 hx hZ hown (host := "") (Or.inl (ow hw 71)) Via.refl e23 F22 F24 (Or.inl (ow hw 72)) (ow hw 32) (ty := .int) (by decide) rfl rfl (g := (mkF m 40 #[vR ra0, vR ra4, vI 15] [.int 28, .ref ra0])) rfl rfl (hb hby d8_40)
  have Fw25 := F22.same W25
  have N25 := Fr.snoc X25 N20 N'
  refine og T25 (mkF m 44 #[vR ra0, vR ra4, vI 15] [.ref ra0]) (fun _ k => st25 _ (qa X25 hx hby d8_43 rfl rfl rfl k)) ?_
  have F26 := ((f7.keep K20 (ninS (own_ne_lo A'.lt f6) nin0)).other W25 (Or.inr (slot_ne (Or.inl (ow hw 48)) (Or.inl (ow hw 72)) (by decide) (t := .byte) (t' := .int) (by decide) (by decide))))
  have F27 := ((f9.keep K20 (ninS (own_ne_lo A'.lt f6) nin0)).other W25 (Or.inr (slot_ne (Or.inl (ow hw 46)) (Or.inl (ow hw 72)) (by decide) (t := (.array .byte)) (t' := .int) (by decide) (by decide))))
  have F28 := (f21.other W25 (Ne.symm (own_ne_lo A'.lt f6)))
  have KEEP := ((((Keep.refl h0 [ra0]).trans K3 (allS (Or.inl (List.mem_of_getElem? (i := 0) rfl)) all0)).trans K20 (allS (Or.inr z12) all0)).wr W25 (Or.inl (List.mem_of_getElem? (i := 0) rfl)))
  exact own_leaveN X25 hlk (v := some (.ref ra0)) (own_nr hret) (lb rfl) (lb rfl) (by rw [e25]; exact ⟨o4, kc5, rfl, N25, KEEP, z12, F26, Fw25, F27, F28⟩) (own_ra X25 hx hret rfl rfl rfl (hb hby d8_44))
abbrev R7_65 : Room := { frames := 5, cells := 1, slots := 34, locals := 76 }
def Q7_65 (Z : State) (ra0 ra1 : Addr) (kc2 : ClassId) (cs3 : List Int32) (ra4 ra5 : Addr) (kc6 : ClassId) (cs7 : List Int32) (G1 : Int32) (h0 : Heap) (n0 : Nat) (v : Option Value) (h : Heap) (L : List Loc) : Prop := (∃ (o3 : Addr) (kc4 : ClassId), v = some (.ref ra0) ∧ Fr n0 L ∧ Keep h0 h [ra0] ∧ h0.size ≤ o3 ∧ Fld Z h ra0 cN0 "coder" "B" (.int 0) ∧ Fld Z h ra0 cN0 "count" "I" (.int 28) ∧ Fld Z h ra0 cN0 "value" "[B" (.ref o3) ∧ Arv Z h o3 kc4 .byte (34 : Int32) (own_by (cs3 ++ cs7)) (.int 0))
theorem rm7_65 l Z a0 (hw : HW Z a0) ra0 ra1 kc2 (cs3 : List Int32) ra4 ra5 kc6 (cs7 : List Int32) (G1 : Int32) h0 n0 (OLD : Old Z n0 h0) (A' : Exa Z h0 ra0 cN3) (B' : Fld Z h0 ra0 cN0 "coder" "B" (.int 0)) (C' : Fld Z h0 ra0 cN0 "count" "I" (.int 13)) (D' : Fld Z h0 ra0 cN0 "value" "[B" (.ref ra1)) (E' : cs3.length = 13) (F' : own_L cs3) (G' : Arv Z h0 ra1 kc2 .byte (16 : Int32) (own_by cs3) (.int 0)) (H' : Exa Z h0 ra4 cN1) (I' : Fld Z h0 ra4 cN1 "coder" "B" (.int 0)) (J' : Fld Z h0 ra4 cN1 "value" "[B" (.ref ra5)) (K' : cs7.length = 15) (L' : own_L cs7) (M' : Arv Z h0 ra5 kc6 .byte (15 : Int32) (own_by cs7) (.int 0)) (O2 : Sta Z Z.heap cN1 "COMPACT_STRINGS" "Z" (.int G1)) (P5 : ¬ (G1 = (0 : Int32))) (N' : n0 ≤ ra0) (ne_ra4_ra0 : ra4 ≠ ra0) (ne_ra5_ra0 : ra5 ≠ ra0) :
    own_CN l Z y10 jdk_67_method_7_code 2 (some (.object cN3)) [] R7_65 #[.ref ra0, .ref ra4] h0 (Q7_65 Z ra0 ra1 kc2 cs3 ra4 ra5 kc6 cs7 G1 h0 n0) := by
  refine own_entryN (plainFor_of_name pn_2) fun p e s m below meth c s₁ hx hby hml hown hnm hret hlk hZ hh X0 e0 => ?_
  have N0 := Fr.nil n0
  rw [ef_1_5 m ra0 ra4]
  refine og s₁ (mkF m 2 #[vR ra0, vR ra4] [.ref ra4, .ref ra0]) (fun _ k => qa X0 hx hby d7_0 rfl rfl rfl (qa X0 hx hby d7_1 rfl rfl rfl k)) ?_
  obtain ⟨_, _, ⟨T2, L2, k2, n2⟩, -, X2, ⟨Lc2, hQ2, l2, y2, z2⟩, st2⟩ := superBack X0 hx hZ (y := y9) hown (ow hw 55) (own_same (z := y4) (ow hw 76) (ow hw 56) rfl (by decide)) (ow hw 56) (ow hw 57) (by decide) (backOf (W := 0) (rm8_66 l Z a0 hw ra0 ra1 kc2 cs3 ra4 ra5 kc6 cs7 G1 h0 n0 OLD A' B' C' D' E' F' G' H' I' J' K' L' M' O2 P5 N' ne_ra4_ra0 ne_ra5_ra0) hZ (ow hw 59) (ow hw 41) (lb rfl) (lb rfl)) e0 (Ins.self A') (g := (mkF m 2 #[vR ra0, vR ra4] [.ref ra4, .ref ra0])) rfl (zs hml) (ow hw 59) (argsL := [.ref ra4]) (rest := []) (lenOf pd_8 rfl) rfl (lb rfl) (hb hby d7_2) (fun _ _ => ⟨rfl, e0, (lb rfl), (lb rfl)⟩)
  dsimp only [Pt.U, Pt.locs, Pt.cells, Pt.slots] at X2 l2 y2 z2 st2 hQ2
  subst l2 y2 z2
  obtain ⟨o3, kc4, rfl, Nq2, K2, f5, f6, f7, f8, f9⟩ := hQ2
  have N2 := Fr.app N0 Nq2
  have g10 : n0 ≤ o3 := Nat.le_trans (own_osz OLD) f5
  have z11 : h0.size ≤ o3 := Nat.le_trans (Nat.le_refl _) f5
  refine og T2 (mkF m 7 #[vR ra0, vR ra4] [.ref ra0]) (fun _ k => st2.trans (XS.pop X2.here hx rfl (hb hby d7_5) rfl rfl (qa X2 hx hby d7_6 rfl rfl rfl k))) ?_
  have KEEP := ((Keep.refl h0 [ra0]).trans K2 (allS (Or.inl (List.mem_of_getElem? (i := 0) rfl)) all0))
  exact own_leaveN X2 hlk (v := some (.ref ra0)) (own_nr hret) (lb rfl) (lb rfl) (by exact ⟨o3, kc4, rfl, N2, KEEP, z11, f6, f7, f8, f9⟩) (own_ra X2 hx hret rfl rfl rfl (hb hby d7_7))
abbrev R29_79 : Room := { frames := 0, cells := 0, slots := 0, locals := 0 }
def Q29_79 (Z : State)  (h0 : Heap) (n0 : Nat) (v : Option Value) (h : Heap) (L : List Loc) : Prop := (v = none ∧ Fr n0 L ∧ h = h0)
theorem rm29_79 l Z a0 (hw : HW Z a0)  h0 n0 (OLD : Old Z n0 h0) :
    own_CN l Z y20 jdk_65_method_131_code 2 none [] R29_79 #[.int 0, .int 28] h0 (Q29_79 Z  h0 n0) := by
  refine own_entryN (plainFor_of_name pn_4) fun p e s m below meth c s₁ hx hby hml hown hnm hret hlk hZ hh X0 e0 => ?_
  have N0 := Fr.nil n0
  rw [ef_29_79 m ]
  refine og s₁ (mkF m 37 #[vI 0, vI 28] []) (fun _ k => qi X0 hx hby d29_0 rfl rfl (qi X0 hx hby d29_1 rfl rfl (XS.icmpYes X0.here hx rfl (pc0 := 2) (pc' := 37) rfl (hb hby d29_2) rfl (flt (by decide : ¬ ((28 : Int32) < (0 : Int32)))).2.1 (by decide) (by decide) k))) ?_
  exact own_leaveN X0 hlk (v := none) (fun _ => rfl) (lb rfl) (lb rfl) (by rw [e0]; exact ⟨rfl, N0, rfl⟩) (fun fs hr => X0.returnOut hx hret (hb hby d29_37) hr)
abbrev R19_80 : Room := { frames := 0, cells := 0, slots := 0, locals := 0 }
def Q19_80 (Z : State)  (h0 : Heap) (n0 : Nat) (v : Option Value) (h : Heap) (L : List Loc) : Prop := (v = some (.int 28) ∧ Fr n0 L ∧ h = h0)
theorem rm19_80 l Z a0 (hw : HW Z a0)  h0 n0 (OLD : Old Z n0 h0) :
    own_CN l Z y14 jdk_29_method_69_code 2 (some .int) [] R19_80 #[.int 34, .int 28] h0 (Q19_80 Z  h0 n0) := by
  refine own_entryN (Jvm.Free.JP.mathPlain rfl (by decide +kernel)) fun p e s m below meth c s₁ hx hby hml hown hnm hret hlk hZ hh X0 e0 => ?_
  have N0 := Fr.nil n0
  rw [ef_19_80 m ]
  refine og s₁ (mkF m 10 #[vI 34, vI 28] [.int 28]) (fun _ k => qi X0 hx hby d19_0 rfl rfl (qi X0 hx hby d19_1 rfl rfl (XS.icmpYes X0.here hx rfl (pc0 := 2) (pc' := 9) rfl (hb hby d19_2) rfl (tlt (by decide : (28 : Int32) < (34 : Int32))).2.2.1 (by decide) (by decide) (qi X0 hx hby d19_9 rfl rfl k)))) ?_
  exact own_leaveN X0 hlk (v := some (.int 28)) (own_nr hret) (lb rfl) (lb rfl) (by rw [e0]; exact ⟨rfl, N0, rfl⟩) (fun fs hr => retI X0 hx hret (hb hby d19_10) hr)
abbrev R28_78 : Room := { frames := 1, cells := 1, slots := 28, locals := 18 }
def Q28_78 (Z : State) (ra0 : Addr) (kc1 : ClassId) (cs2 : List Int32) (h0 : Heap) (n0 : Nat) (v : Option Value) (h : Heap) (L : List Loc) : Prop := (∃ (b2 : Addr) (k2 : ClassId), v = some (.ref b2) ∧ Fr n0 L ∧ Keep h0 h [] ∧ h0.size ≤ b2 ∧ Arv Z h b2 k2 .byte (28 : Int32) (own_by cs2) (.int 0))
theorem rm28_78 l Z a0 (hw : HW Z a0) ra0 kc1 (cs2 : List Int32) h0 n0 (OLD : Old Z n0 h0) (A' : cs2.length = 28) (B' : own_L cs2) (C' : Arv Z h0 ra0 kc1 .byte (34 : Int32) (own_by cs2) (.int 0)) :
    own_CN l Z y21 jdk_65_method_133_code 5 (some (.array .byte)) [] R28_78 #[.ref ra0, .int 0, .int 28] h0 (Q28_78 Z ra0 kc1 cs2 h0 n0) := by
  refine own_entryN (plainFor_of_name pn_4) fun p e s m below meth c s₁ hx hby hml hown hnm hret hlk hZ hh X0 e0 => ?_
  have N0 := Fr.nil n0
  rw [ef_28_78 m ra0]
  refine og s₁ (mkF m 2 #[vR ra0, vI 0, vI 28, vU, vU] [.int 28, .int 0]) (fun _ k => qi X0 hx hby d28_0 rfl rfl (qi X0 hx hby d28_1 rfl rfl k)) ?_
  obtain ⟨_, T1, L1, X1, hQ1, st1⟩ := own_tc X0 hx hZ hown (ow hw 158) (ow hw 159) (rm29_79 l Z a0 hw  h0 n0 OLD ) (ow hw 160) (ow hw 116) e0 (g := (mkF m 2 #[vR ra0, vI 0, vI 28, vU, vU] [.int 28, .int 0])) rfl (zs hml) (argsL := [.int 0, .int 28]) (rest := []) (lenOf pd_17 rfl) rfl (hb hby d28_2) (W := 0) rfl
  obtain ⟨rfl, Nq1, eq1⟩ := hQ1
  have N1 := Fr.app N0 Nq1
  refine og T1 (mkF m 10 #[vR ra0, vI 0, vI 28, vI 28, vU] [.int 28]) (fun _ k => st1.trans (qi X1 hx hby d28_5 rfl rfl (qi X1 hx hby d28_6 rfl rfl (XS.isub X1.here hx rfl (hb hby d28_7) rfl (XS.istoreN X1.here hx rfl (hb hby d28_8) rfl (l' := #[vR ra0, vI 0, vI 28, vI 28, vU]) rfl (qi X1 hx hby d28_9 rfl rfl k)))))) ?_
  obtain ⟨T2, h2, k2, X2, e2, E2, A2, st2⟩ := newP X1 hx hZ (ow hw 15) eq1 (g := (mkF m 10 #[vR ra0, vI 0, vI 28, vI 28, vU] [.int 28])) rfl (hb hby d28_10) rfl (by decide) (cap := 28) (by decide) (lb rfl) (lb rfl) (lb rfl)
  obtain ⟨b2, gb2⟩ : ∃ z, z = h0.size := ⟨_, rfl⟩
  rw [← gb2] at A2 st2
  have g3 : n0 ≤ b2 := Nat.le_trans (own_osz OLD) (Nat.le_of_eq gb2.symm)
  have z4 : h0.size ≤ b2 := Nat.le_trans (Nat.le_refl _) (Nat.le_of_eq gb2.symm)
  have V2 : Arv Z h2 b2 k2 .byte (28 : Int32) (own_by ([] : List Int32)) (.int 0) := Arv.new A2 (by decide)
  refine og T2 (mkF m 20 #[vR ra0, vI 0, vI 28, vI 28, vR b2] [.ref ra0, .int 0, .ref b2, .int 0, .ref ra0]) (fun _ k => st2 _ (XS.astore X2.here hx rfl (hb hby d28_12) rfl rfl (l' := #[vR ra0, vI 0, vI 28, vI 28, vR b2]) rfl (qa X2 hx hby d28_14 rfl rfl rfl (qi X2 hx hby d28_15 rfl rfl (XS.aload X2.here hx rfl (hb hby d28_16) rfl rfl (qc X2 hx hby d28_18 rfl (qa X2 hx hby d28_19 rfl rfl rfl k))))))) ?_
  have F5 := (C'.ext E2)
  obtain ⟨cl6, Ar6, -, Sr6, Nr6, -, -⟩ := id F5
  refine og T2 (mkF m 21 #[vR ra0, vI 0, vI 28, vI 28, vR b2] [.int 34, .int 0, .ref b2, .int 0, .ref ra0]) (fun t k => X2.arraylength hx (by rw [e2]; exact Ar6.1) (State.isArrayOf_alike hZ.alike Ar6.2.1) (g := (mkF m 20 #[vR ra0, vI 0, vI 28, vI 28, vR b2] [.ref ra0, .int 0, .ref b2, .int 0, .ref ra0])) rfl rfl (hb hby d28_20) t (by rw [len_of Sr6 Nr6]; exact k)) ?_
  refine og T2 (mkF m 24 #[vR ra0, vI 0, vI 28, vI 28, vR b2] [.int 28, .int 34, .int 0, .ref b2, .int 0, .ref ra0]) (fun _ k => qi X2 hx hby d28_21 rfl rfl (XS.isub X2.here hx rfl (hb hby d28_22) rfl (qi X2 hx hby d28_23 rfl rfl k))) ?_
  have F7 := (OLD.ext E2)
  obtain ⟨_, T8, L8, X8, hQ8, st8⟩ := own_tc X2 hx hZ hown (ow hw 118) (ow hw 119) (rm19_80 l Z a0 hw  h2 n0 F7 ) (ow hw 120) (ow hw 110) e2 (g := (mkF m 24 #[vR ra0, vI 0, vI 28, vI 28, vR b2] [.int 28, .int 34, .int 0, .ref b2, .int 0, .ref ra0])) rfl (zs hml) (argsL := [.int 34, .int 28]) (rest := [.int 0, .ref b2, .int 0, .ref ra0]) (lenOf pd_10 rfl) rfl (hb hby d28_24) (W := 4) rfl
  obtain ⟨rfl, Nq8, eq8⟩ := hQ8
  have N8 := Fr.app N1 Nq8
  refine ot T8 (mkF m 27 #[vR ra0, vI 0, vI 28, vI 28, vR b2] [.int 28, .int 0, .ref b2, .int 0, .ref ra0]) st8 ?_
  obtain ⟨T9, h9, L9, X9, e9, N9, K9, Vq9, st9⟩ := own_cpB X8 hx hZ hown (ow hw 121) (ow hw 97) (ow hw 95) (ow hw 96) eq8 F5 V2 (sp := (0 : Int32)) (dp := (0 : Int32)) (nn := (28 : Int32)) rfl (by decide) (by decide) (by decide) (by decide) (show _ = _ from rfl) ((Eq.symm A') ▸ lb rfl) N8 g3 (g := (mkF m 27 #[vR ra0, vI 0, vI 28, vI 28, vR b2] [.int 28, .int 0, .ref b2, .int 0, .ref ra0])) rfl (zs hml) rfl (hb hby d28_27) (lb rfl) (W := 0) (lb rfl) (lb rfl)
  have V9 : Arv Z h9 b2 k2 .byte (28 : Int32) (own_by cs2) (.int 0) := (by simpa using Vq9)
  refine og T9 (mkF m 32 #[vR ra0, vI 0, vI 28, vI 28, vR b2] [.ref b2]) (fun _ k => st9 _ (XS.aload X9.here hx rfl (hb hby d28_30) rfl rfl k)) ?_
  have KEEP := (((Keep.refl h0 []).ext E2).trans K9 (allS (Or.inr z4) all0))
  exact own_leaveN X9 hlk (v := some (.ref b2)) (own_nr hret) (lb rfl) (lb rfl) (by rw [e9]; exact ⟨b2, k2, rfl, N9, KEEP, z4, V9⟩) (own_ra X9 hx hret rfl rfl rfl (hb hby d28_32))
abbrev R27_77 : Room := { frames := 2, cells := 1, slots := 28, locals := 34 }
def Q27_77 (Z : State) (ra0 : Addr) (kc1 : ClassId) (cs2 : List Int32) (h0 : Heap) (n0 : Nat) (v : Option Value) (h : Heap) (L : List Loc) : Prop := (∃ (o3 : Addr) (kc4 : ClassId), v = some (.ref o3) ∧ Fr n0 L ∧ Keep h0 h [] ∧ h0.size ≤ o3 ∧ Arv Z h o3 kc4 .byte (28 : Int32) (own_by cs2) (.int 0))
theorem rm27_77 l Z a0 (hw : HW Z a0) ra0 kc1 (cs2 : List Int32) h0 n0 (OLD : Old Z n0 h0) (A' : cs2.length = 28) (B' : own_L cs2) (C' : Arv Z h0 ra0 kc1 .byte (34 : Int32) (own_by cs2) (.int 0)) :
    own_CN l Z y22 jdk_65_method_132_code 3 (some (.array .byte)) [] R27_77 #[.ref ra0, .int 0, .int 28] h0 (Q27_77 Z ra0 kc1 cs2 h0 n0) := by
  refine own_entryN (plainFor_of_name pn_4) fun p e s m below meth c s₁ hx hby hml hown hnm hret hlk hZ hh X0 e0 => ?_
  have N0 := Fr.nil n0
  rw [ef_27_77 m ra0]
  refine og s₁ (mkF m 6 #[vR ra0, vI 0, vI 28] [.ref ra0, .int 28]) (fun _ k => qi X0 hx hby d27_0 rfl rfl (XS.ifNo X0.here hx rfl (hb hby d27_1) rfl ((if0 _ _).trans (tq 0)) (qi X0 hx hby d27_4 rfl rfl (qa X0 hx hby d27_5 rfl rfl rfl k)))) ?_
  obtain ⟨cl1, Ar1, -, Sr1, Nr1, -, -⟩ := id C'
  refine og s₁ (mkF m 7 #[vR ra0, vI 0, vI 28] [.int 34, .int 28]) (fun t k => X0.arraylength hx (by rw [e0]; exact Ar1.1) (State.isArrayOf_alike hZ.alike Ar1.2.1) (g := (mkF m 6 #[vR ra0, vI 0, vI 28] [.ref ra0, .int 28])) rfl rfl (hb hby d27_6) t (by rw [len_of Sr1 Nr1]; exact k)) ?_
  refine og s₁ (mkF m 13 #[vR ra0, vI 0, vI 28] [.int 28, .int 0, .ref ra0]) (fun _ k => qn X0 hx hby d27_7 rfl rfl (feq (by decide : ¬ ((28 : Int32) = (34 : Int32)))).1 (qa X0 hx hby d27_10 rfl rfl rfl (qi X0 hx hby d27_11 rfl rfl (qi X0 hx hby d27_12 rfl rfl k)))) ?_
  obtain ⟨_, T2, L2, X2, hQ2, st2⟩ := own_tc X0 hx hZ hown (ow hw 155) (ow hw 156) (rm28_78 l Z a0 hw ra0 kc1 cs2 h0 n0 OLD A' B' C') (ow hw 157) (ow hw 116) e0 (g := (mkF m 13 #[vR ra0, vI 0, vI 28] [.int 28, .int 0, .ref ra0])) rfl (zs hml) (argsL := [.ref ra0, .int 0, .int 28]) (rest := []) (lenOf pd_18 rfl) rfl (hb hby d27_13) (W := 0) rfl
  obtain ⟨o3, kc4, rfl, Nq2, K2, f5, f6⟩ := hQ2
  have N2 := Fr.app N0 Nq2
  have g7 : n0 ≤ o3 := Nat.le_trans (own_osz OLD) f5
  have z8 : h0.size ≤ o3 := Nat.le_trans (Nat.le_refl _) f5
  refine ot T2 (mkF m 16 #[vR ra0, vI 0, vI 28] [.ref o3]) st2 ?_
  have KEEP := ((Keep.refl h0 []).trans K2 all0)
  exact own_leaveN X2 hlk (v := some (.ref o3)) (own_nr hret) (lb rfl) (lb rfl) (by exact ⟨o3, kc4, rfl, N2, KEEP, z8, f6⟩) (own_ra X2 hx hret rfl rfl rfl (hb hby d27_16))
abbrev R22_76 : Room := { frames := 3, cells := 1, slots := 28, locals := 49 }
def Q22_76 (Z : State) (ra0 ra1 ra2 : Addr) (kc3 : ClassId) (cs4 : List Int32) (G1 : Int32) (h0 : Heap) (n0 : Nat) (v : Option Value) (h : Heap) (L : List Loc) : Prop := (∃ (o11 : Addr) (kc12 : ClassId), (0 : Int32) = (0 : Int32) ∧ v = none ∧ Fr n0 L ∧ Keep h0 h [ra0] ∧ h0.size ≤ o11 ∧ Fld Z h ra0 cN1 "coder" "B" (.int 0) ∧ Fld Z h ra0 cN1 "value" "[B" (.ref o11) ∧ Arv Z h o11 kc12 .byte (28 : Int32) (own_by cs4) (.int 0))
theorem rm22_76 l Z a0 (hw : HW Z a0) ra0 ra1 ra2 kc3 (cs4 : List Int32) (G1 : Int32) h0 n0 (OLD : Old Z n0 h0) (A' : Exa Z h0 ra0 cN1) (B' : Fld Z h0 ra0 cN1 "coder" "B" (.int 0)) (C' : Fld Z h0 ra0 cN1 "value" "[B" .null) (D' : Exa Z h0 ra1 cN3) (E' : Fld Z h0 ra1 cN0 "coder" "B" (.int 0)) (F' : Fld Z h0 ra1 cN0 "count" "I" (.int 28)) (G' : Fld Z h0 ra1 cN0 "value" "[B" (.ref ra2)) (H' : cs4.length = 28) (I' : own_L cs4) (J' : Arv Z h0 ra2 kc3 .byte (34 : Int32) (own_by cs4) (.int 0)) (O2 : Sta Z Z.heap cN1 "COMPACT_STRINGS" "Z" (.int G1)) (P5 : ¬ (G1 = (0 : Int32))) (K' : n0 ≤ ra0) (ne_ra2_ra0 : ra2 ≠ ra0) :
    own_CN l Z y23 jdk_42_method_150_code 5 none [] R22_76 #[.ref ra0, .ref ra1, .null] h0 (Q22_76 Z ra0 ra1 ra2 kc3 cs4 G1 h0 n0) := by
  refine own_entryN (plainFor_of_name pn_0) fun p e s m below meth c s₁ hx hby hml hown hnm hret hlk hZ hh X0 e0 => ?_
  have N0 := Fr.nil n0
  rw [ef_22_34 m ra0 ra1]
  refine og s₁ (mkF m 1 #[vR ra0, vR ra1, vN, vU, vU] [.ref ra0]) (fun _ k => qa X0 hx hby d22_0 rfl rfl rfl k) ?_
  obtain ⟨T1, X1, e1, st1⟩ := initO X0 hx hZ hown (ow hw 11) (ow hw 12) (ow hw 13) e0 (g := (mkF m 1 #[vR ra0, vR ra1, vN, vU, vU] [.ref ra0])) rfl (zs hml) rfl (hb hby d22_1) (by decide) (W := 0) (lb rfl) (by decide)
  refine og T1 (mkF m 5 #[vR ra0, vR ra1, vN, vU, vU] [.ref ra1]) (fun _ k => st1 _ (qa X1 hx hby d22_4 rfl rfl rfl k)) ?_
  obtain ⟨_, T2, L2, X2, hQ2, st2⟩ := own_vc X1 hx hZ hown (ow hw 134) (ow hw 135) (ow hw 137) (ow hw 136) D' (rm23_35 l Z a0 hw ra1 ra2 h0 n0 OLD G') (ow hw 138) (ow hw 41) e1 (g := (mkF m 5 #[vR ra0, vR ra1, vN, vU, vU] [.ref ra1])) rfl (zs hml) (argsL := []) (rest := []) (lenOf pd_14 rfl) rfl (hb hby d22_5) (W := 0) rfl
  obtain ⟨rfl, Nq2, eq2⟩ := hQ2
  have N2 := Fr.app N0 Nq2
  refine og T2 (mkF m 10 #[vR ra0, vR ra1, vN, vR ra2, vU] [.ref ra1]) (fun _ k => st2.trans (XS.astoreN X2.here hx rfl (hb hby d22_8) rfl rfl (l' := #[vR ra0, vR ra1, vN, vR ra2, vU]) rfl (qa X2 hx hby d22_9 rfl rfl rfl k))) ?_
  obtain ⟨cq4, kq4, q4a, q4b, q4c⟩ := isOf hZ eq2 D'
  obtain ⟨_, _, ⟨T4, L4, k4, n4⟩, -, X4, ⟨Lc4, hQ4, l4, y4, z4⟩, st4⟩ := X2.virtualBack hx (y := y17) (z := y18) hown (mvT hZ (ow hw 139)) (mvT hZ (ow hw 140)) (own_nf (args := #[]) (z := y4) (mvT hZ (ow hw 76)) rfl) (mvT hZ (ow hw 142)) (mvT hZ (ow hw 143)) (by decide) (backOf (W := 0) (rm24_36 l Z a0 hw ra1 ((28 : Int32)) h0 n0 OLD F' D') hZ (ow hw 144) (ow hw 33) (lb rfl) (lb rfl)) q4a q4c (g := (mkF m 10 #[vR ra0, vR ra1, vN, vR ra2, vU] [.ref ra1])) rfl (zs hml) (Steps.refl _) (argsL := []) (rest := []) (lenOf pd_15 rfl) rfl (lb rfl) (hb hby d22_10) (fun _ _ => ⟨rfl, eq2, (lb rfl), (lb rfl)⟩)
  dsimp only [Pt.U, Pt.locs, Pt.cells, Pt.slots] at X4 l4 y4 z4 st4 hQ4
  subst l4 y4 z4
  obtain ⟨rfl, Nq4, eq4⟩ := hQ4
  have N4 := Fr.app N2 Nq4
  refine og T4 (mkF m 16 #[vR ra0, vR ra1, vN, vR ra2, vI 28] [.ref ra1]) (fun _ k => st4.trans (XS.istore X4.here hx rfl (hb hby d22_13) rfl (l' := #[vR ra0, vR ra1, vN, vR ra2, vI 28]) rfl (qa X4 hx hby d22_15 rfl rfl rfl k))) ?_
  obtain ⟨_, T5, L5, X5, hQ5, st5⟩ := own_vc X4 hx hZ hown (ow hw 147) (ow hw 148) (ow hw 150) (ow hw 149) D' (rm26_38 l Z a0 hw ra1 G1 ((0 : Int32)) h0 n0 OLD O2 P5 E') (ow hw 151) (ow hw 41) eq4 (g := (mkF m 16 #[vR ra0, vR ra1, vN, vR ra2, vI 28] [.ref ra1])) rfl (zs hml) (argsL := []) (rest := []) (lenOf pd_16 rfl) rfl (hb hby d22_16) (W := 0) rfl
  rcases hQ5 with hQ5 | hQ5
  · obtain ⟨hc6, rfl, Nq5, eq5⟩ := hQ5
    have N5 := Fr.app N4 Nq5
    refine og T5 (mkF m 24 #[vR ra0, vR ra1, vN, vR ra2, vI 28] [.int 0, .ref ra0]) (fun _ k => st5.trans (XS.ifNo X5.here hx rfl (hb hby d22_19) rfl ((if0 _ _).trans (feq (by decide : ¬ ((1 : Int32) = (0 : Int32)))).1) (qa X5 hx hby d22_22 rfl rfl rfl (qc X5 hx hby d22_23 rfl k)))) ?_
    obtain ⟨T7, h7, X7, e7, W7, st7⟩ := putFN X5 hx hZ hown (ow hw 21) Via.refl eq5 B' A' (Or.inr ⟨(ow hw 17), rfl, hnm⟩) (ow hw 1) (ty := .byte) (v' := (.int (nar .byte (0 : Int32)))) (by decide) rfl (fits_nar_byte _) (g := (mkF m 24 #[vR ra0, vR ra1, vN, vR ra2, vI 28] [.int 0, .ref ra0])) rfl rfl (hb hby d22_24)
    rw [show nar .byte (0 : Int32) = (0 : Int32) from rfl] at W7
    have Fw7 := B'.same W7
    have N7 := Fr.snoc X7 N5 K'
    refine og T7 (mkF m 32 #[vR ra0, vR ra1, vN, vR ra2, vI 28] [.int 28, .int 0, .ref ra2, .ref ra0]) (fun _ k => st7 _ (qa X7 hx hby d22_27 rfl rfl rfl (qa X7 hx hby d22_28 rfl rfl rfl (qc X7 hx hby d22_29 rfl (XS.iload X7.here hx rfl (hb hby d22_30) rfl k))))) ?_
    have F8 := (J'.other W7 ne_ra2_ra0)
    have F9 := (OLD.wr W7 K')
    obtain ⟨_, T10, L10, X10, hQ10, st10⟩ := own_tc X7 hx hZ hown (ow hw 152) (ow hw 153) (rm27_77 l Z a0 hw ra2 kc3 cs4 h7 n0 F9 H' I' F8) (ow hw 154) (ow hw 116) e7 (g := (mkF m 32 #[vR ra0, vR ra1, vN, vR ra2, vI 28] [.int 28, .int 0, .ref ra2, .ref ra0])) rfl (zs hml) (argsL := [.ref ra2, .int 0, .int 28]) (rest := [.ref ra0]) (lenOf pd_18 rfl) rfl (hb hby d22_32) (W := 1) rfl
    obtain ⟨o11, kc12, rfl, Nq10, K10, f13, f14⟩ := hQ10
    have N10 := Fr.app N7 Nq10
    have g15 : n0 ≤ o11 := Nat.le_trans (own_osz F9) f13
    have F17 := (Nat.le_trans (Nat.le_refl _) (Nat.le_of_eq W7.size.symm))
    have z16 : h0.size ≤ o11 := Nat.le_trans F17 f13
    refine ot T10 (mkF m 35 #[vR ra0, vR ra1, vN, vR ra2, vI 28] [.ref o11, .ref ra0]) st10 ?_
    have F18 := ((A'.wr W7).keep K10)
    have F19 := ((C'.other W7 (Or.inr (slot_ne (Or.inr (ow hw 16)) (Or.inr (ow hw 17)) (by decide) (t := (.array .byte)) (t' := .byte) (by decide) (by decide)))).keep K10 nin0)
    obtain ⟨T20, h20, X20, e20, W20, st20⟩ := putF X10 hx hZ hown (host := "") (Or.inl (ow hw 20)) Via.refl rfl F19 F18 (Or.inr ⟨(ow hw 16), rfl, hnm⟩) (ow hw 1) (ty := (.array .byte)) (by decide) rfl rfl (g := (mkF m 35 #[vR ra0, vR ra1, vN, vR ra2, vI 28] [.ref o11, .ref ra0])) rfl rfl (hb hby d22_35)
    have Fw20 := F19.same W20
    have N20 := Fr.snoc X20 N10 K'
    refine og T20 (mkF m 97 #[vR ra0, vR ra1, vN, vR ra2, vI 28] []) (fun _ k => st20 _ (XS.goto X20.here hx rfl (pc0 := 38) (pc' := 97) rfl (hb hby d22_38) (by decide) (by decide) k)) ?_
    have F21 := ((Fw7.keep K10 nin0).other W20 (Or.inr (slot_ne (Or.inr (ow hw 17)) (Or.inr (ow hw 16)) (by decide) (t := .byte) (t' := (.array .byte)) (by decide) (by decide))))
    have F22 := (f14.other W20 (Ne.symm (own_ne_lo (Nat.lt_of_lt_of_le A'.lt (Nat.le_of_eq W7.size.symm)) f13)))
    have KEEP := ((((Keep.refl h0 [ra0]).wr W7 (Or.inl (List.mem_of_getElem? (i := 0) rfl))).trans K10 all0).wr W20 (Or.inl (List.mem_of_getElem? (i := 0) rfl)))
    exact own_leaveN X20 hlk (v := none) (fun _ => rfl) (lb rfl) (lb rfl) (by rw [e20]; exact ⟨o11, kc12, hc6, rfl, N20, KEEP, z16, F21, Fw20, F22⟩) (fun fs hr => X20.returnOut hx hret (hb hby d22_97) hr)
  · exfalso
    obtain ⟨hd0, -⟩ := hQ5
    exact absurd hd0 (fun q => q (by decide : (0 : Int32) = (0 : Int32)))
abbrev R21_75 : Room := { frames := 4, cells := 1, slots := 28, locals := 65 }
def Q21_75 (Z : State) (ra0 ra1 ra2 : Addr) (kc3 : ClassId) (cs4 : List Int32) (G1 : Int32) (h0 : Heap) (n0 : Nat) (v : Option Value) (h : Heap) (L : List Loc) : Prop := (∃ (o2 : Addr) (kc3 : ClassId), (0 : Int32) = (0 : Int32) ∧ v = none ∧ Fr n0 L ∧ Keep h0 h [ra0] ∧ h0.size ≤ o2 ∧ Fld Z h ra0 cN1 "coder" "B" (.int 0) ∧ Fld Z h ra0 cN1 "value" "[B" (.ref o2) ∧ Arv Z h o2 kc3 .byte (28 : Int32) (own_by cs4) (.int 0))
theorem rm21_75 l Z a0 (hw : HW Z a0) ra0 ra1 ra2 kc3 (cs4 : List Int32) (G1 : Int32) h0 n0 (OLD : Old Z n0 h0) (A' : Exa Z h0 ra0 cN1) (B' : Fld Z h0 ra0 cN1 "coder" "B" (.int 0)) (C' : Fld Z h0 ra0 cN1 "value" "[B" .null) (D' : Exa Z h0 ra1 cN3) (E' : Fld Z h0 ra1 cN0 "coder" "B" (.int 0)) (F' : Fld Z h0 ra1 cN0 "count" "I" (.int 28)) (G' : Fld Z h0 ra1 cN0 "value" "[B" (.ref ra2)) (H' : cs4.length = 28) (I' : own_L cs4) (J' : Arv Z h0 ra2 kc3 .byte (34 : Int32) (own_by cs4) (.int 0)) (O2 : Sta Z Z.heap cN1 "COMPACT_STRINGS" "Z" (.int G1)) (P5 : ¬ (G1 = (0 : Int32))) (K' : n0 ≤ ra0) (ne_ra2_ra0 : ra2 ≠ ra0) :
    own_CN l Z y24 jdk_42_method_53_code 2 none [] R21_75 #[.ref ra0, .ref ra1] h0 (Q21_75 Z ra0 ra1 ra2 kc3 cs4 G1 h0 n0) := by
  refine own_entryN (plainFor_of_name pn_0) fun p e s m below meth c s₁ hx hby hml hown hnm hret hlk hZ hh X0 e0 => ?_
  have N0 := Fr.nil n0
  rw [ef_1_5 m ra0 ra1]
  refine og s₁ (mkF m 3 #[vR ra0, vR ra1] [.null, .ref ra1, .ref ra0]) (fun _ k => qa X0 hx hby d21_0 rfl rfl rfl (qa X0 hx hby d21_1 rfl rfl rfl (XS.aconstNull X0.here hx rfl (hb hby d21_2) k))) ?_
  obtain ⟨_, T1, L1, X1, hQ1, st1⟩ := own_sc X0 hx hZ rfl hown (ow hw 131) (ow hw 132) (rm22_76 l Z a0 hw ra0 ra1 ra2 kc3 cs4 G1 h0 n0 OLD A' B' C' D' E' F' G' H' I' J' O2 P5 K' ne_ra2_ra0) (ow hw 133) (ow hw 2) e0 (g := (mkF m 3 #[vR ra0, vR ra1] [.null, .ref ra1, .ref ra0])) rfl (zs hml) (argsL := [.ref ra1, .null]) (rest := []) (lenOf pd_19 rfl) rfl (hb hby d21_3) (W := 0) rfl
  obtain ⟨o2, kc3, hc4, rfl, Nq1, K1, f5, f6, f7, f8⟩ := hQ1
  have N1 := Fr.app N0 Nq1
  have g9 : n0 ≤ o2 := Nat.le_trans (own_osz OLD) f5
  have z10 : h0.size ≤ o2 := Nat.le_trans (Nat.le_refl _) f5
  refine ot T1 (mkF m 6 #[vR ra0, vR ra1] []) st1 ?_
  have KEEP := ((Keep.refl h0 [ra0]).trans K1 (allS (Or.inl (List.mem_of_getElem? (i := 0) rfl)) all0))
  exact own_leaveN X1 hlk (v := none) (fun _ => rfl) (lb rfl) (lb rfl) (by exact ⟨o2, kc3, hc4, rfl, N1, KEEP, z10, f6, f7, f8⟩) (fun fs hr => X1.returnOut hx hret (hb hby d21_6) hr)
abbrev R20_74 : Room := { frames := 5, cells := 2, slots := 32, locals := 79 }
def Q20_74 (Z : State) (ra0 ra1 : Addr) (kc2 : ClassId) (cs3 : List Int32) (G1 : Int32) (h0 : Heap) (n0 : Nat) (v : Option Value) (h : Heap) (L : List Loc) : Prop := (∃ (b1 o11 : Addr) (kc12 : ClassId), (0 : Int32) = (0 : Int32) ∧ v = some (.ref b1) ∧ Fr n0 L ∧ Keep h0 h [] ∧ h0.size ≤ b1 ∧ h0.size ≤ o11 ∧ Exa Z h b1 cN1 ∧ Fld Z h b1 cN1 "coder" "B" (.int 0) ∧ Fld Z h b1 cN1 "value" "[B" (.ref o11) ∧ Arv Z h o11 kc12 .byte (28 : Int32) (own_by cs3) (.int 0))
theorem rm20_74 l Z a0 (hw : HW Z a0) ra0 ra1 kc2 (cs3 : List Int32) (G1 : Int32) h0 n0 (OLD : Old Z n0 h0) (A' : Exa Z h0 ra0 cN3) (B' : Fld Z h0 ra0 cN0 "coder" "B" (.int 0)) (C' : Fld Z h0 ra0 cN0 "count" "I" (.int 28)) (D' : Fld Z h0 ra0 cN0 "value" "[B" (.ref ra1)) (E' : cs3.length = 28) (F' : own_L cs3) (G' : Arv Z h0 ra1 kc2 .byte (34 : Int32) (own_by cs3) (.int 0)) (O2 : Sta Z Z.heap cN1 "COMPACT_STRINGS" "Z" (.int G1)) (P5 : ¬ (G1 = (0 : Int32))) :
    own_CN l Z y25 jdk_67_method_42_code 1 (some (.object cN1)) [] R20_74 #[.ref ra0] h0 (Q20_74 Z ra0 ra1 kc2 cs3 G1 h0 n0) := by
  refine own_entryN (plainFor_of_name pn_2) fun p e s m below meth c s₁ hx hby hml hown hnm hret hlk hZ hh X0 e0 => ?_
  have N0 := Fr.nil n0
  rw [ef_5_7 m ra0]
  obtain ⟨T1, h1, X1, e1, E1, A1, D1, U1, st1⟩ := newO X0 hx hZ hown (ow hw 127) (ow hw 1) (ow hw 2) e0 (g := (mkF m 0 #[vR ra0] [])) rfl (hb hby d20_0) (lb rfl) (lb rfl)
  obtain ⟨b1, gb1⟩ : ∃ z, z = h0.size := ⟨_, rfl⟩
  rw [← gb1] at A1 D1 U1 st1
  have g2 : n0 ≤ b1 := Nat.le_trans (own_osz OLD) (Nat.le_of_eq gb1.symm)
  have z3 : h0.size ≤ b1 := Nat.le_trans (Nat.le_refl _) (Nat.le_of_eq gb1.symm)
  refine og T1 (mkF m 5 #[vR ra0] [.ref ra0, .ref b1, .ref b1]) (fun _ k => st1 _ (XS.dup X1.here hx rfl (hb hby d20_3) rfl rfl (qa X1 hx hby d20_4 rfl rfl rfl k))) ?_
  have F4 := (A'.ext E1)
  have F5 := (B'.ext E1)
  have F6 := (C'.ext E1)
  have F7 := (D'.ext E1)
  have F8 := (G'.ext E1)
  have F9 := (OLD.ext E1)
  obtain ⟨_, T10, L10, X10, hQ10, st10⟩ := own_sc X1 hx hZ rfl hown (ow hw 128) (ow hw 129) (rm21_75 l Z a0 hw b1 ra0 ra1 kc2 cs3 G1 h1 n0 F9 A1 (D1 (Or.inr (ow hw 17)) (ty := .byte) (by decide)) (D1 (Or.inr (ow hw 16)) (ty := (.array .byte)) (by decide)) F4 F5 F6 F7 E' F' F8 O2 P5 g2 (own_ne_lo G'.lt (Nat.le_of_eq gb1.symm))) (ow hw 130) (ow hw 2) e1 (g := (mkF m 5 #[vR ra0] [.ref ra0, .ref b1, .ref b1])) rfl (zs hml) (argsL := [.ref ra0]) (rest := [.ref b1]) (lenOf pd_20 rfl) rfl (hb hby d20_5) (W := 1) rfl
  obtain ⟨o11, kc12, hc13, rfl, Nq10, K10, f14, f15, f16, f17⟩ := hQ10
  have N10 := Fr.app N0 Nq10
  have g18 : n0 ≤ o11 := Nat.le_trans (own_osz F9) f14
  have F20 := (Nat.le_trans (Nat.le_refl _) E1.1)
  have z19 : h0.size ≤ o11 := Nat.le_trans F20 f14
  refine ot T10 (mkF m 8 #[vR ra0] [.ref b1]) st10 ?_
  have F21 := (A1.keep K10)
  have KEEP := (((Keep.refl h0 []).ext E1).trans K10 (allS (Or.inr z3) all0))
  exact own_leaveN X10 hlk (v := some (.ref b1)) (own_nr hret) (lb rfl) (lb rfl) (by exact ⟨b1, o11, kc12, hc13, rfl, N10, KEEP, z3, z19, F21, f15, f16, f17⟩) (own_ra X10 hx hret rfl rfl rfl (hb hby d20_8))
abbrev R4_59 : Room := { frames := 6, cells := 13, slots := 2989, locals := 94 }
def Q4_59 (Z : State) (ra0 ra1 : Addr) (kc2 : ClassId) (cs3 : List Int32) (kw0 : Addr) (G1 : Int32) (us up : Value) (h0 : Heap) (n0 : Nat) (v : Option Value) (h : Heap) (L : List Loc) : Prop := (∃ (b1 o92 o93 : Addr) (kc94 : ClassId), (0 : Int32) = (0 : Int32) ∧ v = some (.ref b1) ∧ Fr n0 L ∧ Keep h0 h [] ∧ h0.size ≤ b1 ∧ h0.size ≤ o92 ∧ h0.size ≤ o93 ∧ Exa Z h b1 cN2 ∧ Unt h b1 ∧ Fld Z h b1 cN5 "cause" "Ljava/lang/Throwable;" (.ref b1) ∧ Fld Z h b1 cN5 "detailMessage" "Ljava/lang/String;" (.ref o92) ∧ Fld Z h b1 cN2 "reason" "Lcom/example/webhooks_to_ledger/webhookstoledger/HoldReason;" (.ref kw0) ∧ Fld Z h b1 cN5 "suppressedExceptions" "Ljava/util/List;" up ∧ Exa Z h o92 cN1 ∧ Fld Z h o92 cN1 "coder" "B" (.int 0) ∧ Fld Z h o92 cN1 "value" "[B" (.ref o93) ∧ Arv Z h o93 kc94 .byte (28 : Int32) (own_by ((cL0 ++ cs3) ++ cL1)) (.int 0))
theorem rm4_59 l Z a0 (hw : HW Z a0) ra0 ra1 kc2 (cs3 : List Int32) kw0 (G1 : Int32) (us : Value) (up : Value) h0 n0 (OLD : Old Z n0 h0) (A' : Exa Z h0 ra0 cN1) (B' : Fld Z h0 ra0 cN1 "coder" "B" (.int 0)) (C' : Fld Z h0 ra0 cN1 "value" "[B" (.ref ra1)) (D' : cs3.length = 1) (E' : own_L cs3) (F' : Arv Z h0 ra1 kc2 .byte (1 : Int32) (own_by cs3) (.int 0)) (SK0 : Sta Z Z.heap cN4 "UNMAPPED_TYPE" "Lcom/example/webhooks_to_ledger/webhookstoledger/HoldReason;" (.ref kw0)) (EK0 : Exa Z Z.heap kw0 cN4) (O2 : Sta Z Z.heap cN1 "COMPACT_STRINGS" "Z" (.int G1)) (P5 : ¬ (G1 = (0 : Int32))) (Sus : Sta Z Z.heap cN5 "UNASSIGNED_STACK" "[Ljava/lang/StackTraceElement;" us) (rf_us : us.isRef = true) (Sup : Sta Z Z.heap cN5 "SUPPRESSED_SENTINEL" "Ljava/util/List;" up) (rf_up : up.isRef = true) (hl : l.stackTraces = true) (rus : us.isRef = true) :
    own_CW l Z true y30 prog_14_method_3_code 1 (some (.object cN2)) [] R4_59 #[.ref ra0] h0 [] (Q4_59 Z ra0 ra1 kc2 cs3 kw0 G1 us up h0 n0) := by
  refine own_entryW (plainFor_of_name pn_8) fun p e s m below meth c s₁ hx hby hml hown hnm hret hlk hZ hh hCH hSf hKn X0 e0 => ?_
  have N0 := Fr.nil n0
  have hS0 : s.Since s.vm h0.size := own_since s _
  have hk0 : h0.size ≤ h0.size := Nat.le_refl _
  have CH0 : CHr Z own_EL s.vm h0 s.vm h0 := CHr.refl hCH
  rw [ef_5_7 m ra0]
  obtain ⟨T1, h1, X1, e1, E1, A1, D1, U1, st1⟩ := newO X0 hx hZ hown (ow hw 26) (ow hw 27) (ow hw 24) e0 (g := (mkF m 0 #[vR ra0] [])) rfl (hb hby d4_0) (lb rfl) (lb rfl)
  obtain ⟨b1, gb1⟩ : ∃ z, z = h0.size := ⟨_, rfl⟩
  rw [← gb1] at A1 D1 U1 st1
  have g2 : n0 ≤ b1 := Nat.le_trans (own_osz OLD) (Nat.le_of_eq gb1.symm)
  have z3 : h0.size ≤ b1 := Nat.le_trans (Nat.le_refl _) (Nat.le_of_eq gb1.symm)
  have ch4 := CHr.ext E1 CH0.1
  have CH5 := CHr.trans CH0 ch4
  have Uu1 : Unt h1 b1 := U1
  refine og T1 (mkF m 4 #[vR ra0] [.ref b1, .ref b1]) (fun _ k => st1 _ (XS.dup X1.here hx rfl (hb hby d4_3) rfl rfl k)) ?_
  have F6 := (OLD.ext E1)
  obtain ⟨T7, X7, e7, st7⟩ := getS2 X1 hx hZ hown (host := "") (Or.inl (ow hw 28)) Via.refl e1 (SK0.ext F6.2) (g := (mkF m 4 #[vR ra0] [.ref b1, .ref b1])) rfl (hb hby d4_4)
  refine og T7 (mkF m 7 #[vR ra0] [.ref kw0, .ref b1, .ref b1]) st7 ?_
  obtain ⟨T8, h8, X8, e8, E8, A8, D8, U8, st8⟩ := newO X7 hx hZ hown (ow hw 31) (ow hw 32) (ow hw 33) e7 (g := (mkF m 7 #[vR ra0] [.ref kw0, .ref b1, .ref b1])) rfl (hb hby d4_7) (lb rfl) (lb rfl)
  obtain ⟨b8, gb8⟩ : ∃ z, z = h1.size := ⟨_, rfl⟩
  rw [← gb8] at A8 D8 U8 st8
  have g9 : n0 ≤ b8 := Nat.le_trans (own_osz F6) (Nat.le_of_eq gb8.symm)
  have F11 := (Nat.le_trans (Nat.le_refl _) E1.1)
  have z10 : h0.size ≤ b8 := Nat.le_trans F11 (Nat.le_of_eq gb8.symm)
  have ch12 := CHr.ext E8 CH5.1
  have CH13 := CHr.trans CH5 ch12
  refine og T8 (mkF m 11 #[vR ra0] [.ref b8, .ref b8, .ref kw0, .ref b1, .ref b1]) (fun _ k => st8 _ (XS.dup X8.here hx rfl (hb hby d4_10) rfl rfl k)) ?_
  have F14 := (F6.ext E8)
  obtain ⟨_, T15, L15, X15, hQ15, st15⟩ := own_sc X8 hx hZ rfl hown (ow hw 34) (ow hw 35) (rm5_7 l Z a0 hw b8 G1 h8 n0 F14 A8 (D8 (Or.inl (ow hw 48)) (ty := .byte) (by decide)) (D8 (Or.inl (ow hw 72)) (ty := .int) (by decide)) (D8 (Or.inl (ow hw 46)) (ty := (.array .byte)) (by decide)) O2 P5 g9) (ow hw 36) (ow hw 33) e8 (g := (mkF m 11 #[vR ra0] [.ref b8, .ref b8, .ref kw0, .ref b1, .ref b1])) rfl (zs hml) (argsL := []) (rest := [.ref b8, .ref kw0, .ref b1, .ref b1]) (lenOf pd_3 rfl) rfl (hb hby d4_11) (W := 4) rfl
  obtain ⟨o16, kc17, rfl, Nq15, K15, f18, f19, f20, f21, f22⟩ := hQ15
  have N15 := Fr.app N0 Nq15
  have g23 : n0 ≤ o16 := Nat.le_trans (own_osz F14) f18
  have F25 := (Nat.le_trans F11 E8.1)
  have z24 : h0.size ≤ o16 := Nat.le_trans F25 f18
  have ch26 := CHr.keep K15 (allS (Safe.exa hZ.alike A8 (by decide) (by decide)) all0) CH13.1
  have CH27 := CHr.trans CH13 ch26
  have sf28 := Safe.keep K15 (allS (Safe.exa hZ.alike A8 (by decide) (by decide)) all0) CH13.1 (Safe.new f18)
  refine ot T15 (mkF m 14 #[vR ra0] [.ref b8, .ref kw0, .ref b1, .ref b1]) st15 ?_
  have F30 := (Nat.le_trans (Nat.le_trans (Nat.le_trans hk0 E1.1) E8.1) K15.1)
  have F31 := (Nat.le_trans F25 K15.1)
  obtain ⟨l29, T29, h29, k29, lb29, lk29, X29, e29, E29, hS29, hk29, hZ29, hown29, Ex29, Fc29, Fv29, Av29, la29, lz29, ch29, Lt29, sf29, st29⟩ := ldcCH X15 hx hZ hown (ow hw 49) (own_wS hw) rfl hS0 F30 (own_EW hw) (by decide) CH27.1 (vs := [.int 101, .int 118, .int 101, .int 110, .int 116, .int 32, .int 116, .int 121, .int 112, .int 101, .int 32, .int 34]) (z := (12 : Int32)) (by decide) (by decide) (by decide) (g := (mkF m 14 #[vR ra0] [.ref b8, .ref kw0, .ref b1, .ref b1])) rfl (hb hby d4_14) (n := 48) (by decide) (by decide) (lb rfl) (lb rfl)
  have CH32 := CHr.trans CH27 ch29
  have Ay29 : Arv Z h29 lb29 lk29 .byte (12 : Int32) (own_by cL0) (.int 0) := Av29
  refine og T29 (mkF m 16 #[vR ra0] [.ref l29, .ref b8, .ref kw0, .ref b1, .ref b1]) st29 ?_
  have F33 := ((A8.keep K15).ext E29)
  have F34 := (f19.ext E29)
  have F35 := (f20.ext E29)
  have F36 := (f21.ext E29)
  have F37 := (f22.ext E29)
  have hp38 : own_L cL0 := own_hpl _ rfl
  have F39 := ((F14.keep K15 (allS g9 all0)).ext E29)
  obtain ⟨_, T40, L40, X40, hQ40, st40⟩ := own_vc X29 hx hZ29 hown29 (ow hw 50) (ow hw 51) (ow hw 53) (ow hw 52) F33 (rm7_10 l Z a0 hw b8 o16 kc17 l29 lb29 lk29 cL0 G1 h29 n0 F39 F33 F34 F35 F36 F37 Ex29 Fc29 Fv29 rfl hp38 Ay29 O2 P5 g23 (own_ne_lo A8.lt f18) g9) (ow hw 54) (ow hw 33) e29 (g := (mkF m 16 #[vR ra0] [.ref l29, .ref b8, .ref kw0, .ref b1, .ref b1])) rfl (zs hml) (argsL := [.ref l29]) (rest := [.ref kw0, .ref b1, .ref b1]) (lenOf pd_9 rfl) rfl (hb hby d4_16) (W := 3) rfl
  obtain ⟨rfl, Nq40, K40, f41, f42, f43, f44⟩ := hQ40
  have N40 := Fr.app N15 Nq40
  have ch45 := CHr.keep K40 (allS (CHr.safe ch29 f22.lt sf28) (allS (Safe.exa hZ29.alike F33 (by decide) (by decide)) all0)) CH32.1
  have CH46 := CHr.trans CH32 ch45
  refine og T40 (mkF m 20 #[vR ra0] [.ref ra0, .ref b8, .ref kw0, .ref b1, .ref b1]) (fun _ k => st40.trans (qa X40 hx hby d4_19 rfl rfl rfl k)) ?_
  have F47 := (F33.keep K40)
  have F48 := ((((A'.ext E1).ext E8).keep K15).ext E29)
  have F49 := (F48.keep K40)
  have F50 := ((((B'.ext E1).ext E8).keep K15 (ninS (own_ne_lo (Nat.lt_of_lt_of_le A'.lt E1.1) (Nat.le_of_eq gb8.symm)) nin0)).ext E29)
  have F51 := (F50.keep K40 (ninS (own_ne_lo (Nat.lt_of_lt_of_le (Nat.lt_of_lt_of_le A'.lt E1.1) E8.1) f18) (ninS (own_ne_lo (Nat.lt_of_lt_of_le A'.lt E1.1) (Nat.le_of_eq gb8.symm)) nin0)))
  have F52 := ((((C'.ext E1).ext E8).keep K15 (ninS (own_ne_lo (Nat.lt_of_lt_of_le A'.lt E1.1) (Nat.le_of_eq gb8.symm)) nin0)).ext E29)
  have F53 := (F52.keep K40 (ninS (own_ne_lo (Nat.lt_of_lt_of_le (Nat.lt_of_lt_of_le A'.lt E1.1) E8.1) f18) (ninS (own_ne_lo (Nat.lt_of_lt_of_le A'.lt E1.1) (Nat.le_of_eq gb8.symm)) nin0)))
  have F54 := ((((F'.ext E1).ext E8).keep K15 (ninS (own_ne_lo (Nat.lt_of_lt_of_le F'.lt E1.1) (Nat.le_of_eq gb8.symm)) nin0)).ext E29)
  have F55 := (F54.keep K40 (ninS (own_ne_lo (Nat.lt_of_lt_of_le (Nat.lt_of_lt_of_le F'.lt E1.1) E8.1) f18) (ninS (own_ne_lo (Nat.lt_of_lt_of_le F'.lt E1.1) (Nat.le_of_eq gb8.symm)) nin0)))
  have F56 := (F39.keep K40 (allS g23 (allS g9 all0)))
  obtain ⟨_, T57, L57, X57, hQ57, st57⟩ := own_vc X40 hx hZ29 hown29 (ow hw 50) (ow hw 51) (ow hw 53) (ow hw 52) F47 (rm7_60 l Z a0 hw b8 o16 kc17 cL0 ra0 ra1 kc2 cs3 G1 T40.heap n0 F56 F47 f42 f43 f44 rfl hp38 f41 F49 F51 F53 D' E' F55 O2 P5 g23 (own_ne_lo A8.lt f18) g9) (ow hw 54) (ow hw 33) rfl (g := (mkF m 20 #[vR ra0] [.ref ra0, .ref b8, .ref kw0, .ref b1, .ref b1])) rfl (zs hml) (argsL := [.ref ra0]) (rest := [.ref kw0, .ref b1, .ref b1]) (lenOf pd_9 rfl) rfl (hb hby d4_20) (W := 3) rfl
  obtain ⟨rfl, Nq57, K57, f58, f59, f60, f61⟩ := hQ57
  have N57 := Fr.app N40 Nq57
  have ch62 := CHr.keep K57 (allS (CHr.safe ch45 (Nat.lt_of_lt_of_le f22.lt E29.1) (CHr.safe ch29 f22.lt sf28)) (allS (Safe.exa hZ29.alike F47 (by decide) (by decide)) all0)) CH46.1
  have CH63 := CHr.trans CH46 ch62
  refine ot T57 (mkF m 23 #[vR ra0] [.ref b8, .ref kw0, .ref b1, .ref b1]) st57 ?_
  have F65 := (Nat.le_trans (Nat.le_trans hk29 K40.1) K57.1)
  have F66 := (Nat.le_trans (Nat.le_trans (Nat.le_trans F31 E29.1) K40.1) K57.1)
  obtain ⟨l64, T64, h64, k64, lb64, lk64, X64, e64, E64, hS64, hk64, hZ64, hown64, Ex64, Fc64, Fv64, Av64, la64, lz64, ch64, Lt64, sf64, st64⟩ := ldcCH X57 hx hZ29 hown29 (ow hw 98) (own_wS hw) rfl hS29 F65 (own_EW hw) (by decide) CH63.1 (vs := [.int 34, .int 32, .int 105, .int 115, .int 32, .int 110, .int 111, .int 116, .int 32, .int 109, .int 97, .int 112, .int 112, .int 101, .int 100]) (z := (15 : Int32)) (by decide) (by decide) (by decide) (g := (mkF m 23 #[vR ra0] [.ref b8, .ref kw0, .ref b1, .ref b1])) rfl (hb hby d4_23) (n := 60) (by decide) (by decide) (lb rfl) (lb rfl)
  have CH67 := CHr.trans CH63 ch64
  have Ay64 : Arv Z h64 lb64 lk64 .byte (15 : Int32) (own_by cL1) (.int 0) := Av64
  refine og T64 (mkF m 25 #[vR ra0] [.ref l64, .ref b8, .ref kw0, .ref b1, .ref b1]) st64 ?_
  have F68 := ((F47.keep K57).ext E64)
  have F69 := (f59.ext E64)
  have F70 := (f60.ext E64)
  have F71 := (f61.ext E64)
  have F72 := (f58.ext E64)
  have hp73 : own_L cL1 := own_hpl _ rfl
  have F74 := ((F56.keep K57 (allS g23 (allS g9 all0))).ext E64)
  obtain ⟨_, T75, L75, X75, hQ75, st75⟩ := own_vc X64 hx hZ64 hown64 (ow hw 50) (ow hw 51) (ow hw 53) (ow hw 52) F68 (rm7_65 l Z a0 hw b8 o16 kc17 ((cL0 ++ cs3)) l64 lb64 lk64 cL1 G1 h64 n0 F74 F68 F69 F70 F71 (own_la rfl D') (own_happ hp38 E') F72 Ex64 Fc64 Fv64 rfl hp73 Ay64 O2 P5 g9 (ne_exa Ex64 F68 (by decide)) (Ne.symm (own_ne_arv F68 (ow hw 32) Ay64))) (ow hw 54) (ow hw 33) e64 (g := (mkF m 25 #[vR ra0] [.ref l64, .ref b8, .ref kw0, .ref b1, .ref b1])) rfl (zs hml) (argsL := [.ref l64]) (rest := [.ref kw0, .ref b1, .ref b1]) (lenOf pd_9 rfl) rfl (hb hby d4_25) (W := 3) rfl
  obtain ⟨o76, kc77, rfl, Nq75, K75, f78, f79, f80, f81, f82⟩ := hQ75
  have N75 := Fr.app N57 Nq75
  have g83 : n0 ≤ o76 := Nat.le_trans (own_osz F74) f78
  have F85 := (Nat.le_trans F66 E64.1)
  have z84 : h0.size ≤ o76 := Nat.le_trans F85 f78
  have ch86 := CHr.keep K75 (allS (Safe.exa hZ64.alike F68 (by decide) (by decide)) all0) CH67.1
  have CH87 := CHr.trans CH67 ch86
  have sf88 := Safe.keep K75 (allS (Safe.exa hZ64.alike F68 (by decide) (by decide)) all0) CH67.1 (Safe.new f78)
  refine ot T75 (mkF m 28 #[vR ra0] [.ref b8, .ref kw0, .ref b1, .ref b1]) st75 ?_
  have F89 := (F68.keep K75)
  have F90 := (F74.keep K75 (allS g9 all0))
  obtain ⟨_, T91, L91, X91, hQ91, st91⟩ := own_vc X75 hx hZ64 hown64 (ow hw 122) (ow hw 123) (ow hw 125) (ow hw 124) F89 (rm20_74 l Z a0 hw b8 o76 kc77 (((cL0 ++ cs3) ++ cL1)) G1 T75.heap n0 F90 F89 f79 f80 f81 (own_la (own_la rfl D') rfl) (own_happ (own_happ hp38 E') hp73) f82 O2 P5) (ow hw 126) (ow hw 33) rfl (g := (mkF m 28 #[vR ra0] [.ref b8, .ref kw0, .ref b1, .ref b1])) rfl (zs hml) (argsL := []) (rest := [.ref kw0, .ref b1, .ref b1]) (lenOf pd_21 rfl) rfl (hb hby d4_28) (W := 3) rfl
  obtain ⟨o92, o93, kc94, hc95, rfl, Nq91, K91, f96, f97, f98, f99, f100, f101⟩ := hQ91
  have N91 := Fr.app N75 Nq91
  have g102 : n0 ≤ o92 := Nat.le_trans (own_osz F90) f96
  have F104 := (Nat.le_trans F85 K75.1)
  have z103 : h0.size ≤ o92 := Nat.le_trans F104 f96
  have g105 : n0 ≤ o93 := Nat.le_trans (own_osz F90) f97
  have z106 : h0.size ≤ o93 := Nat.le_trans F104 f97
  have ch107 := CHr.keep K91 all0 CH87.1
  have CH108 := CHr.trans CH87 ch107
  have sf109 := Safe.keep K91 all0 CH87.1 (Safe.new f96)
  have sf110 := Safe.keep K91 all0 CH87.1 (Safe.new f97)
  refine ot T91 (mkF m 31 #[vR ra0] [.ref o92, .ref kw0, .ref b1, .ref b1]) st91 ?_
  have F111 := ((((Uu1.ext E8).keep K15 (ninS (own_ne_lo A1.lt (Nat.le_of_eq gb8.symm)) nin0)).ext E29).keep K40 (ninS (own_ne_lo (Nat.lt_of_lt_of_le A1.lt E8.1) f18) (ninS (own_ne_lo A1.lt (Nat.le_of_eq gb8.symm)) nin0)))
  have F112 := ((((F111.keep K57 (ninS (own_ne_lo (Nat.lt_of_lt_of_le A1.lt E8.1) f18) (ninS (own_ne_lo A1.lt (Nat.le_of_eq gb8.symm)) nin0))).ext E64).keep K75 (ninS (own_ne_lo A1.lt (Nat.le_of_eq gb8.symm)) nin0)).keep K91 nin0)
  have F113 := ((((A1.ext E8).keep K15).ext E29).keep K40)
  have F114 := ((((F113.keep K57).ext E64).keep K75).keep K91)
  have F115 := (((((D1 (Or.inl (ow hw 208)) (ty := (.object "java/lang/Object")) (by decide)).ext E8).keep K15 (ninS (own_ne_lo A1.lt (Nat.le_of_eq gb8.symm)) nin0)).ext E29).keep K40 (ninS (own_ne_lo (Nat.lt_of_lt_of_le A1.lt E8.1) f18) (ninS (own_ne_lo A1.lt (Nat.le_of_eq gb8.symm)) nin0)))
  have F116 := ((((F115.keep K57 (ninS (own_ne_lo (Nat.lt_of_lt_of_le A1.lt E8.1) f18) (ninS (own_ne_lo A1.lt (Nat.le_of_eq gb8.symm)) nin0))).ext E64).keep K75 (ninS (own_ne_lo A1.lt (Nat.le_of_eq gb8.symm)) nin0)).keep K91 nin0)
  have F117 := (((((D1 (Or.inl (ow hw 177)) (ty := (.object cN5)) (by decide)).ext E8).keep K15 (ninS (own_ne_lo A1.lt (Nat.le_of_eq gb8.symm)) nin0)).ext E29).keep K40 (ninS (own_ne_lo (Nat.lt_of_lt_of_le A1.lt E8.1) f18) (ninS (own_ne_lo A1.lt (Nat.le_of_eq gb8.symm)) nin0)))
  have F118 := ((((F117.keep K57 (ninS (own_ne_lo (Nat.lt_of_lt_of_le A1.lt E8.1) f18) (ninS (own_ne_lo A1.lt (Nat.le_of_eq gb8.symm)) nin0))).ext E64).keep K75 (ninS (own_ne_lo A1.lt (Nat.le_of_eq gb8.symm)) nin0)).keep K91 nin0)
  have F119 := (((((D1 (Or.inl (ow hw 209)) (ty := .int) (by decide)).ext E8).keep K15 (ninS (own_ne_lo A1.lt (Nat.le_of_eq gb8.symm)) nin0)).ext E29).keep K40 (ninS (own_ne_lo (Nat.lt_of_lt_of_le A1.lt E8.1) f18) (ninS (own_ne_lo A1.lt (Nat.le_of_eq gb8.symm)) nin0)))
  have F120 := ((((F119.keep K57 (ninS (own_ne_lo (Nat.lt_of_lt_of_le A1.lt E8.1) f18) (ninS (own_ne_lo A1.lt (Nat.le_of_eq gb8.symm)) nin0))).ext E64).keep K75 (ninS (own_ne_lo A1.lt (Nat.le_of_eq gb8.symm)) nin0)).keep K91 nin0)
  have F121 := (((((D1 (Or.inl (ow hw 207)) (ty := (.object cN1)) (by decide)).ext E8).keep K15 (ninS (own_ne_lo A1.lt (Nat.le_of_eq gb8.symm)) nin0)).ext E29).keep K40 (ninS (own_ne_lo (Nat.lt_of_lt_of_le A1.lt E8.1) f18) (ninS (own_ne_lo A1.lt (Nat.le_of_eq gb8.symm)) nin0)))
  have F122 := ((((F121.keep K57 (ninS (own_ne_lo (Nat.lt_of_lt_of_le A1.lt E8.1) f18) (ninS (own_ne_lo A1.lt (Nat.le_of_eq gb8.symm)) nin0))).ext E64).keep K75 (ninS (own_ne_lo A1.lt (Nat.le_of_eq gb8.symm)) nin0)).keep K91 nin0)
  have F123 := (((((D1 (Or.inr (ow hw 220)) (ty := (.object cN4)) (by decide)).ext E8).keep K15 (ninS (own_ne_lo A1.lt (Nat.le_of_eq gb8.symm)) nin0)).ext E29).keep K40 (ninS (own_ne_lo (Nat.lt_of_lt_of_le A1.lt E8.1) f18) (ninS (own_ne_lo A1.lt (Nat.le_of_eq gb8.symm)) nin0)))
  have F124 := ((((F123.keep K57 (ninS (own_ne_lo (Nat.lt_of_lt_of_le A1.lt E8.1) f18) (ninS (own_ne_lo A1.lt (Nat.le_of_eq gb8.symm)) nin0))).ext E64).keep K75 (ninS (own_ne_lo A1.lt (Nat.le_of_eq gb8.symm)) nin0)).keep K91 nin0)
  have F125 := (((((D1 (Or.inl (ow hw 180)) (ty := (.array (.object cN6))) (by decide)).ext E8).keep K15 (ninS (own_ne_lo A1.lt (Nat.le_of_eq gb8.symm)) nin0)).ext E29).keep K40 (ninS (own_ne_lo (Nat.lt_of_lt_of_le A1.lt E8.1) f18) (ninS (own_ne_lo A1.lt (Nat.le_of_eq gb8.symm)) nin0)))
  have F126 := ((((F125.keep K57 (ninS (own_ne_lo (Nat.lt_of_lt_of_le A1.lt E8.1) f18) (ninS (own_ne_lo A1.lt (Nat.le_of_eq gb8.symm)) nin0))).ext E64).keep K75 (ninS (own_ne_lo A1.lt (Nat.le_of_eq gb8.symm)) nin0)).keep K91 nin0)
  have F127 := (((((D1 (Or.inl (ow hw 183)) (ty := (.object "java/util/List")) (by decide)).ext E8).keep K15 (ninS (own_ne_lo A1.lt (Nat.le_of_eq gb8.symm)) nin0)).ext E29).keep K40 (ninS (own_ne_lo (Nat.lt_of_lt_of_le A1.lt E8.1) f18) (ninS (own_ne_lo A1.lt (Nat.le_of_eq gb8.symm)) nin0)))
  have F128 := ((((F127.keep K57 (ninS (own_ne_lo (Nat.lt_of_lt_of_le A1.lt E8.1) f18) (ninS (own_ne_lo A1.lt (Nat.le_of_eq gb8.symm)) nin0))).ext E64).keep K75 (ninS (own_ne_lo A1.lt (Nat.le_of_eq gb8.symm)) nin0)).keep K91 nin0)
  have F129 := (F90.keep K91 all0)
  obtain ⟨_, _, ⟨T130, L130, k130, n130⟩, -, X130, hs130, hg130, ⟨Lc130, hQ130, l130, y130, z130, ch130⟩, st130⟩ := X91.specialBackS hx (y := y29) rfl hown64 (mvT hZ64 (ow hw 161)) (mvT hZ64 (ow hw 162)) (mvT hZ64 (ow hw 163)) (by decide) (own_backSH (W := 1) (rm30_48 l Z a0 hw b1 o92 kw0 us up T91.heap n0 F129 EK0 F112 F114 F116 F118 F120 F122 F124 F126 F128 g2 Sus rf_us Sup rf_up hl rus) hZ64 (ow hw 163) (ow hw 24) (lb rfl) (lb rfl) (own_EW hw) CH108.1 all0 (fun _ => ⟨Vm.MethodsKnown.alikeC hS64.1.alike (hKn rfl).1, Vm.FramesKnown.alikeC hS64.1.alike (hKn rfl).2⟩)) (g := (mkF m 31 #[vR ra0] [.ref o92, .ref kw0, .ref b1, .ref b1])) rfl (zs hml) (Steps.refl _) (a := b1) (argsL := [.ref kw0, .ref o92]) (rest := [.ref b1]) (lenOf pd_23 rfl) rfl (lb rfl) (hb hby d4_31) (fun _ _ => ⟨rfl, rfl, (lb rfl), (lb rfl)⟩)
  dsimp only [Pt.U, Pt.locs, Pt.cells, Pt.slots] at X130 l130 y130 z130 st130 hQ130 hs130 hg130 ch130
  subst l130 y130 z130
  replace X130 := own_reb X130
  have F131 := (Nat.le_trans (Nat.le_trans hk64 K75.1) K91.1)
  obtain ⟨hZ130, hS130, hown130⟩ := own_after hZ64 hS64 rfl F131 hs130 hg130 hown64
  obtain ⟨rfl, Nq130, K130, f132, f133, f134, f135, f136⟩ := hQ130
  have N130 := Fr.app N91 Nq130
  have CH137 := CHr.trans CH108 ch130
  refine ot T130 (mkF m 34 #[vR ra0] [.ref b1]) st130 ?_
  have F138 := (F114.keep K130)
  have F139 := (f98.keep K130)
  have F140 := (f99.keep K130 (ninS (Ne.symm (own_ne_lo (Nat.lt_of_lt_of_le (Nat.lt_of_lt_of_le (Nat.lt_of_lt_of_le (Nat.lt_of_lt_of_le (Nat.lt_of_lt_of_le (Nat.lt_of_lt_of_le (Nat.lt_of_lt_of_le A1.lt E8.1) K15.1) E29.1) K40.1) K57.1) E64.1) K75.1) f96)) nin0))
  have F141 := (f100.keep K130 (ninS (Ne.symm (own_ne_lo (Nat.lt_of_lt_of_le (Nat.lt_of_lt_of_le (Nat.lt_of_lt_of_le (Nat.lt_of_lt_of_le (Nat.lt_of_lt_of_le (Nat.lt_of_lt_of_le (Nat.lt_of_lt_of_le A1.lt E8.1) K15.1) E29.1) K40.1) K57.1) E64.1) K75.1) f96)) nin0))
  have F142 := (f101.keep K130 (ninS (Ne.symm (own_ne_lo (Nat.lt_of_lt_of_le (Nat.lt_of_lt_of_le (Nat.lt_of_lt_of_le (Nat.lt_of_lt_of_le (Nat.lt_of_lt_of_le (Nat.lt_of_lt_of_le (Nat.lt_of_lt_of_le A1.lt E8.1) K15.1) E29.1) K40.1) K57.1) E64.1) K75.1) f97)) nin0))
  have K143 := (((((Keep.refl h0 []).ext E1).ext E8).trans K15 (allS (Or.inr z10) all0)).ext E29)
  have K144 := ((((K143.trans K40 (allS (Or.inr z24) (allS (Or.inr z10) all0))).trans K57 (allS (Or.inr z24) (allS (Or.inr z10) all0))).ext E64).trans K75 (allS (Or.inr z10) all0))
  have KEEP := ((K144.trans K91 all0).trans K130 (allS (Or.inr z3) all0))
  exact own_leaveW (s := s) (vm0 := T130.vm) X130 hS130 (Nat.le_refl _) hZ130 (own_EW hw) rfl CH137 hh hlk (v := some (.ref b1)) (own_nr hret) (lb rfl) (lb rfl) (by exact ⟨b1, o92, o93, kc94, hc95, rfl, N130, KEEP, z3, z103, z106, F138, f132, f133, f134, f135, f136, F139, F140, F141, F142⟩) (own_ra X130 hx hret rfl rfl rfl (hb hby d4_34))
abbrev R39_81 : Room := { frames := 4, cells := 0, slots := 0, locals := 53 }
def Q39_81 (Z : State) (ra0 ra1 : Addr) (kc2 : ClassId) (ci3 : Int32) (G3 : Value) (G1 : Int32) (h0 : Heap) (n0 : Nat) (v : Option Value) (h : Heap) (L : List Loc) : Prop := (v = some (.int 1) ∧ Fr n0 L ∧ h = h0)
theorem rm39_81 l Z a0 (hw : HW Z a0) ra0 ra1 kc2 (ci3 : Int32) (G3 : Value) (G1 : Int32) h0 n0 (OLD : Old Z n0 h0) (A' : Exa Z h0 ra0 cN1) (B' : Fld Z h0 ra0 cN1 "coder" "B" (.int 0)) (C' : Fld Z h0 ra0 cN1 "value" "[B" (.ref ra1)) (hl_ci3 : ¬ ci3 < 0 ∧ ¬ (255 : Int32) < ci3) (D' : Arv Z h0 ra1 kc2 .byte (28 : Int32) (own_by ([101, 118, 101, 110, 116, 32, 116, 121, 112, 101, 32, 34, ci3, 34, 32, 105, 115, 32, 110, 111, 116, 32, 109, 97, 112, 112, 101, 100] : List Int32)) (.int 0)) (O4 : Sta Z Z.heap "jdk/internal/util/Preconditions" "SIOOBE_FORMATTER" "Ljava/util/function/BiFunction;" G3) (rG3 : G3.isRef = true) (O2 : Sta Z Z.heap cN1 "COMPACT_STRINGS" "Z" (.int G1)) (P5 : ¬ (G1 = (0 : Int32))) :
    own_CN l Z y36 method_3_code 1 (some .boolean) [] R39_81 #[.ref ra0] h0 (Q39_81 Z ra0 ra1 kc2 ci3 G3 G1 h0 n0) := by
  refine own_entryN (plainFor_of_name pn_9) fun p e s m below meth c s₁ hx hby hml hown hnm hret hlk hZ hh X0 e0 => ?_
  have N0 := Fr.nil n0
  rw [ef_5_7 m ra0]
  refine og s₁ (mkF m 2 #[vR ra0] [.int 0, .ref ra0]) (fun _ k => qa X0 hx hby d39_0 rfl rfl rfl (qc X0 hx hby d39_1 rfl k)) ?_
  have hp1 : ∀ c ∈ ([101, 118, 101, 110, 116, 32, 116, 121, 112, 101, 32, 34, ci3, 34, 32, 105, 115, 32, 110, 111, 116, 32, 109, 97, 112, 112, 101, 100] : List Int32), ¬ c < 0 ∧ ¬ (255 : Int32) < c := by
    intro c hc
    simp only [List.mem_cons, List.not_mem_nil, or_false] at hc
    rcases hc with rfl | rfl | rfl | rfl | rfl | rfl | rfl | rfl | rfl | rfl | rfl | rfl | rfl | rfl | rfl | rfl | rfl | rfl | rfl | rfl | rfl | rfl | rfl | rfl | rfl | rfl | rfl | rfl
    · exact ⟨by decide, by decide⟩
    · exact ⟨by decide, by decide⟩
    · exact ⟨by decide, by decide⟩
    · exact ⟨by decide, by decide⟩
    · exact ⟨by decide, by decide⟩
    · exact ⟨by decide, by decide⟩
    · exact ⟨by decide, by decide⟩
    · exact ⟨by decide, by decide⟩
    · exact ⟨by decide, by decide⟩
    · exact ⟨by decide, by decide⟩
    · exact ⟨by decide, by decide⟩
    · exact ⟨by decide, by decide⟩
    · exact hl_ci3
    · exact ⟨by decide, by decide⟩
    · exact ⟨by decide, by decide⟩
    · exact ⟨by decide, by decide⟩
    · exact ⟨by decide, by decide⟩
    · exact ⟨by decide, by decide⟩
    · exact ⟨by decide, by decide⟩
    · exact ⟨by decide, by decide⟩
    · exact ⟨by decide, by decide⟩
    · exact ⟨by decide, by decide⟩
    · exact ⟨by decide, by decide⟩
    · exact ⟨by decide, by decide⟩
    · exact ⟨by decide, by decide⟩
    · exact ⟨by decide, by decide⟩
    · exact ⟨by decide, by decide⟩
    · exact ⟨by decide, by decide⟩
  obtain ⟨T2, X2, e2, st2⟩ := own_chA X0 hx hZ hown (ow hw 244) hw A' C' B' D' rfl hp1 e0 (O2.ext OLD.2) P5 (O4.ext OLD.2) rG3 (i := 0) (lb rfl) (g := (mkF m 2 #[vR ra0] [.int 0, .ref ra0])) rfl (zs hml) (rest := []) rfl (hb hby d39_2) (W := 0) rfl
  refine og T2 (mkF m 12 #[vR ra0] [.int 1, .ref ra0]) (fun _ k => st2 _ (qb X2 hx hby d39_5 rfl (qn X2 hx hby d39_7 rfl rfl (tq 101) (qa X2 hx hby d39_10 rfl rfl rfl (qc X2 hx hby d39_11 rfl k))))) ?_
  obtain ⟨T3, X3, e3, st3⟩ := own_chA X2 hx hZ hown (ow hw 244) hw A' C' B' D' rfl hp1 e2 (O2.ext OLD.2) P5 (O4.ext OLD.2) rG3 (i := 1) (lb rfl) (g := (mkF m 12 #[vR ra0] [.int 1, .ref ra0])) rfl (zs hml) (rest := []) rfl (hb hby d39_12) (W := 0) rfl
  refine og T3 (mkF m 22 #[vR ra0] [.int 2, .ref ra0]) (fun _ k => st3 _ (qb X3 hx hby d39_15 rfl (qn X3 hx hby d39_17 rfl rfl (tq 118) (qa X3 hx hby d39_20 rfl rfl rfl (qc X3 hx hby d39_21 rfl k))))) ?_
  obtain ⟨T4, X4, e4, st4⟩ := own_chA X3 hx hZ hown (ow hw 244) hw A' C' B' D' rfl hp1 e3 (O2.ext OLD.2) P5 (O4.ext OLD.2) rG3 (i := 2) (lb rfl) (g := (mkF m 22 #[vR ra0] [.int 2, .ref ra0])) rfl (zs hml) (rest := []) rfl (hb hby d39_22) (W := 0) rfl
  refine og T4 (mkF m 32 #[vR ra0] [.int 3, .ref ra0]) (fun _ k => st4 _ (qb X4 hx hby d39_25 rfl (qn X4 hx hby d39_27 rfl rfl (tq 101) (qa X4 hx hby d39_30 rfl rfl rfl (qc X4 hx hby d39_31 rfl k))))) ?_
  obtain ⟨T5, X5, e5, st5⟩ := own_chA X4 hx hZ hown (ow hw 244) hw A' C' B' D' rfl hp1 e4 (O2.ext OLD.2) P5 (O4.ext OLD.2) rG3 (i := 3) (lb rfl) (g := (mkF m 32 #[vR ra0] [.int 3, .ref ra0])) rfl (zs hml) (rest := []) rfl (hb hby d39_32) (W := 0) rfl
  refine og T5 (mkF m 42 #[vR ra0] [.int 4, .ref ra0]) (fun _ k => st5 _ (qb X5 hx hby d39_35 rfl (qn X5 hx hby d39_37 rfl rfl (tq 110) (qa X5 hx hby d39_40 rfl rfl rfl (qc X5 hx hby d39_41 rfl k))))) ?_
  obtain ⟨T6, X6, e6, st6⟩ := own_chA X5 hx hZ hown (ow hw 244) hw A' C' B' D' rfl hp1 e5 (O2.ext OLD.2) P5 (O4.ext OLD.2) rG3 (i := 4) (lb rfl) (g := (mkF m 42 #[vR ra0] [.int 4, .ref ra0])) rfl (zs hml) (rest := []) rfl (hb hby d39_42) (W := 0) rfl
  refine og T6 (mkF m 52 #[vR ra0] [.int 5, .ref ra0]) (fun _ k => st6 _ (qb X6 hx hby d39_45 rfl (qn X6 hx hby d39_47 rfl rfl (tq 116) (qa X6 hx hby d39_50 rfl rfl rfl (qc X6 hx hby d39_51 rfl k))))) ?_
  obtain ⟨T7, X7, e7, st7⟩ := own_chA X6 hx hZ hown (ow hw 244) hw A' C' B' D' rfl hp1 e6 (O2.ext OLD.2) P5 (O4.ext OLD.2) rG3 (i := 5) (lb rfl) (g := (mkF m 52 #[vR ra0] [.int 5, .ref ra0])) rfl (zs hml) (rest := []) rfl (hb hby d39_52) (W := 0) rfl
  refine og T7 (mkF m 63 #[vR ra0] [.int 6, .ref ra0]) (fun _ k => st7 _ (qb X7 hx hby d39_55 rfl (qn X7 hx hby d39_57 rfl rfl (tq 32) (qa X7 hx hby d39_60 rfl rfl rfl (qb X7 hx hby d39_61 rfl k))))) ?_
  obtain ⟨T8, X8, e8, st8⟩ := own_chA X7 hx hZ hown (ow hw 244) hw A' C' B' D' rfl hp1 e7 (O2.ext OLD.2) P5 (O4.ext OLD.2) rG3 (i := 6) (lb rfl) (g := (mkF m 63 #[vR ra0] [.int 6, .ref ra0])) rfl (zs hml) (rest := []) rfl (hb hby d39_63) (W := 0) rfl
  refine og T8 (mkF m 74 #[vR ra0] [.int 7, .ref ra0]) (fun _ k => st8 _ (qb X8 hx hby d39_66 rfl (qn X8 hx hby d39_68 rfl rfl (tq 116) (qa X8 hx hby d39_71 rfl rfl rfl (qb X8 hx hby d39_72 rfl k))))) ?_
  obtain ⟨T9, X9, e9, st9⟩ := own_chA X8 hx hZ hown (ow hw 244) hw A' C' B' D' rfl hp1 e8 (O2.ext OLD.2) P5 (O4.ext OLD.2) rG3 (i := 7) (lb rfl) (g := (mkF m 74 #[vR ra0] [.int 7, .ref ra0])) rfl (zs hml) (rest := []) rfl (hb hby d39_74) (W := 0) rfl
  refine og T9 (mkF m 85 #[vR ra0] [.int 8, .ref ra0]) (fun _ k => st9 _ (qb X9 hx hby d39_77 rfl (qn X9 hx hby d39_79 rfl rfl (tq 121) (qa X9 hx hby d39_82 rfl rfl rfl (qb X9 hx hby d39_83 rfl k))))) ?_
  obtain ⟨T10, X10, e10, st10⟩ := own_chA X9 hx hZ hown (ow hw 244) hw A' C' B' D' rfl hp1 e9 (O2.ext OLD.2) P5 (O4.ext OLD.2) rG3 (i := 8) (lb rfl) (g := (mkF m 85 #[vR ra0] [.int 8, .ref ra0])) rfl (zs hml) (rest := []) rfl (hb hby d39_85) (W := 0) rfl
  refine og T10 (mkF m 96 #[vR ra0] [.int 9, .ref ra0]) (fun _ k => st10 _ (qb X10 hx hby d39_88 rfl (qn X10 hx hby d39_90 rfl rfl (tq 112) (qa X10 hx hby d39_93 rfl rfl rfl (qb X10 hx hby d39_94 rfl k))))) ?_
  obtain ⟨T11, X11, e11, st11⟩ := own_chA X10 hx hZ hown (ow hw 244) hw A' C' B' D' rfl hp1 e10 (O2.ext OLD.2) P5 (O4.ext OLD.2) rG3 (i := 9) (lb rfl) (g := (mkF m 96 #[vR ra0] [.int 9, .ref ra0])) rfl (zs hml) (rest := []) rfl (hb hby d39_96) (W := 0) rfl
  refine og T11 (mkF m 107 #[vR ra0] [.int 10, .ref ra0]) (fun _ k => st11 _ (qb X11 hx hby d39_99 rfl (qn X11 hx hby d39_101 rfl rfl (tq 101) (qa X11 hx hby d39_104 rfl rfl rfl (qb X11 hx hby d39_105 rfl k))))) ?_
  obtain ⟨T12, X12, e12, st12⟩ := own_chA X11 hx hZ hown (ow hw 244) hw A' C' B' D' rfl hp1 e11 (O2.ext OLD.2) P5 (O4.ext OLD.2) rG3 (i := 10) (lb rfl) (g := (mkF m 107 #[vR ra0] [.int 10, .ref ra0])) rfl (zs hml) (rest := []) rfl (hb hby d39_107) (W := 0) rfl
  refine og T12 (mkF m 118 #[vR ra0] [.int 11, .ref ra0]) (fun _ k => st12 _ (qb X12 hx hby d39_110 rfl (qn X12 hx hby d39_112 rfl rfl (tq 32) (qa X12 hx hby d39_115 rfl rfl rfl (qb X12 hx hby d39_116 rfl k))))) ?_
  obtain ⟨T13, X13, e13, st13⟩ := own_chA X12 hx hZ hown (ow hw 244) hw A' C' B' D' rfl hp1 e12 (O2.ext OLD.2) P5 (O4.ext OLD.2) rG3 (i := 11) (lb rfl) (g := (mkF m 118 #[vR ra0] [.int 11, .ref ra0])) rfl (zs hml) (rest := []) rfl (hb hby d39_118) (W := 0) rfl
  refine og T13 (mkF m 131 #[vR ra0] [.int 1]) (fun _ k => st13 _ (qb X13 hx hby d39_121 rfl (qn X13 hx hby d39_123 rfl rfl (tq 34) (qc X13 hx hby d39_126 rfl (XS.goto X13.here hx rfl (pc0 := 127) (pc' := 131) rfl (hb hby d39_127) (by decide) (by decide) k))))) ?_
  exact own_leaveN X13 hlk (v := some (.int (nar .boolean (1 : Int32)))) (own_nr hret) (lb rfl) (lb rfl) (by rw [e13]; exact ⟨rfl, N0, rfl⟩) (fun fs hr => retN X13 hx (t := .boolean) hret (by simp) (hb hby d39_131) hr)
abbrev R45_82 : Room := { frames := 4, cells := 0, slots := 0, locals := 53 }
def Q45_82 (Z : State) (ra0 ra1 : Addr) (kc2 : ClassId) (ci3 : Int32) (G3 : Value) (G1 : Int32) (h0 : Heap) (n0 : Nat) (v : Option Value) (h : Heap) (L : List Loc) : Prop := (v = some (.int 1) ∧ Fr n0 L ∧ h = h0)
theorem rm45_82 l Z a0 (hw : HW Z a0) ra0 ra1 kc2 (ci3 : Int32) (G3 : Value) (G1 : Int32) h0 n0 (OLD : Old Z n0 h0) (A' : Exa Z h0 ra0 cN1) (B' : Fld Z h0 ra0 cN1 "coder" "B" (.int 0)) (C' : Fld Z h0 ra0 cN1 "value" "[B" (.ref ra1)) (hl_ci3 : ¬ ci3 < 0 ∧ ¬ (255 : Int32) < ci3) (D' : Arv Z h0 ra1 kc2 .byte (28 : Int32) (own_by ([101, 118, 101, 110, 116, 32, 116, 121, 112, 101, 32, 34, ci3, 34, 32, 105, 115, 32, 110, 111, 116, 32, 109, 97, 112, 112, 101, 100] : List Int32)) (.int 0)) (O4 : Sta Z Z.heap "jdk/internal/util/Preconditions" "SIOOBE_FORMATTER" "Ljava/util/function/BiFunction;" G3) (rG3 : G3.isRef = true) (O2 : Sta Z Z.heap cN1 "COMPACT_STRINGS" "Z" (.int G1)) (P5 : ¬ (G1 = (0 : Int32))) :
    own_CN l Z y37 method_4_code 2 (some .boolean) [] R45_82 #[.ref ra0, .int 13] h0 (Q45_82 Z ra0 ra1 kc2 ci3 G3 G1 h0 n0) := by
  refine own_entryN (plainFor_of_name pn_9) fun p e s m below meth c s₁ hx hby hml hown hnm hret hlk hZ hh X0 e0 => ?_
  have N0 := Fr.nil n0
  rw [ef_45_82 m ra0]
  refine og s₁ (mkF m 2 #[vR ra0, vI 13] [.int 13, .ref ra0]) (fun _ k => qa X0 hx hby d45_0 rfl rfl rfl (qi X0 hx hby d45_1 rfl rfl k)) ?_
  have hp1 : ∀ c ∈ ([101, 118, 101, 110, 116, 32, 116, 121, 112, 101, 32, 34, ci3, 34, 32, 105, 115, 32, 110, 111, 116, 32, 109, 97, 112, 112, 101, 100] : List Int32), ¬ c < 0 ∧ ¬ (255 : Int32) < c := by
    intro c hc
    simp only [List.mem_cons, List.not_mem_nil, or_false] at hc
    rcases hc with rfl | rfl | rfl | rfl | rfl | rfl | rfl | rfl | rfl | rfl | rfl | rfl | rfl | rfl | rfl | rfl | rfl | rfl | rfl | rfl | rfl | rfl | rfl | rfl | rfl | rfl | rfl | rfl
    · exact ⟨by decide, by decide⟩
    · exact ⟨by decide, by decide⟩
    · exact ⟨by decide, by decide⟩
    · exact ⟨by decide, by decide⟩
    · exact ⟨by decide, by decide⟩
    · exact ⟨by decide, by decide⟩
    · exact ⟨by decide, by decide⟩
    · exact ⟨by decide, by decide⟩
    · exact ⟨by decide, by decide⟩
    · exact ⟨by decide, by decide⟩
    · exact ⟨by decide, by decide⟩
    · exact ⟨by decide, by decide⟩
    · exact hl_ci3
    · exact ⟨by decide, by decide⟩
    · exact ⟨by decide, by decide⟩
    · exact ⟨by decide, by decide⟩
    · exact ⟨by decide, by decide⟩
    · exact ⟨by decide, by decide⟩
    · exact ⟨by decide, by decide⟩
    · exact ⟨by decide, by decide⟩
    · exact ⟨by decide, by decide⟩
    · exact ⟨by decide, by decide⟩
    · exact ⟨by decide, by decide⟩
    · exact ⟨by decide, by decide⟩
    · exact ⟨by decide, by decide⟩
    · exact ⟨by decide, by decide⟩
    · exact ⟨by decide, by decide⟩
    · exact ⟨by decide, by decide⟩
  obtain ⟨T2, X2, e2, st2⟩ := own_chA X0 hx hZ hown (ow hw 244) hw A' C' B' D' rfl hp1 e0 (O2.ext OLD.2) P5 (O4.ext OLD.2) rG3 (i := 13) (lb rfl) (g := (mkF m 2 #[vR ra0, vI 13] [.int 13, .ref ra0])) rfl (zs hml) (rest := []) rfl (hb hby d45_2) (W := 0) rfl
  refine og T2 (mkF m 14 #[vR ra0, vI 13] [.int 14, .ref ra0]) (fun _ k => st2 _ (qb X2 hx hby d45_5 rfl (qn X2 hx hby d45_7 rfl rfl (tq 34) (qa X2 hx hby d45_10 rfl rfl rfl (qi X2 hx hby d45_11 rfl rfl (qc X2 hx hby d45_12 rfl (qp X2 hx hby d45_13 rfl rfl k))))))) ?_
  obtain ⟨T3, X3, e3, st3⟩ := own_chA X2 hx hZ hown (ow hw 244) hw A' C' B' D' rfl hp1 e2 (O2.ext OLD.2) P5 (O4.ext OLD.2) rG3 (i := 14) (lb rfl) (g := (mkF m 14 #[vR ra0, vI 13] [.int 14, .ref ra0])) rfl (zs hml) (rest := []) rfl (hb hby d45_14) (W := 0) rfl
  refine og T3 (mkF m 26 #[vR ra0, vI 13] [.int 15, .ref ra0]) (fun _ k => st3 _ (qb X3 hx hby d45_17 rfl (qn X3 hx hby d45_19 rfl rfl (tq 32) (qa X3 hx hby d45_22 rfl rfl rfl (qi X3 hx hby d45_23 rfl rfl (qc X3 hx hby d45_24 rfl (qp X3 hx hby d45_25 rfl rfl k))))))) ?_
  obtain ⟨T4, X4, e4, st4⟩ := own_chA X3 hx hZ hown (ow hw 244) hw A' C' B' D' rfl hp1 e3 (O2.ext OLD.2) P5 (O4.ext OLD.2) rG3 (i := 15) (lb rfl) (g := (mkF m 26 #[vR ra0, vI 13] [.int 15, .ref ra0])) rfl (zs hml) (rest := []) rfl (hb hby d45_26) (W := 0) rfl
  refine og T4 (mkF m 38 #[vR ra0, vI 13] [.int 16, .ref ra0]) (fun _ k => st4 _ (qb X4 hx hby d45_29 rfl (qn X4 hx hby d45_31 rfl rfl (tq 105) (qa X4 hx hby d45_34 rfl rfl rfl (qi X4 hx hby d45_35 rfl rfl (qc X4 hx hby d45_36 rfl (qp X4 hx hby d45_37 rfl rfl k))))))) ?_
  obtain ⟨T5, X5, e5, st5⟩ := own_chA X4 hx hZ hown (ow hw 244) hw A' C' B' D' rfl hp1 e4 (O2.ext OLD.2) P5 (O4.ext OLD.2) rG3 (i := 16) (lb rfl) (g := (mkF m 38 #[vR ra0, vI 13] [.int 16, .ref ra0])) rfl (zs hml) (rest := []) rfl (hb hby d45_38) (W := 0) rfl
  refine og T5 (mkF m 50 #[vR ra0, vI 13] [.int 17, .ref ra0]) (fun _ k => st5 _ (qb X5 hx hby d45_41 rfl (qn X5 hx hby d45_43 rfl rfl (tq 115) (qa X5 hx hby d45_46 rfl rfl rfl (qi X5 hx hby d45_47 rfl rfl (qc X5 hx hby d45_48 rfl (qp X5 hx hby d45_49 rfl rfl k))))))) ?_
  obtain ⟨T6, X6, e6, st6⟩ := own_chA X5 hx hZ hown (ow hw 244) hw A' C' B' D' rfl hp1 e5 (O2.ext OLD.2) P5 (O4.ext OLD.2) rG3 (i := 17) (lb rfl) (g := (mkF m 50 #[vR ra0, vI 13] [.int 17, .ref ra0])) rfl (zs hml) (rest := []) rfl (hb hby d45_50) (W := 0) rfl
  refine og T6 (mkF m 62 #[vR ra0, vI 13] [.int 18, .ref ra0]) (fun _ k => st6 _ (qb X6 hx hby d45_53 rfl (qn X6 hx hby d45_55 rfl rfl (tq 32) (qa X6 hx hby d45_58 rfl rfl rfl (qi X6 hx hby d45_59 rfl rfl (qc X6 hx hby d45_60 rfl (qp X6 hx hby d45_61 rfl rfl k))))))) ?_
  obtain ⟨T7, X7, e7, st7⟩ := own_chA X6 hx hZ hown (ow hw 244) hw A' C' B' D' rfl hp1 e6 (O2.ext OLD.2) P5 (O4.ext OLD.2) rG3 (i := 18) (lb rfl) (g := (mkF m 62 #[vR ra0, vI 13] [.int 18, .ref ra0])) rfl (zs hml) (rest := []) rfl (hb hby d45_62) (W := 0) rfl
  refine og T7 (mkF m 75 #[vR ra0, vI 13] [.int 19, .ref ra0]) (fun _ k => st7 _ (qb X7 hx hby d45_65 rfl (qn X7 hx hby d45_67 rfl rfl (tq 110) (qa X7 hx hby d45_70 rfl rfl rfl (qi X7 hx hby d45_71 rfl rfl (qb X7 hx hby d45_72 rfl (qp X7 hx hby d45_74 rfl rfl k))))))) ?_
  obtain ⟨T8, X8, e8, st8⟩ := own_chA X7 hx hZ hown (ow hw 244) hw A' C' B' D' rfl hp1 e7 (O2.ext OLD.2) P5 (O4.ext OLD.2) rG3 (i := 19) (lb rfl) (g := (mkF m 75 #[vR ra0, vI 13] [.int 19, .ref ra0])) rfl (zs hml) (rest := []) rfl (hb hby d45_75) (W := 0) rfl
  refine og T8 (mkF m 88 #[vR ra0, vI 13] [.int 20, .ref ra0]) (fun _ k => st8 _ (qb X8 hx hby d45_78 rfl (qn X8 hx hby d45_80 rfl rfl (tq 111) (qa X8 hx hby d45_83 rfl rfl rfl (qi X8 hx hby d45_84 rfl rfl (qb X8 hx hby d45_85 rfl (qp X8 hx hby d45_87 rfl rfl k))))))) ?_
  obtain ⟨T9, X9, e9, st9⟩ := own_chA X8 hx hZ hown (ow hw 244) hw A' C' B' D' rfl hp1 e8 (O2.ext OLD.2) P5 (O4.ext OLD.2) rG3 (i := 20) (lb rfl) (g := (mkF m 88 #[vR ra0, vI 13] [.int 20, .ref ra0])) rfl (zs hml) (rest := []) rfl (hb hby d45_88) (W := 0) rfl
  refine og T9 (mkF m 101 #[vR ra0, vI 13] [.int 21, .ref ra0]) (fun _ k => st9 _ (qb X9 hx hby d45_91 rfl (qn X9 hx hby d45_93 rfl rfl (tq 116) (qa X9 hx hby d45_96 rfl rfl rfl (qi X9 hx hby d45_97 rfl rfl (qb X9 hx hby d45_98 rfl (qp X9 hx hby d45_100 rfl rfl k))))))) ?_
  obtain ⟨T10, X10, e10, st10⟩ := own_chA X9 hx hZ hown (ow hw 244) hw A' C' B' D' rfl hp1 e9 (O2.ext OLD.2) P5 (O4.ext OLD.2) rG3 (i := 21) (lb rfl) (g := (mkF m 101 #[vR ra0, vI 13] [.int 21, .ref ra0])) rfl (zs hml) (rest := []) rfl (hb hby d45_101) (W := 0) rfl
  refine og T10 (mkF m 114 #[vR ra0, vI 13] [.int 22, .ref ra0]) (fun _ k => st10 _ (qb X10 hx hby d45_104 rfl (qn X10 hx hby d45_106 rfl rfl (tq 32) (qa X10 hx hby d45_109 rfl rfl rfl (qi X10 hx hby d45_110 rfl rfl (qb X10 hx hby d45_111 rfl (qp X10 hx hby d45_113 rfl rfl k))))))) ?_
  obtain ⟨T11, X11, e11, st11⟩ := own_chA X10 hx hZ hown (ow hw 244) hw A' C' B' D' rfl hp1 e10 (O2.ext OLD.2) P5 (O4.ext OLD.2) rG3 (i := 22) (lb rfl) (g := (mkF m 114 #[vR ra0, vI 13] [.int 22, .ref ra0])) rfl (zs hml) (rest := []) rfl (hb hby d45_114) (W := 0) rfl
  refine og T11 (mkF m 127 #[vR ra0, vI 13] [.int 23, .ref ra0]) (fun _ k => st11 _ (qb X11 hx hby d45_117 rfl (qn X11 hx hby d45_119 rfl rfl (tq 109) (qa X11 hx hby d45_122 rfl rfl rfl (qi X11 hx hby d45_123 rfl rfl (qb X11 hx hby d45_124 rfl (qp X11 hx hby d45_126 rfl rfl k))))))) ?_
  obtain ⟨T12, X12, e12, st12⟩ := own_chA X11 hx hZ hown (ow hw 244) hw A' C' B' D' rfl hp1 e11 (O2.ext OLD.2) P5 (O4.ext OLD.2) rG3 (i := 23) (lb rfl) (g := (mkF m 127 #[vR ra0, vI 13] [.int 23, .ref ra0])) rfl (zs hml) (rest := []) rfl (hb hby d45_127) (W := 0) rfl
  refine og T12 (mkF m 140 #[vR ra0, vI 13] [.int 24, .ref ra0]) (fun _ k => st12 _ (qb X12 hx hby d45_130 rfl (qn X12 hx hby d45_132 rfl rfl (tq 97) (qa X12 hx hby d45_135 rfl rfl rfl (qi X12 hx hby d45_136 rfl rfl (qb X12 hx hby d45_137 rfl (qp X12 hx hby d45_139 rfl rfl k))))))) ?_
  obtain ⟨T13, X13, e13, st13⟩ := own_chA X12 hx hZ hown (ow hw 244) hw A' C' B' D' rfl hp1 e12 (O2.ext OLD.2) P5 (O4.ext OLD.2) rG3 (i := 24) (lb rfl) (g := (mkF m 140 #[vR ra0, vI 13] [.int 24, .ref ra0])) rfl (zs hml) (rest := []) rfl (hb hby d45_140) (W := 0) rfl
  refine og T13 (mkF m 153 #[vR ra0, vI 13] [.int 25, .ref ra0]) (fun _ k => st13 _ (qb X13 hx hby d45_143 rfl (qn X13 hx hby d45_145 rfl rfl (tq 112) (qa X13 hx hby d45_148 rfl rfl rfl (qi X13 hx hby d45_149 rfl rfl (qb X13 hx hby d45_150 rfl (qp X13 hx hby d45_152 rfl rfl k))))))) ?_
  obtain ⟨T14, X14, e14, st14⟩ := own_chA X13 hx hZ hown (ow hw 244) hw A' C' B' D' rfl hp1 e13 (O2.ext OLD.2) P5 (O4.ext OLD.2) rG3 (i := 25) (lb rfl) (g := (mkF m 153 #[vR ra0, vI 13] [.int 25, .ref ra0])) rfl (zs hml) (rest := []) rfl (hb hby d45_153) (W := 0) rfl
  refine og T14 (mkF m 166 #[vR ra0, vI 13] [.int 26, .ref ra0]) (fun _ k => st14 _ (qb X14 hx hby d45_156 rfl (qn X14 hx hby d45_158 rfl rfl (tq 112) (qa X14 hx hby d45_161 rfl rfl rfl (qi X14 hx hby d45_162 rfl rfl (qb X14 hx hby d45_163 rfl (qp X14 hx hby d45_165 rfl rfl k))))))) ?_
  obtain ⟨T15, X15, e15, st15⟩ := own_chA X14 hx hZ hown (ow hw 244) hw A' C' B' D' rfl hp1 e14 (O2.ext OLD.2) P5 (O4.ext OLD.2) rG3 (i := 26) (lb rfl) (g := (mkF m 166 #[vR ra0, vI 13] [.int 26, .ref ra0])) rfl (zs hml) (rest := []) rfl (hb hby d45_166) (W := 0) rfl
  refine og T15 (mkF m 179 #[vR ra0, vI 13] [.int 27, .ref ra0]) (fun _ k => st15 _ (qb X15 hx hby d45_169 rfl (qn X15 hx hby d45_171 rfl rfl (tq 101) (qa X15 hx hby d45_174 rfl rfl rfl (qi X15 hx hby d45_175 rfl rfl (qb X15 hx hby d45_176 rfl (qp X15 hx hby d45_178 rfl rfl k))))))) ?_
  obtain ⟨T16, X16, e16, st16⟩ := own_chA X15 hx hZ hown (ow hw 244) hw A' C' B' D' rfl hp1 e15 (O2.ext OLD.2) P5 (O4.ext OLD.2) rG3 (i := 27) (lb rfl) (g := (mkF m 179 #[vR ra0, vI 13] [.int 27, .ref ra0])) rfl (zs hml) (rest := []) rfl (hb hby d45_179) (W := 0) rfl
  refine og T16 (mkF m 192 #[vR ra0, vI 13] [.int 1]) (fun _ k => st16 _ (qb X16 hx hby d45_182 rfl (qn X16 hx hby d45_184 rfl rfl (tq 100) (qc X16 hx hby d45_187 rfl (XS.goto X16.here hx rfl (pc0 := 188) (pc' := 192) rfl (hb hby d45_188) (by decide) (by decide) k))))) ?_
  exact own_leaveN X16 hlk (v := some (.int (nar .boolean (1 : Int32)))) (own_nr hret) (lb rfl) (lb rfl) (by rw [e16]; exact ⟨rfl, N0, rfl⟩) (fun fs hr => retN X16 hx (t := .boolean) hret (by simp) (hb hby d45_192) hr)
abbrev R11_87 : Room := { frames := 0, cells := 0, slots := 0, locals := 0 }
def Q11_87 (Z : State) (ra0 ra1 : Addr) (kc2 : ClassId) (cs3 : List Int32) (h0 : Heap) (n0 : Nat) (v : Option Value) (h : Heap) (L : List Loc) : Prop := (v = none ∧ Fr n0 L ∧ h = h0)
theorem rm11_87 l Z a0 (hw : HW Z a0) ra0 ra1 kc2 (cs3 : List Int32) h0 n0 (OLD : Old Z n0 h0) (A' : Exa Z h0 ra0 cN3) (B' : Fld Z h0 ra0 cN0 "coder" "B" (.int 0)) (C' : Fld Z h0 ra0 cN0 "count" "I" (.int 12)) (D' : Fld Z h0 ra0 cN0 "value" "[B" (.ref ra1)) (E' : cs3.length = 12) (F' : own_L cs3) (G' : Arv Z h0 ra1 kc2 .byte (16 : Int32) (own_by cs3) (.int 0)) :
    own_CN l Z y4 jdk_68_method_9_code 3 none [] R11_87 #[.ref ra0, .int 14] h0 (Q11_87 Z ra0 ra1 kc2 cs3 h0 n0) := by
  refine own_entryN (plainFor_of_name pn_1) fun p e s m below meth c s₁ hx hby hml hown hnm hret hlk hZ hh X0 e0 => ?_
  have N0 := Fr.nil n0
  rw [ef_11_87 m ra0]
  refine og s₁ (mkF m 1 #[vR ra0, vI 14, vU] [.ref ra0]) (fun _ k => qa X0 hx hby d11_0 rfl rfl rfl k) ?_
  obtain ⟨T1, X1, e1, st1⟩ := qf X0 hx hZ hown (ow hw 45) e0 D' (g := (mkF m 1 #[vR ra0, vI 14, vU] [.ref ra0])) rfl rfl hby d11_1
  refine og T1 (mkF m 4 #[vR ra0, vI 14, vU] [.ref ra1]) st1 ?_
  obtain ⟨cl2, Ar2, -, Sr2, Nr2, -, -⟩ := id G'
  refine og T1 (mkF m 5 #[vR ra0, vI 14, vU] [.int 16]) (fun t k => X1.arraylength hx (by rw [e1]; exact Ar2.1) (State.isArrayOf_alike hZ.alike Ar2.2.1) (g := (mkF m 4 #[vR ra0, vI 14, vU] [.ref ra1])) rfl rfl (hb hby d11_4) t (by rw [len_of Sr2 Nr2]; exact k)) ?_
  refine og T1 (mkF m 6 #[vR ra0, vI 14, vU] [.ref ra0, .int 16]) (fun _ k => qa X1 hx hby d11_5 rfl rfl rfl k) ?_
  obtain ⟨T3, X3, e3, st3⟩ := qf X1 hx hZ hown (ow hw 47) e1 B' (g := (mkF m 6 #[vR ra0, vI 14, vU] [.ref ra0, .int 16])) rfl rfl hby d11_6
  refine og T3 (mkF m 10 #[vR ra0, vI 14, vU] [.int 16]) (fun _ k => st3 _ (XS.ishr X3.here hx rfl (hb hby d11_9) rfl (by rw [show ((16 : Int32) >>> ((0 : Int32) &&& 31)) = (16 : Int32) from by decide]; exact k))) ?_
  refine og T3 (mkF m 38 #[vR ra0, vI 14, vI 16] []) (fun _ k => XS.istoreN X3.here hx rfl (hb hby d11_10) rfl (l' := #[vR ra0, vI 14, vI 16]) rfl (qi X3 hx hby d11_11 rfl rfl (qi X3 hx hby d11_12 rfl rfl (XS.isub X3.here hx rfl (hb hby d11_13) rfl (XS.ifYes X3.here hx rfl (pc0 := 14) (pc' := 38) rfl (hb hby d11_14) rfl ((if0 _ _).trans (flt (by decide : ¬ ((0 : Int32) < (-2 : Int32)))).2.2.2) (by decide) (by decide) k))))) ?_
  exact own_leaveN X3 hlk (v := none) (fun _ => rfl) (lb rfl) (lb rfl) (by rw [e3]; exact ⟨rfl, N0, rfl⟩) (fun fs hr => X3.returnOut hx hret (hb hby d11_38) hr)
abbrev R14_89 : Room := { frames := 1, cells := 0, slots := 0, locals := 18 }
def Q14_89 (Z : State) (ra0 ra1 : Addr) (kc2 : ClassId) (cs3 : List Int32) (ra4 : Addr) (kc5 : ClassId) (cs6 : List Int32) (G1 : Int32) (h0 : Heap) (n0 : Nat) (v : Option Value) (h : Heap) (L : List Loc) : Prop := (v = none ∧ Fr n0 L ∧ Keep h0 h [ra4] ∧ Arv Z h ra4 kc5 .byte (16 : Int32) (own_by (cs6 ++ cs3)) (.int 0))
theorem rm14_89 l Z a0 (hw : HW Z a0) ra0 ra1 kc2 (cs3 : List Int32) ra4 kc5 (cs6 : List Int32) (G1 : Int32) h0 n0 (OLD : Old Z n0 h0) (A' : Exa Z h0 ra0 cN1) (B' : Fld Z h0 ra0 cN1 "coder" "B" (.int 0)) (C' : Fld Z h0 ra0 cN1 "value" "[B" (.ref ra1)) (D' : cs3.length = 2) (E' : own_L cs3) (F' : Arv Z h0 ra1 kc2 .byte (2 : Int32) (own_by cs3) (.int 0)) (G' : cs6.length = 12) (H' : own_L cs6) (I' : Arv Z h0 ra4 kc5 .byte (16 : Int32) (own_by cs6) (.int 0)) (O2 : Sta Z Z.heap cN1 "COMPACT_STRINGS" "Z" (.int G1)) (P5 : ¬ (G1 = (0 : Int32))) (J' : n0 ≤ ra4) :
    own_CN l Z y7 jdk_42_method_147_code 4 none [] R14_89 #[.ref ra0, .ref ra4, .int 12, .int 0] h0 (Q14_89 Z ra0 ra1 kc2 cs3 ra4 kc5 cs6 G1 h0 n0) := by
  refine own_entryN (plainFor_of_name pn_0) fun p e s m below meth c s₁ hx hby hml hown hnm hret hlk hZ hh X0 e0 => ?_
  have N0 := Fr.nil n0
  rw [ef_14_21 m ra0 ra4]
  refine og s₁ (mkF m 1 #[vR ra0, vR ra4, vI 12, vI 0] [.ref ra0]) (fun _ k => qa X0 hx hby d14_0 rfl rfl rfl k) ?_
  obtain ⟨_, T1, L1, X1, hQ1, st1⟩ := own_vc X0 hx hZ hown (ow hw 65) (ow hw 66) (ow hw 68) (ow hw 67) A' (rm10_15 l Z a0 hw ra0 G1 ((0 : Int32)) h0 n0 OLD O2 P5 B') (ow hw 69) (ow hw 2) e0 (g := (mkF m 1 #[vR ra0, vR ra4, vI 12, vI 0] [.ref ra0])) rfl (zs hml) (argsL := []) (rest := []) (lenOf pd_4 rfl) rfl (hb hby d14_1) (W := 0) rfl
  obtain ⟨rfl, Nq1, eq1⟩ := hQ1
  have N1 := Fr.app N0 Nq1
  refine og T1 (mkF m 9 #[vR ra0, vR ra4, vI 12, vI 0] [.ref ra0]) (fun _ k => st1.trans (qi X1 hx hby d14_4 rfl rfl (qn X1 hx hby d14_5 rfl rfl (tq 0) (qa X1 hx hby d14_8 rfl rfl rfl k)))) ?_
  obtain ⟨T2, X2, e2, st2⟩ := qf X1 hx hZ hown (ow hw 20) eq1 C' (g := (mkF m 9 #[vR ra0, vR ra4, vI 12, vI 0] [.ref ra0])) rfl rfl hby d14_9
  refine og T2 (mkF m 16 #[vR ra0, vR ra4, vI 12, vI 0] [.int 0, .int 12, .ref ra4, .int 0, .ref ra1]) (fun _ k => st2 _ (qc X2 hx hby d14_12 rfl (qa X2 hx hby d14_13 rfl rfl rfl (qi X2 hx hby d14_14 rfl rfl (qi X2 hx hby d14_15 rfl rfl k))))) ?_
  refine og T2 (mkF m 17 #[vR ra0, vR ra4, vI 12, vI 0] [.int 12, .ref ra4, .int 0, .ref ra1]) (fun _ k => XS.ishl X2.here hx rfl (hb hby d14_16) rfl (by rw [show ((12 : Int32) <<< ((0 : Int32) &&& 31)) = (12 : Int32) from by decide]; exact k)) ?_
  refine og T2 (mkF m 18 #[vR ra0, vR ra4, vI 12, vI 0] [.ref ra0, .int 12, .ref ra4, .int 0, .ref ra1]) (fun _ k => qa X2 hx hby d14_17 rfl rfl rfl k) ?_
  obtain ⟨T3, X3, e3, st3⟩ := qf X2 hx hZ hown (ow hw 20) e2 C' (g := (mkF m 18 #[vR ra0, vR ra4, vI 12, vI 0] [.ref ra0, .int 12, .ref ra4, .int 0, .ref ra1])) rfl rfl hby d14_18
  refine og T3 (mkF m 21 #[vR ra0, vR ra4, vI 12, vI 0] [.ref ra1, .int 12, .ref ra4, .int 0, .ref ra1]) st3 ?_
  obtain ⟨cl4, Ar4, -, Sr4, Nr4, -, -⟩ := id F'
  refine og T3 (mkF m 22 #[vR ra0, vR ra4, vI 12, vI 0] [.int 2, .int 12, .ref ra4, .int 0, .ref ra1]) (fun t k => X3.arraylength hx (by rw [e3]; exact Ar4.1) (State.isArrayOf_alike hZ.alike Ar4.2.1) (g := (mkF m 21 #[vR ra0, vR ra4, vI 12, vI 0] [.ref ra1, .int 12, .ref ra4, .int 0, .ref ra1])) rfl rfl (hb hby d14_21) t (by rw [len_of Sr4 Nr4]; exact k)) ?_
  obtain ⟨T5, h5, L5, X5, e5, N5, K5, Vq5, st5⟩ := own_cpB X3 hx hZ hown (ow hw 94) (ow hw 97) (ow hw 95) (ow hw 96) e3 F' I' (sp := (0 : Int32)) (dp := (12 : Int32)) (nn := (2 : Int32)) rfl (by decide) (by decide) (by decide) (by decide) (show _ = _ from G') ((Eq.symm D') ▸ lb rfl) N1 J' (g := (mkF m 22 #[vR ra0, vR ra4, vI 12, vI 0] [.int 2, .int 12, .ref ra4, .int 0, .ref ra1])) rfl (zs hml) rfl (hb hby d14_22) (lb rfl) (W := 0) (lb rfl) (lb rfl)
  have V5 : Arv Z h5 ra4 kc5 .byte (16 : Int32) (own_by (cs6 ++ cs3)) (.int 0) := Vq5
  refine og T5 (mkF m 43 #[vR ra0, vR ra4, vI 12, vI 0] []) (fun _ k => st5 _ (XS.goto X5.here hx rfl (pc0 := 25) (pc' := 43) rfl (hb hby d14_25) (by decide) (by decide) k)) ?_
  have KEEP := ((Keep.refl h0 [ra4]).trans K5 (allS (Or.inl (List.mem_of_getElem? (i := 0) rfl)) all0))
  exact own_leaveN X5 hlk (v := none) (fun _ => rfl) (lb rfl) (lb rfl) (by rw [e5]; exact ⟨rfl, N5, KEEP, V5⟩) (fun fs hr => X5.returnOut hx hret (hb hby d14_43) hr)
abbrev R12_88 : Room := { frames := 2, cells := 0, slots := 0, locals := 33 }
def Q12_88 (Z : State) (ra0 ra1 : Addr) (kc2 : ClassId) (cs3 : List Int32) (ra4 ra5 : Addr) (kc6 : ClassId) (cs7 : List Int32) (G1 : Int32) (h0 : Heap) (n0 : Nat) (v : Option Value) (h : Heap) (L : List Loc) : Prop := (v = none ∧ Fr n0 L ∧ Keep h0 h [ra1] ∧ Arv Z h ra1 kc2 .byte (16 : Int32) (own_by (cs3 ++ cs7)) (.int 0))
theorem rm12_88 l Z a0 (hw : HW Z a0) ra0 ra1 kc2 (cs3 : List Int32) ra4 ra5 kc6 (cs7 : List Int32) (G1 : Int32) h0 n0 (OLD : Old Z n0 h0) (A' : Exa Z h0 ra0 cN3) (B' : Fld Z h0 ra0 cN0 "coder" "B" (.int 0)) (C' : Fld Z h0 ra0 cN0 "count" "I" (.int 12)) (D' : Fld Z h0 ra0 cN0 "value" "[B" (.ref ra1)) (E' : cs3.length = 12) (F' : own_L cs3) (G' : Arv Z h0 ra1 kc2 .byte (16 : Int32) (own_by cs3) (.int 0)) (H' : Exa Z h0 ra4 cN1) (I' : Fld Z h0 ra4 cN1 "coder" "B" (.int 0)) (J' : Fld Z h0 ra4 cN1 "value" "[B" (.ref ra5)) (K' : cs7.length = 2) (L' : own_L cs7) (M' : Arv Z h0 ra5 kc6 .byte (2 : Int32) (own_by cs7) (.int 0)) (O2 : Sta Z Z.heap cN1 "COMPACT_STRINGS" "Z" (.int G1)) (P5 : ¬ (G1 = (0 : Int32))) (N' : n0 ≤ ra1) :
    own_CN l Z y8 jdk_68_method_73_code 3 none [] R12_88 #[.ref ra0, .int 12, .ref ra4] h0 (Q12_88 Z ra0 ra1 kc2 cs3 ra4 ra5 kc6 cs7 G1 h0 n0) := by
  refine own_entryN (plainFor_of_name pn_1) fun p e s m below meth c s₁ hx hby hml hown hnm hret hlk hZ hh X0 e0 => ?_
  have N0 := Fr.nil n0
  rw [ef_12_20 m ra0 ra4]
  refine og s₁ (mkF m 2 #[vR ra0, vI 12, vR ra4] [.ref ra4, .ref ra0]) (fun _ k => qa X0 hx hby d12_0 rfl rfl rfl (qa X0 hx hby d12_1 rfl rfl rfl k)) ?_
  obtain ⟨_, T1, L1, X1, hQ1, st1⟩ := own_pc X0 hx hZ hown (ow hw 83) (ow hw 86) (ow hw 84) (ow hw 85) A' (rm13_14 l Z a0 hw ra0 ra4 G1 ((0 : Int32)) ((0 : Int32)) h0 n0 OLD O2 P5 B' I' H' (by decide : (0 : Int32) = (0 : Int32))) (ow hw 87) (ow hw 41) e0 (g := (mkF m 2 #[vR ra0, vI 12, vR ra4] [.ref ra4, .ref ra0])) rfl (zs hml) (argsL := [.ref ra4]) (rest := []) (lenOf pd_5 rfl) rfl (hb hby d12_2) (W := 0) rfl
  obtain ⟨rfl, Nq1, eq1⟩ := hQ1
  have N1 := Fr.app N0 Nq1
  refine og T1 (mkF m 7 #[vR ra0, vI 12, vR ra4] [.ref ra0, .ref ra4]) (fun _ k => st1.trans (qa X1 hx hby d12_5 rfl rfl rfl (qa X1 hx hby d12_6 rfl rfl rfl k))) ?_
  obtain ⟨T2, X2, e2, st2⟩ := qf X1 hx hZ hown (ow hw 45) eq1 D' (g := (mkF m 7 #[vR ra0, vI 12, vR ra4] [.ref ra0, .ref ra4])) rfl rfl hby d12_7
  refine og T2 (mkF m 12 #[vR ra0, vI 12, vR ra4] [.ref ra0, .int 12, .ref ra1, .ref ra4]) (fun _ k => st2 _ (qi X2 hx hby d12_10 rfl rfl (qa X2 hx hby d12_11 rfl rfl rfl k))) ?_
  obtain ⟨T3, X3, e3, st3⟩ := qf X2 hx hZ hown (ow hw 47) e2 B' (g := (mkF m 12 #[vR ra0, vI 12, vR ra4] [.ref ra0, .int 12, .ref ra1, .ref ra4])) rfl rfl hby d12_12
  refine og T3 (mkF m 15 #[vR ra0, vI 12, vR ra4] [.int 0, .int 12, .ref ra1, .ref ra4]) st3 ?_
  obtain ⟨_, T4, L4, X4, hQ4, st4⟩ := own_vc X3 hx hZ hown (ow hw 89) (ow hw 90) (ow hw 92) (ow hw 91) H' (rm14_89 l Z a0 hw ra4 ra5 kc6 cs7 ra1 kc2 cs3 G1 h0 n0 OLD H' I' J' K' L' M' E' F' G' O2 P5 N') (ow hw 93) (ow hw 2) e3 (g := (mkF m 15 #[vR ra0, vI 12, vR ra4] [.int 0, .int 12, .ref ra1, .ref ra4])) rfl (zs hml) (argsL := [.ref ra1, .int 12, .int 0]) (rest := []) (lenOf pd_6 rfl) rfl (hb hby d12_15) (W := 0) rfl
  obtain ⟨rfl, Nq4, K4, f5⟩ := hQ4
  have N4 := Fr.app N1 Nq4
  refine ot T4 (mkF m 18 #[vR ra0, vI 12, vR ra4] []) st4 ?_
  have KEEP := ((Keep.refl h0 [ra1]).trans K4 (allS (Or.inl (List.mem_of_getElem? (i := 0) rfl)) all0))
  exact own_leaveN X4 hlk (v := none) (fun _ => rfl) (lb rfl) (lb rfl) (by exact ⟨rfl, N4, KEEP, f5⟩) (fun fs hr => X4.returnOut hx hret (hb hby d12_18) hr)
abbrev R8_86 : Room := { frames := 3, cells := 0, slots := 0, locals := 47 }
def Q8_86 (Z : State) (ra0 ra1 : Addr) (kc2 : ClassId) (cs3 : List Int32) (ra4 ra5 : Addr) (kc6 : ClassId) (cs7 : List Int32) (G1 : Int32) (h0 : Heap) (n0 : Nat) (v : Option Value) (h : Heap) (L : List Loc) : Prop := (v = some (.ref ra0) ∧ Fr n0 L ∧ Keep h0 h [ra1, ra0] ∧ Arv Z h ra1 kc2 .byte (16 : Int32) (own_by (cs3 ++ cs7)) (.int 0) ∧ Fld Z h ra0 cN0 "coder" "B" (.int 0) ∧ Fld Z h ra0 cN0 "count" "I" (.int 14) ∧ Fld Z h ra0 cN0 "value" "[B" (.ref ra1))
theorem rm8_86 l Z a0 (hw : HW Z a0) ra0 ra1 kc2 (cs3 : List Int32) ra4 ra5 kc6 (cs7 : List Int32) (G1 : Int32) h0 n0 (OLD : Old Z n0 h0) (A' : Exa Z h0 ra0 cN3) (B' : Fld Z h0 ra0 cN0 "coder" "B" (.int 0)) (C' : Fld Z h0 ra0 cN0 "count" "I" (.int 12)) (D' : Fld Z h0 ra0 cN0 "value" "[B" (.ref ra1)) (E' : cs3.length = 12) (F' : own_L cs3) (G' : Arv Z h0 ra1 kc2 .byte (16 : Int32) (own_by cs3) (.int 0)) (H' : Exa Z h0 ra4 cN1) (I' : Fld Z h0 ra4 cN1 "coder" "B" (.int 0)) (J' : Fld Z h0 ra4 cN1 "value" "[B" (.ref ra5)) (K' : cs7.length = 2) (L' : own_L cs7) (M' : Arv Z h0 ra5 kc6 .byte (2 : Int32) (own_by cs7) (.int 0)) (O2 : Sta Z Z.heap cN1 "COMPACT_STRINGS" "Z" (.int G1)) (P5 : ¬ (G1 = (0 : Int32))) (N' : n0 ≤ ra1) (ne_ra0_ra1 : ra0 ≠ ra1) (P' : n0 ≤ ra0) :
    own_CN l Z y9 jdk_68_method_22_code 3 (some (.object cN0)) [] R8_86 #[.ref ra0, .ref ra4] h0 (Q8_86 Z ra0 ra1 kc2 cs3 ra4 ra5 kc6 cs7 G1 h0 n0) := by
  refine own_entryN (plainFor_of_name pn_1) fun p e s m below meth c s₁ hx hby hml hown hnm hret hlk hZ hh X0 e0 => ?_
  have N0 := Fr.nil n0
  rw [ef_8_11 m ra0 ra4]
  refine og s₁ (mkF m 10 #[vR ra0, vR ra4, vU] [.ref ra4]) (fun _ k => qa X0 hx hby d8_0 rfl rfl rfl (XS.ifnonnullYes X0.here hx rfl (pc0 := 1) (pc' := 9) rfl (hb hby d8_1) rfl (by decide) (by decide) (qa X0 hx hby d8_9 rfl rfl rfl k))) ?_
  obtain ⟨T1, X1, e1, st1⟩ := own_lenA X0 hx hZ hown (ow hw 60) hw H' J' I' M' K' L' e0 (O2.ext OLD.2) P5 (g := (mkF m 10 #[vR ra0, vR ra4, vU] [.ref ra4])) rfl (zs hml) (rest := []) rfl (hb hby d8_10) (W := 0) rfl
  refine og T1 (mkF m 16 #[vR ra0, vR ra4, vI 2] [.ref ra0, .ref ra0]) (fun _ k => st1 _ (XS.istoreN X1.here hx rfl (hb hby d8_13) rfl (l' := #[vR ra0, vR ra4, vI 2]) rfl (qa X1 hx hby d8_14 rfl rfl rfl (qa X1 hx hby d8_15 rfl rfl rfl k)))) ?_
  obtain ⟨T2, X2, e2, st2⟩ := qf X1 hx hZ hown (ow hw 71) e1 C' (g := (mkF m 16 #[vR ra0, vR ra4, vI 2] [.ref ra0, .ref ra0])) rfl rfl hby d8_16
  refine og T2 (mkF m 21 #[vR ra0, vR ra4, vI 2] [.int 14, .ref ra0]) (fun _ k => st2 _ (qi X2 hx hby d8_19 rfl rfl (qp X2 hx hby d8_20 rfl rfl k))) ?_
  obtain ⟨_, T3, L3, X3, hQ3, st3⟩ := own_pc X2 hx hZ hown (ow hw 73) (ow hw 76) (ow hw 74) (ow hw 75) A' (rm11_87 l Z a0 hw ra0 ra1 kc2 cs3 h0 n0 OLD A' B' C' D' E' F' G') (ow hw 77) (ow hw 41) e2 (g := (mkF m 21 #[vR ra0, vR ra4, vI 2] [.int 14, .ref ra0])) rfl (zs hml) (argsL := [.int 14]) (rest := []) (lenOf pd_2 rfl) rfl (hb hby d8_21) (W := 0) rfl
  obtain ⟨rfl, Nq3, eq3⟩ := hQ3
  have N3 := Fr.app N0 Nq3
  refine og T3 (mkF m 26 #[vR ra0, vR ra4, vI 2] [.ref ra0, .ref ra0]) (fun _ k => st3.trans (qa X3 hx hby d8_24 rfl rfl rfl (qa X3 hx hby d8_25 rfl rfl rfl k))) ?_
  obtain ⟨T4, X4, e4, st4⟩ := qf X3 hx hZ hown (ow hw 71) eq3 C' (g := (mkF m 26 #[vR ra0, vR ra4, vI 2] [.ref ra0, .ref ra0])) rfl rfl hby d8_26
  refine og T4 (mkF m 30 #[vR ra0, vR ra4, vI 2] [.ref ra4, .int 12, .ref ra0]) (fun _ k => st4 _ (qa X4 hx hby d8_29 rfl rfl rfl k)) ?_
  obtain ⟨_, T5, L5, X5, hQ5, st5⟩ := own_pc X4 hx hZ hown (ow hw 78) (ow hw 81) (ow hw 79) (ow hw 80) A' (rm12_88 l Z a0 hw ra0 ra1 kc2 cs3 ra4 ra5 kc6 cs7 G1 h0 n0 OLD A' B' C' D' E' F' G' H' I' J' K' L' M' O2 P5 N') (ow hw 82) (ow hw 41) e4 (g := (mkF m 30 #[vR ra0, vR ra4, vI 2] [.ref ra4, .int 12, .ref ra0])) rfl (zs hml) (argsL := [.int 12, .ref ra4]) (rest := []) (lenOf pd_7 rfl) rfl (hb hby d8_30) (W := 0) rfl
  obtain ⟨rfl, Nq5, K5, f6⟩ := hQ5
  have N5 := Fr.app N3 Nq5
  refine og T5 (mkF m 35 #[vR ra0, vR ra4, vI 2] [.ref ra0, .ref ra0]) (fun _ k => st5.trans (qa X5 hx hby d8_33 rfl rfl rfl (XS.dup X5.here hx rfl (hb hby d8_34) rfl rfl k))) ?_
  have F7 := (C'.keep K5 (ninS ne_ra0_ra1 nin0))
  obtain ⟨T8, X8, e8, st8⟩ := qf X5 hx hZ hown (ow hw 71) rfl F7 (g := (mkF m 35 #[vR ra0, vR ra4, vI 2] [.ref ra0, .ref ra0])) rfl rfl hby d8_35
  refine og T8 (mkF m 40 #[vR ra0, vR ra4, vI 2] [.int 14, .ref ra0]) (fun _ k => st8 _ (qi X8 hx hby d8_38 rfl rfl (qp X8 hx hby d8_39 rfl rfl k))) ?_
  have F9 := (A'.keep K5)
  obtain ⟨T10, h10, X10, e10, W10, st10⟩ := putF X8 hx hZ hown (host := "") (Or.inl (ow hw 71)) Via.refl e8 F7 F9 (Or.inl (ow hw 72)) (ow hw 32) (ty := .int) (by decide) rfl rfl (g := (mkF m 40 #[vR ra0, vR ra4, vI 2] [.int 14, .ref ra0])) rfl rfl (hb hby d8_40)
  have Fw10 := F7.same W10
  have N10 := Fr.snoc X10 N5 P'
  refine og T10 (mkF m 44 #[vR ra0, vR ra4, vI 2] [.ref ra0]) (fun _ k => st10 _ (qa X10 hx hby d8_43 rfl rfl rfl k)) ?_
  have F11 := (f6.other W10 (Ne.symm ne_ra0_ra1))
  have F12 := ((B'.keep K5 (ninS ne_ra0_ra1 nin0)).other W10 (Or.inr (slot_ne (Or.inl (ow hw 48)) (Or.inl (ow hw 72)) (by decide) (t := .byte) (t' := .int) (by decide) (by decide))))
  have F13 := ((D'.keep K5 (ninS ne_ra0_ra1 nin0)).other W10 (Or.inr (slot_ne (Or.inl (ow hw 46)) (Or.inl (ow hw 72)) (by decide) (t := (.array .byte)) (t' := .int) (by decide) (by decide))))
  have KEEP := (((Keep.refl h0 [ra1, ra0]).trans K5 (allS (Or.inl (List.mem_of_getElem? (i := 0) rfl)) all0)).wr W10 (Or.inl (List.mem_of_getElem? (i := 1) rfl)))
  exact own_leaveN X10 hlk (v := some (.ref ra0)) (own_nr hret) (lb rfl) (lb rfl) (by rw [e10]; exact ⟨rfl, N10, KEEP, F11, F12, Fw10, F13⟩) (own_ra X10 hx hret rfl rfl rfl (hb hby d8_44))
abbrev R7_85 : Room := { frames := 4, cells := 0, slots := 0, locals := 61 }
def Q7_85 (Z : State) (ra0 ra1 : Addr) (kc2 : ClassId) (cs3 : List Int32) (ra4 ra5 : Addr) (kc6 : ClassId) (cs7 : List Int32) (G1 : Int32) (h0 : Heap) (n0 : Nat) (v : Option Value) (h : Heap) (L : List Loc) : Prop := (v = some (.ref ra0) ∧ Fr n0 L ∧ Keep h0 h [ra1, ra0] ∧ Arv Z h ra1 kc2 .byte (16 : Int32) (own_by (cs3 ++ cs7)) (.int 0) ∧ Fld Z h ra0 cN0 "coder" "B" (.int 0) ∧ Fld Z h ra0 cN0 "count" "I" (.int 14) ∧ Fld Z h ra0 cN0 "value" "[B" (.ref ra1))
theorem rm7_85 l Z a0 (hw : HW Z a0) ra0 ra1 kc2 (cs3 : List Int32) ra4 ra5 kc6 (cs7 : List Int32) (G1 : Int32) h0 n0 (OLD : Old Z n0 h0) (A' : Exa Z h0 ra0 cN3) (B' : Fld Z h0 ra0 cN0 "coder" "B" (.int 0)) (C' : Fld Z h0 ra0 cN0 "count" "I" (.int 12)) (D' : Fld Z h0 ra0 cN0 "value" "[B" (.ref ra1)) (E' : cs3.length = 12) (F' : own_L cs3) (G' : Arv Z h0 ra1 kc2 .byte (16 : Int32) (own_by cs3) (.int 0)) (H' : Exa Z h0 ra4 cN1) (I' : Fld Z h0 ra4 cN1 "coder" "B" (.int 0)) (J' : Fld Z h0 ra4 cN1 "value" "[B" (.ref ra5)) (K' : cs7.length = 2) (L' : own_L cs7) (M' : Arv Z h0 ra5 kc6 .byte (2 : Int32) (own_by cs7) (.int 0)) (O2 : Sta Z Z.heap cN1 "COMPACT_STRINGS" "Z" (.int G1)) (P5 : ¬ (G1 = (0 : Int32))) (N' : n0 ≤ ra1) (ne_ra0_ra1 : ra0 ≠ ra1) (P' : n0 ≤ ra0) :
    own_CN l Z y10 jdk_67_method_7_code 2 (some (.object cN3)) [] R7_85 #[.ref ra0, .ref ra4] h0 (Q7_85 Z ra0 ra1 kc2 cs3 ra4 ra5 kc6 cs7 G1 h0 n0) := by
  refine own_entryN (plainFor_of_name pn_2) fun p e s m below meth c s₁ hx hby hml hown hnm hret hlk hZ hh X0 e0 => ?_
  have N0 := Fr.nil n0
  rw [ef_1_5 m ra0 ra4]
  refine og s₁ (mkF m 2 #[vR ra0, vR ra4] [.ref ra4, .ref ra0]) (fun _ k => qa X0 hx hby d7_0 rfl rfl rfl (qa X0 hx hby d7_1 rfl rfl rfl k)) ?_
  obtain ⟨_, _, ⟨T2, L2, k2, n2⟩, -, X2, ⟨Lc2, hQ2, l2, y2, z2⟩, st2⟩ := superBack X0 hx hZ (y := y9) hown (ow hw 55) (own_same (z := y4) (ow hw 76) (ow hw 56) rfl (by decide)) (ow hw 56) (ow hw 57) (by decide) (backOf (W := 0) (rm8_86 l Z a0 hw ra0 ra1 kc2 cs3 ra4 ra5 kc6 cs7 G1 h0 n0 OLD A' B' C' D' E' F' G' H' I' J' K' L' M' O2 P5 N' ne_ra0_ra1 P') hZ (ow hw 59) (ow hw 41) (lb rfl) (lb rfl)) e0 (Ins.self A') (g := (mkF m 2 #[vR ra0, vR ra4] [.ref ra4, .ref ra0])) rfl (zs hml) (ow hw 59) (argsL := [.ref ra4]) (rest := []) (lenOf pd_8 rfl) rfl (lb rfl) (hb hby d7_2) (fun _ _ => ⟨rfl, e0, (lb rfl), (lb rfl)⟩)
  dsimp only [Pt.U, Pt.locs, Pt.cells, Pt.slots] at X2 l2 y2 z2 st2 hQ2
  subst l2 y2 z2
  obtain ⟨rfl, Nq2, K2, f3, f4, f5, f6⟩ := hQ2
  have N2 := Fr.app N0 Nq2
  refine og T2 (mkF m 7 #[vR ra0, vR ra4] [.ref ra0]) (fun _ k => st2.trans (XS.pop X2.here hx rfl (hb hby d7_5) rfl rfl (qa X2 hx hby d7_6 rfl rfl rfl k))) ?_
  have KEEP := ((Keep.refl h0 [ra1, ra0]).trans K2 (allS (Or.inl (List.mem_of_getElem? (i := 0) rfl)) (allS (Or.inl (List.mem_of_getElem? (i := 1) rfl)) all0)))
  exact own_leaveN X2 hlk (v := some (.ref ra0)) (own_nr hret) (lb rfl) (lb rfl) (by exact ⟨rfl, N2, KEEP, f3, f4, f5, f6⟩) (own_ra X2 hx hret rfl rfl rfl (hb hby d7_7))
abbrev R17_95 : Room := { frames := 0, cells := 0, slots := 0, locals := 0 }
def Q17_95 (Z : State)  (h0 : Heap) (n0 : Nat) (v : Option Value) (h : Heap) (L : List Loc) : Prop := (v = some (.int 18) ∧ Fr n0 L ∧ h = h0)
theorem rm17_95 l Z a0 (hw : HW Z a0)  h0 n0 (OLD : Old Z n0 h0) :
    own_CN l Z y11 jdk_29_method_65_code 2 (some .int) [] R17_95 #[.int 13, .int 18] h0 (Q17_95 Z  h0 n0) := by
  refine own_entryN (Jvm.Free.JP.mathPlain rfl (by decide +kernel)) fun p e s m below meth c s₁ hx hby hml hown hnm hret hlk hZ hh X0 e0 => ?_
  have N0 := Fr.nil n0
  rw [ef_17_95 m ]
  refine og s₁ (mkF m 10 #[vI 13, vI 18] [.int 18]) (fun _ k => qi X0 hx hby d17_0 rfl rfl (qi X0 hx hby d17_1 rfl rfl (XS.icmpYes X0.here hx rfl (pc0 := 2) (pc' := 9) rfl (hb hby d17_2) rfl (tlt (by decide : (13 : Int32) < (18 : Int32))).1 (by decide) (by decide) (qi X0 hx hby d17_9 rfl rfl k)))) ?_
  exact own_leaveN X0 hlk (v := some (.int 18)) (own_nr hret) (lb rfl) (lb rfl) (by rw [e0]; exact ⟨rfl, N0, rfl⟩) (fun fs hr => retI X0 hx hret (hb hby d17_10) hr)
abbrev R16_94 : Room := { frames := 1, cells := 0, slots := 0, locals := 14 }
def Q16_94 (Z : State)  (h0 : Heap) (n0 : Nat) (v : Option Value) (h : Heap) (L : List Loc) : Prop := (v = some (.int 34) ∧ Fr n0 L ∧ h = h0)
theorem rm16_94 l Z a0 (hw : HW Z a0)  h0 n0 (OLD : Old Z n0 h0) :
    own_CN l Z y12 jdk_48_method_27_code 4 (some .int) [] R16_94 #[.int 16, .int 13, .int 18] h0 (Q16_94 Z  h0 n0) := by
  refine own_entryN (plainFor_of_name pn_3) fun p e s m below meth c s₁ hx hby hml hown hnm hret hlk hZ hh X0 e0 => ?_
  have N0 := Fr.nil n0
  rw [ef_16_94 m ]
  refine og s₁ (mkF m 3 #[vI 16, vI 13, vI 18, vU] [.int 18, .int 13, .int 16]) (fun _ k => qi X0 hx hby d16_0 rfl rfl (qi X0 hx hby d16_1 rfl rfl (qi X0 hx hby d16_2 rfl rfl k))) ?_
  obtain ⟨_, T1, L1, X1, hQ1, st1⟩ := own_tc X0 hx hZ hown (ow hw 108) (ow hw 109) (rm17_95 l Z a0 hw  h0 n0 OLD ) (ow hw 111) (ow hw 110) e0 (g := (mkF m 3 #[vI 16, vI 13, vI 18, vU] [.int 18, .int 13, .int 16])) rfl (zs hml) (argsL := [.int 13, .int 18]) (rest := [.int 16]) (lenOf pd_10 rfl) rfl (hb hby d16_3) (W := 1) rfl
  obtain ⟨rfl, Nq1, eq1⟩ := hQ1
  have N1 := Fr.app N0 Nq1
  refine og T1 (mkF m 14 #[vI 16, vI 13, vI 18, vI 34] [.int 34]) (fun _ k => st1.trans (qp X1 hx hby d16_6 rfl rfl (XS.istoreN X1.here hx rfl (hb hby d16_7) rfl (l' := #[vI 16, vI 13, vI 18, vI 34]) rfl (qc X1 hx hby d16_8 rfl (qi X1 hx hby d16_9 rfl rfl (qn X1 hx hby d16_10 rfl rfl (tlt (by decide : (0 : Int32) < (34 : Int32))).2.1 (qi X1 hx hby d16_13 rfl rfl k))))))) ?_
  refine og T1 (mkF m 16 #[vI 16, vI 13, vI 18, vI 34] [.int 2147483639, .int 34]) (fun t k => X1.ldcInt hx hown (mvT hZ (ow hw 112)) (g := (mkF m 14 #[vI 16, vI 13, vI 18, vI 34] [.int 34])) rfl (hb hby d16_14) t k) ?_
  refine og T1 (mkF m 20 #[vI 16, vI 13, vI 18, vI 34] [.int 34]) (fun _ k => qn X1 hx hby d16_16 rfl rfl (flt (by decide : ¬ ((2147483639 : Int32) < (34 : Int32)))).2.2.1 (qi X1 hx hby d16_19 rfl rfl k)) ?_
  exact own_leaveN X1 hlk (v := some (.int 34)) (own_nr hret) (lb rfl) (lb rfl) (by rw [eq1]; exact ⟨rfl, N1, rfl⟩) (fun fs hr => retI X1 hx hret (hb hby d16_20) hr)
abbrev R15_93 : Room := { frames := 2, cells := 0, slots := 0, locals := 29 }
def Q15_93 (Z : State) (ra0 ra1 : Addr) (kc2 : ClassId) (cs3 : List Int32) (h0 : Heap) (n0 : Nat) (v : Option Value) (h : Heap) (L : List Loc) : Prop := (v = some (.int 34) ∧ Fr n0 L ∧ h = h0)
theorem rm15_93 l Z a0 (hw : HW Z a0) ra0 ra1 kc2 (cs3 : List Int32) h0 n0 (OLD : Old Z n0 h0) (A' : Exa Z h0 ra0 cN3) (B' : Fld Z h0 ra0 cN0 "coder" "B" (.int 0)) (C' : Fld Z h0 ra0 cN0 "count" "I" (.int 14)) (D' : Fld Z h0 ra0 cN0 "value" "[B" (.ref ra1)) (E' : cs3.length = 14) (F' : own_L cs3) (G' : Arv Z h0 ra1 kc2 .byte (16 : Int32) (own_by cs3) (.int 0)) :
    own_CN l Z y13 jdk_68_method_10_code 6 (some .int) [] R15_93 #[.ref ra0, .int 29] h0 (Q15_93 Z ra0 ra1 kc2 cs3 h0 n0) := by
  refine own_entryN (plainFor_of_name pn_1) fun p e s m below meth c s₁ hx hby hml hown hnm hret hlk hZ hh X0 e0 => ?_
  have N0 := Fr.nil n0
  rw [ef_15_93 m ra0]
  refine og s₁ (mkF m 1 #[vR ra0, vI 29, vU, vU, vU, vU] [.ref ra0]) (fun _ k => qa X0 hx hby d15_0 rfl rfl rfl k) ?_
  obtain ⟨T1, X1, e1, st1⟩ := qf X0 hx hZ hown (ow hw 45) e0 D' (g := (mkF m 1 #[vR ra0, vI 29, vU, vU, vU, vU] [.ref ra0])) rfl rfl hby d15_1
  refine og T1 (mkF m 4 #[vR ra0, vI 29, vU, vU, vU, vU] [.ref ra1]) st1 ?_
  obtain ⟨cl2, Ar2, -, Sr2, Nr2, -, -⟩ := id G'
  refine og T1 (mkF m 5 #[vR ra0, vI 29, vU, vU, vU, vU] [.int 16]) (fun t k => X1.arraylength hx (by rw [e1]; exact Ar2.1) (State.isArrayOf_alike hZ.alike Ar2.2.1) (g := (mkF m 4 #[vR ra0, vI 29, vU, vU, vU, vU] [.ref ra1])) rfl rfl (hb hby d15_4) t (by rw [len_of Sr2 Nr2]; exact k)) ?_
  refine og T1 (mkF m 8 #[vR ra0, vI 29, vI 16, vU, vU, vU] [.ref ra0, .int 29]) (fun _ k => XS.istoreN X1.here hx rfl (hb hby d15_5) rfl (l' := #[vR ra0, vI 29, vI 16, vU, vU, vU]) rfl (qi X1 hx hby d15_6 rfl rfl (qa X1 hx hby d15_7 rfl rfl rfl k))) ?_
  obtain ⟨T3, X3, e3, st3⟩ := qf X1 hx hZ hown (ow hw 47) e1 B' (g := (mkF m 8 #[vR ra0, vI 29, vI 16, vU, vU, vU] [.ref ra0, .int 29])) rfl rfl hby d15_8
  refine og T3 (mkF m 12 #[vR ra0, vI 29, vI 16, vU, vU, vU] [.int 29]) (fun _ k => st3 _ (XS.ishl X3.here hx rfl (hb hby d15_11) rfl (by rw [show ((29 : Int32) <<< ((0 : Int32) &&& 31)) = (29 : Int32) from by decide]; exact k))) ?_
  refine og T3 (mkF m 24 #[vR ra0, vI 29, vI 16, vI 29, vI 13, vU] [.ref ra0, .int 2, .int 16, .int 13, .int 16]) (fun _ k => XS.istoreN X3.here hx rfl (hb hby d15_12) rfl (l' := #[vR ra0, vI 29, vI 16, vI 29, vU, vU]) rfl (qi X3 hx hby d15_13 rfl rfl (qi X3 hx hby d15_14 rfl rfl (XS.isub X3.here hx rfl (hb hby d15_15) rfl (XS.istore X3.here hx rfl (hb hby d15_16) rfl (l' := #[vR ra0, vI 29, vI 16, vI 29, vI 13, vU]) rfl (qi X3 hx hby d15_18 rfl rfl (XS.iload X3.here hx rfl (hb hby d15_19) rfl (qi X3 hx hby d15_21 rfl rfl (qc X3 hx hby d15_22 rfl (qa X3 hx hby d15_23 rfl rfl rfl k)))))))))) ?_
  obtain ⟨T4, X4, e4, st4⟩ := qf X3 hx hZ hown (ow hw 47) e3 B' (g := (mkF m 24 #[vR ra0, vI 29, vI 16, vI 29, vI 13, vU] [.ref ra0, .int 2, .int 16, .int 13, .int 16])) rfl rfl hby d15_24
  refine og T4 (mkF m 28 #[vR ra0, vI 29, vI 16, vI 29, vI 13, vU] [.int 2, .int 16, .int 13, .int 16]) (fun _ k => st4 _ (XS.ishl X4.here hx rfl (hb hby d15_27) rfl (by rw [show ((2 : Int32) <<< ((0 : Int32) &&& 31)) = (2 : Int32) from by decide]; exact k))) ?_
  refine og T4 (mkF m 29 #[vR ra0, vI 29, vI 16, vI 29, vI 13, vU] [.int 18, .int 13, .int 16]) (fun _ k => qp X4 hx hby d15_28 rfl rfl k) ?_
  obtain ⟨_, T5, L5, X5, hQ5, st5⟩ := own_tc X4 hx hZ hown (ow hw 104) (ow hw 105) (rm16_94 l Z a0 hw  h0 n0 OLD ) (ow hw 107) (ow hw 106) e4 (g := (mkF m 29 #[vR ra0, vI 29, vI 16, vI 29, vI 13, vU] [.int 18, .int 13, .int 16])) rfl (zs hml) (argsL := [.int 16, .int 13, .int 18]) (rest := []) (lenOf pd_11 rfl) rfl (hb hby d15_29) (W := 0) rfl
  obtain ⟨rfl, Nq5, eq5⟩ := hQ5
  have N5 := Fr.app N0 Nq5
  refine og T5 (mkF m 36 #[vR ra0, vI 29, vI 16, vI 29, vI 13, vI 34] [.int 34]) (fun _ k => st5.trans (XS.istore X5.here hx rfl (hb hby d15_32) rfl (l' := #[vR ra0, vI 29, vI 16, vI 29, vI 13, vI 34]) rfl (XS.iload X5.here hx rfl (hb hby d15_34) rfl k))) ?_
  refine og T5 (mkF m 38 #[vR ra0, vI 29, vI 16, vI 29, vI 13, vI 34] [.int 2147483647, .int 34]) (fun t k => X5.ldcInt hx hown (mvT hZ (ow hw 113)) (g := (mkF m 36 #[vR ra0, vI 29, vI 16, vI 29, vI 13, vI 34] [.int 34])) rfl (hb hby d15_36) t k) ?_
  refine og T5 (mkF m 54 #[vR ra0, vI 29, vI 16, vI 29, vI 13, vI 34] [.ref ra0, .int 34]) (fun _ k => XS.icmpYes X5.here hx rfl (pc0 := 38) (pc' := 51) rfl (hb hby d15_38) rfl (feq (by decide : ¬ ((34 : Int32) = (2147483647 : Int32)))).2 (by decide) (by decide) (XS.iload X5.here hx rfl (hb hby d15_51) rfl (qa X5 hx hby d15_53 rfl rfl rfl k))) ?_
  obtain ⟨T6, X6, e6, st6⟩ := qf X5 hx hZ hown (ow hw 47) eq5 B' (g := (mkF m 54 #[vR ra0, vI 29, vI 16, vI 29, vI 13, vI 34] [.ref ra0, .int 34])) rfl rfl hby d15_54
  refine og T6 (mkF m 58 #[vR ra0, vI 29, vI 16, vI 29, vI 13, vI 34] [.int 34]) (fun _ k => st6 _ (XS.ishr X6.here hx rfl (hb hby d15_57) rfl (by rw [show ((34 : Int32) >>> ((0 : Int32) &&& 31)) = (34 : Int32) from by decide]; exact k))) ?_
  exact own_leaveN X6 hlk (v := some (.int 34)) (own_nr hret) (lb rfl) (lb rfl) (by rw [e6]; exact ⟨rfl, N5, rfl⟩) (fun fs hr => retI X6 hx hret (hb hby d15_58) hr)
abbrev R18_96 : Room := { frames := 1, cells := 1, slots := 34, locals := 18 }
def Q18_96 (Z : State) (ra0 : Addr) (kc1 : ClassId) (cs2 : List Int32) (h0 : Heap) (n0 : Nat) (v : Option Value) (h : Heap) (L : List Loc) : Prop := (∃ (b2 : Addr) (k2 : ClassId), v = some (.ref b2) ∧ Fr n0 L ∧ Keep h0 h [] ∧ h0.size ≤ b2 ∧ Arv Z h b2 k2 .byte (34 : Int32) (own_by cs2) (.int 0))
theorem rm18_96 l Z a0 (hw : HW Z a0) ra0 kc1 (cs2 : List Int32) h0 n0 (OLD : Old Z n0 h0) (A' : cs2.length = 14) (B' : own_L cs2) (C' : Arv Z h0 ra0 kc1 .byte (16 : Int32) (own_by cs2) (.int 0)) :
    own_CN l Z y15 jdk_65_method_121_code 3 (some (.array .byte)) [] R18_96 #[.ref ra0, .int 34] h0 (Q18_96 Z ra0 kc1 cs2 h0 n0) := by
  refine own_entryN (plainFor_of_name pn_4) fun p e s m below meth c s₁ hx hby hml hown hnm hret hlk hZ hh X0 e0 => ?_
  have N0 := Fr.nil n0
  rw [ef_18_28 m ra0]
  refine og s₁ (mkF m 2 #[vR ra0, vI 34, vU] [.ref ra0, .int 34]) (fun _ k => qi X0 hx hby d18_0 rfl rfl (qa X0 hx hby d18_1 rfl rfl rfl k)) ?_
  obtain ⟨cl1, Ar1, -, Sr1, Nr1, -, -⟩ := id C'
  refine og s₁ (mkF m 3 #[vR ra0, vI 34, vU] [.int 16, .int 34]) (fun t k => X0.arraylength hx (by rw [e0]; exact Ar1.1) (State.isArrayOf_alike hZ.alike Ar1.2.1) (g := (mkF m 2 #[vR ra0, vI 34, vU] [.ref ra0, .int 34])) rfl rfl (hb hby d18_2) t (by rw [len_of Sr1 Nr1]; exact k)) ?_
  refine og s₁ (mkF m 15 #[vR ra0, vI 34, vU] [.int 34]) (fun _ k => XS.icmpYes X0.here hx rfl (pc0 := 3) (pc' := 14) rfl (hb hby d18_3) rfl (feq (by decide : ¬ ((34 : Int32) = (16 : Int32)))).2 (by decide) (by decide) (qi X0 hx hby d18_14 rfl rfl k)) ?_
  obtain ⟨T2, h2, k2, X2, e2, E2, A2, st2⟩ := newP X0 hx hZ (ow hw 15) e0 (g := (mkF m 15 #[vR ra0, vI 34, vU] [.int 34])) rfl (hb hby d18_15) rfl (by decide) (cap := 34) (by decide) (lb rfl) (lb rfl) (lb rfl)
  obtain ⟨b2, gb2⟩ : ∃ z, z = h0.size := ⟨_, rfl⟩
  rw [← gb2] at A2 st2
  have g3 : n0 ≤ b2 := Nat.le_trans (own_osz OLD) (Nat.le_of_eq gb2.symm)
  have z4 : h0.size ≤ b2 := Nat.le_trans (Nat.le_refl _) (Nat.le_of_eq gb2.symm)
  have V2 : Arv Z h2 b2 k2 .byte (34 : Int32) (own_by ([] : List Int32)) (.int 0) := Arv.new A2 (by decide)
  refine og T2 (mkF m 23 #[vR ra0, vI 34, vR b2] [.ref ra0, .int 0, .ref b2, .int 0, .ref ra0]) (fun _ k => st2 _ (XS.astoreN X2.here hx rfl (hb hby d18_17) rfl rfl (l' := #[vR ra0, vI 34, vR b2]) rfl (qa X2 hx hby d18_18 rfl rfl rfl (qc X2 hx hby d18_19 rfl (qa X2 hx hby d18_20 rfl rfl rfl (qc X2 hx hby d18_21 rfl (qa X2 hx hby d18_22 rfl rfl rfl k))))))) ?_
  have F5 := (C'.ext E2)
  obtain ⟨cl6, Ar6, -, Sr6, Nr6, -, -⟩ := id F5
  refine og T2 (mkF m 24 #[vR ra0, vI 34, vR b2] [.int 16, .int 0, .ref b2, .int 0, .ref ra0]) (fun t k => X2.arraylength hx (by rw [e2]; exact Ar6.1) (State.isArrayOf_alike hZ.alike Ar6.2.1) (g := (mkF m 23 #[vR ra0, vI 34, vR b2] [.ref ra0, .int 0, .ref b2, .int 0, .ref ra0])) rfl rfl (hb hby d18_23) t (by rw [len_of Sr6 Nr6]; exact k)) ?_
  refine og T2 (mkF m 25 #[vR ra0, vI 34, vR b2] [.int 34, .int 16, .int 0, .ref b2, .int 0, .ref ra0]) (fun _ k => qi X2 hx hby d18_24 rfl rfl k) ?_
  have F7 := (OLD.ext E2)
  obtain ⟨_, T8, L8, X8, hQ8, st8⟩ := own_tc X2 hx hZ hown (ow hw 118) (ow hw 119) (rm19_29 l Z a0 hw  h2 n0 F7 ) (ow hw 120) (ow hw 110) e2 (g := (mkF m 25 #[vR ra0, vI 34, vR b2] [.int 34, .int 16, .int 0, .ref b2, .int 0, .ref ra0])) rfl (zs hml) (argsL := [.int 16, .int 34]) (rest := [.int 0, .ref b2, .int 0, .ref ra0]) (lenOf pd_10 rfl) rfl (hb hby d18_25) (W := 4) rfl
  obtain ⟨rfl, Nq8, eq8⟩ := hQ8
  have N8 := Fr.app N0 Nq8
  refine ot T8 (mkF m 28 #[vR ra0, vI 34, vR b2] [.int 16, .int 0, .ref b2, .int 0, .ref ra0]) st8 ?_
  obtain ⟨T9, h9, L9, X9, e9, N9, K9, Vq9, st9⟩ := own_cpB X8 hx hZ hown (ow hw 121) (ow hw 97) (ow hw 95) (ow hw 96) eq8 F5 V2 (sp := (0 : Int32)) (dp := (0 : Int32)) (nn := (16 : Int32)) rfl (by decide) (by decide) (by decide) (by decide) (show _ = _ from rfl) ((Eq.symm A') ▸ lb rfl) N8 g3 (g := (mkF m 28 #[vR ra0, vI 34, vR b2] [.int 16, .int 0, .ref b2, .int 0, .ref ra0])) rfl (zs hml) rfl (hb hby d18_28) (lb rfl) (W := 0) (lb rfl) (lb rfl)
  have V9 : Arv Z h9 b2 k2 .byte (34 : Int32) (own_by cs2) (.int 0) := (by simpa using Vq9)
  refine og T9 (mkF m 32 #[vR ra0, vI 34, vR b2] [.ref b2]) (fun _ k => st9 _ (qa X9 hx hby d18_31 rfl rfl rfl k)) ?_
  have KEEP := (((Keep.refl h0 []).ext E2).trans K9 (allS (Or.inr z4) all0))
  exact own_leaveN X9 hlk (v := some (.ref b2)) (own_nr hret) (lb rfl) (lb rfl) (by rw [e9]; exact ⟨b2, k2, rfl, N9, KEEP, z4, V9⟩) (own_ra X9 hx hret rfl rfl rfl (hb hby d18_32))
abbrev R11_92 : Room := { frames := 3, cells := 1, slots := 34, locals := 48 }
def Q11_92 (Z : State) (ra0 ra1 : Addr) (kc2 : ClassId) (cs3 : List Int32) (h0 : Heap) (n0 : Nat) (v : Option Value) (h : Heap) (L : List Loc) : Prop := (∃ (o8 : Addr) (kc9 : ClassId), v = none ∧ Fr n0 L ∧ Keep h0 h [ra0] ∧ h0.size ≤ o8 ∧ Fld Z h ra0 cN0 "coder" "B" (.int 0) ∧ Fld Z h ra0 cN0 "count" "I" (.int 14) ∧ Fld Z h ra0 cN0 "value" "[B" (.ref o8) ∧ Arv Z h o8 kc9 .byte (34 : Int32) (own_by cs3) (.int 0))
theorem rm11_92 l Z a0 (hw : HW Z a0) ra0 ra1 kc2 (cs3 : List Int32) h0 n0 (OLD : Old Z n0 h0) (A' : Exa Z h0 ra0 cN3) (B' : Fld Z h0 ra0 cN0 "coder" "B" (.int 0)) (C' : Fld Z h0 ra0 cN0 "count" "I" (.int 14)) (D' : Fld Z h0 ra0 cN0 "value" "[B" (.ref ra1)) (E' : cs3.length = 14) (F' : own_L cs3) (G' : Arv Z h0 ra1 kc2 .byte (16 : Int32) (own_by cs3) (.int 0)) (H' : n0 ≤ ra0) :
    own_CN l Z y4 jdk_68_method_9_code 3 none [] R11_92 #[.ref ra0, .int 29] h0 (Q11_92 Z ra0 ra1 kc2 cs3 h0 n0) := by
  refine own_entryN (plainFor_of_name pn_1) fun p e s m below meth c s₁ hx hby hml hown hnm hret hlk hZ hh X0 e0 => ?_
  have N0 := Fr.nil n0
  rw [ef_11_92 m ra0]
  refine og s₁ (mkF m 1 #[vR ra0, vI 29, vU] [.ref ra0]) (fun _ k => qa X0 hx hby d11_0 rfl rfl rfl k) ?_
  obtain ⟨T1, X1, e1, st1⟩ := qf X0 hx hZ hown (ow hw 45) e0 D' (g := (mkF m 1 #[vR ra0, vI 29, vU] [.ref ra0])) rfl rfl hby d11_1
  refine og T1 (mkF m 4 #[vR ra0, vI 29, vU] [.ref ra1]) st1 ?_
  obtain ⟨cl2, Ar2, -, Sr2, Nr2, -, -⟩ := id G'
  refine og T1 (mkF m 5 #[vR ra0, vI 29, vU] [.int 16]) (fun t k => X1.arraylength hx (by rw [e1]; exact Ar2.1) (State.isArrayOf_alike hZ.alike Ar2.2.1) (g := (mkF m 4 #[vR ra0, vI 29, vU] [.ref ra1])) rfl rfl (hb hby d11_4) t (by rw [len_of Sr2 Nr2]; exact k)) ?_
  refine og T1 (mkF m 6 #[vR ra0, vI 29, vU] [.ref ra0, .int 16]) (fun _ k => qa X1 hx hby d11_5 rfl rfl rfl k) ?_
  obtain ⟨T3, X3, e3, st3⟩ := qf X1 hx hZ hown (ow hw 47) e1 B' (g := (mkF m 6 #[vR ra0, vI 29, vU] [.ref ra0, .int 16])) rfl rfl hby d11_6
  refine og T3 (mkF m 10 #[vR ra0, vI 29, vU] [.int 16]) (fun _ k => st3 _ (XS.ishr X3.here hx rfl (hb hby d11_9) rfl (by rw [show ((16 : Int32) >>> ((0 : Int32) &&& 31)) = (16 : Int32) from by decide]; exact k))) ?_
  refine og T3 (mkF m 19 #[vR ra0, vI 29, vI 16] [.ref ra0, .ref ra0]) (fun _ k => XS.istoreN X3.here hx rfl (hb hby d11_10) rfl (l' := #[vR ra0, vI 29, vI 16]) rfl (qi X3 hx hby d11_11 rfl rfl (qi X3 hx hby d11_12 rfl rfl (XS.isub X3.here hx rfl (hb hby d11_13) rfl (XS.ifNo X3.here hx rfl (hb hby d11_14) rfl ((if0 _ _).trans (tlt (by decide : (0 : Int32) < (13 : Int32))).2.2.2) (qa X3 hx hby d11_17 rfl rfl rfl (qa X3 hx hby d11_18 rfl rfl rfl k))))))) ?_
  obtain ⟨T4, X4, e4, st4⟩ := qf X3 hx hZ hown (ow hw 45) e3 D' (g := (mkF m 19 #[vR ra0, vI 29, vI 16] [.ref ra0, .ref ra0])) rfl rfl hby d11_19
  refine og T4 (mkF m 24 #[vR ra0, vI 29, vI 16] [.int 29, .ref ra0, .ref ra1, .ref ra0]) (fun _ k => st4 _ (qa X4 hx hby d11_22 rfl rfl rfl (qi X4 hx hby d11_23 rfl rfl k))) ?_
  obtain ⟨_, T5, L5, X5, hQ5, st5⟩ := own_pc X4 hx hZ hown (ow hw 99) (ow hw 102) (ow hw 100) (ow hw 101) A' (rm15_93 l Z a0 hw ra0 ra1 kc2 cs3 h0 n0 OLD A' B' C' D' E' F' G') (ow hw 103) (ow hw 41) e4 (g := (mkF m 24 #[vR ra0, vI 29, vI 16] [.int 29, .ref ra0, .ref ra1, .ref ra0])) rfl (zs hml) (argsL := [.int 29]) (rest := [.ref ra1, .ref ra0]) (lenOf pd_12 rfl) rfl (hb hby d11_24) (W := 2) rfl
  obtain ⟨rfl, Nq5, eq5⟩ := hQ5
  have N5 := Fr.app N0 Nq5
  refine og T5 (mkF m 28 #[vR ra0, vI 29, vI 16] [.ref ra0, .int 34, .ref ra1, .ref ra0]) (fun _ k => st5.trans (qa X5 hx hby d11_27 rfl rfl rfl k)) ?_
  obtain ⟨T6, X6, e6, st6⟩ := qf X5 hx hZ hown (ow hw 47) eq5 B' (g := (mkF m 28 #[vR ra0, vI 29, vI 16] [.ref ra0, .int 34, .ref ra1, .ref ra0])) rfl rfl hby d11_28
  refine og T6 (mkF m 32 #[vR ra0, vI 29, vI 16] [.int 34, .ref ra1, .ref ra0]) (fun _ k => st6 _ (XS.ishl X6.here hx rfl (hb hby d11_31) rfl (by rw [show ((34 : Int32) <<< ((0 : Int32) &&& 31)) = (34 : Int32) from by decide]; exact k))) ?_
  obtain ⟨_, T7, L7, X7, hQ7, st7⟩ := own_tc X6 hx hZ hown (ow hw 114) (ow hw 115) (rm18_96 l Z a0 hw ra1 kc2 cs3 h0 n0 OLD E' F' G') (ow hw 117) (ow hw 116) e6 (g := (mkF m 32 #[vR ra0, vI 29, vI 16] [.int 34, .ref ra1, .ref ra0])) rfl (zs hml) (argsL := [.ref ra1, .int 34]) (rest := [.ref ra0]) (lenOf pd_13 rfl) rfl (hb hby d11_32) (W := 1) rfl
  obtain ⟨o8, kc9, rfl, Nq7, K7, f10, f11⟩ := hQ7
  have N7 := Fr.app N5 Nq7
  have g12 : n0 ≤ o8 := Nat.le_trans (own_osz OLD) f10
  have z13 : h0.size ≤ o8 := Nat.le_trans (Nat.le_refl _) f10
  refine ot T7 (mkF m 35 #[vR ra0, vI 29, vI 16] [.ref o8, .ref ra0]) st7 ?_
  have F14 := (A'.keep K7)
  have F15 := (D'.keep K7 nin0)
  obtain ⟨T16, h16, X16, e16, W16, st16⟩ := putF X7 hx hZ hown (host := "") (Or.inl (ow hw 45)) Via.refl rfl F15 F14 (Or.inl (ow hw 46)) (ow hw 32) (ty := (.array .byte)) (by decide) rfl rfl (g := (mkF m 35 #[vR ra0, vI 29, vI 16] [.ref o8, .ref ra0])) rfl rfl (hb hby d11_35)
  have Fw16 := F15.same W16
  have N16 := Fr.snoc X16 N7 H'
  refine og T16 (mkF m 38 #[vR ra0, vI 29, vI 16] []) st16 ?_
  have F17 := ((B'.keep K7 nin0).other W16 (Or.inr (slot_ne (Or.inl (ow hw 48)) (Or.inl (ow hw 46)) (by decide) (t := .byte) (t' := (.array .byte)) (by decide) (by decide))))
  have F18 := ((C'.keep K7 nin0).other W16 (Or.inr (slot_ne (Or.inl (ow hw 72)) (Or.inl (ow hw 46)) (by decide) (t := .int) (t' := (.array .byte)) (by decide) (by decide))))
  have F19 := (f11.other W16 (Ne.symm (own_ne_lo A'.lt f10)))
  have KEEP := (((Keep.refl h0 [ra0]).trans K7 all0).wr W16 (Or.inl (List.mem_of_getElem? (i := 0) rfl)))
  exact own_leaveN X16 hlk (v := none) (fun _ => rfl) (lb rfl) (lb rfl) (by rw [e16]; exact ⟨o8, kc9, rfl, N16, KEEP, z13, F17, F18, Fw16, F19⟩) (fun fs hr => X16.returnOut hx hret (hb hby d11_38) hr)
abbrev R14_98 : Room := { frames := 1, cells := 0, slots := 0, locals := 18 }
def Q14_98 (Z : State) (ra0 ra1 : Addr) (kc2 : ClassId) (cs3 : List Int32) (ra4 : Addr) (kc5 : ClassId) (cs6 : List Int32) (G1 : Int32) (h0 : Heap) (n0 : Nat) (v : Option Value) (h : Heap) (L : List Loc) : Prop := (v = none ∧ Fr n0 L ∧ Keep h0 h [ra4] ∧ Arv Z h ra4 kc5 .byte (34 : Int32) (own_by (cs6 ++ cs3)) (.int 0))
theorem rm14_98 l Z a0 (hw : HW Z a0) ra0 ra1 kc2 (cs3 : List Int32) ra4 kc5 (cs6 : List Int32) (G1 : Int32) h0 n0 (OLD : Old Z n0 h0) (A' : Exa Z h0 ra0 cN1) (B' : Fld Z h0 ra0 cN1 "coder" "B" (.int 0)) (C' : Fld Z h0 ra0 cN1 "value" "[B" (.ref ra1)) (D' : cs3.length = 15) (E' : own_L cs3) (F' : Arv Z h0 ra1 kc2 .byte (15 : Int32) (own_by cs3) (.int 0)) (G' : cs6.length = 14) (H' : own_L cs6) (I' : Arv Z h0 ra4 kc5 .byte (34 : Int32) (own_by cs6) (.int 0)) (O2 : Sta Z Z.heap cN1 "COMPACT_STRINGS" "Z" (.int G1)) (P5 : ¬ (G1 = (0 : Int32))) (J' : n0 ≤ ra4) :
    own_CN l Z y7 jdk_42_method_147_code 4 none [] R14_98 #[.ref ra0, .ref ra4, .int 14, .int 0] h0 (Q14_98 Z ra0 ra1 kc2 cs3 ra4 kc5 cs6 G1 h0 n0) := by
  refine own_entryN (plainFor_of_name pn_0) fun p e s m below meth c s₁ hx hby hml hown hnm hret hlk hZ hh X0 e0 => ?_
  have N0 := Fr.nil n0
  rw [ef_14_98 m ra0 ra4]
  refine og s₁ (mkF m 1 #[vR ra0, vR ra4, vI 14, vI 0] [.ref ra0]) (fun _ k => qa X0 hx hby d14_0 rfl rfl rfl k) ?_
  obtain ⟨_, T1, L1, X1, hQ1, st1⟩ := own_vc X0 hx hZ hown (ow hw 65) (ow hw 66) (ow hw 68) (ow hw 67) A' (rm10_15 l Z a0 hw ra0 G1 ((0 : Int32)) h0 n0 OLD O2 P5 B') (ow hw 69) (ow hw 2) e0 (g := (mkF m 1 #[vR ra0, vR ra4, vI 14, vI 0] [.ref ra0])) rfl (zs hml) (argsL := []) (rest := []) (lenOf pd_4 rfl) rfl (hb hby d14_1) (W := 0) rfl
  obtain ⟨rfl, Nq1, eq1⟩ := hQ1
  have N1 := Fr.app N0 Nq1
  refine og T1 (mkF m 9 #[vR ra0, vR ra4, vI 14, vI 0] [.ref ra0]) (fun _ k => st1.trans (qi X1 hx hby d14_4 rfl rfl (qn X1 hx hby d14_5 rfl rfl (tq 0) (qa X1 hx hby d14_8 rfl rfl rfl k)))) ?_
  obtain ⟨T2, X2, e2, st2⟩ := qf X1 hx hZ hown (ow hw 20) eq1 C' (g := (mkF m 9 #[vR ra0, vR ra4, vI 14, vI 0] [.ref ra0])) rfl rfl hby d14_9
  refine og T2 (mkF m 16 #[vR ra0, vR ra4, vI 14, vI 0] [.int 0, .int 14, .ref ra4, .int 0, .ref ra1]) (fun _ k => st2 _ (qc X2 hx hby d14_12 rfl (qa X2 hx hby d14_13 rfl rfl rfl (qi X2 hx hby d14_14 rfl rfl (qi X2 hx hby d14_15 rfl rfl k))))) ?_
  refine og T2 (mkF m 17 #[vR ra0, vR ra4, vI 14, vI 0] [.int 14, .ref ra4, .int 0, .ref ra1]) (fun _ k => XS.ishl X2.here hx rfl (hb hby d14_16) rfl (by rw [show ((14 : Int32) <<< ((0 : Int32) &&& 31)) = (14 : Int32) from by decide]; exact k)) ?_
  refine og T2 (mkF m 18 #[vR ra0, vR ra4, vI 14, vI 0] [.ref ra0, .int 14, .ref ra4, .int 0, .ref ra1]) (fun _ k => qa X2 hx hby d14_17 rfl rfl rfl k) ?_
  obtain ⟨T3, X3, e3, st3⟩ := qf X2 hx hZ hown (ow hw 20) e2 C' (g := (mkF m 18 #[vR ra0, vR ra4, vI 14, vI 0] [.ref ra0, .int 14, .ref ra4, .int 0, .ref ra1])) rfl rfl hby d14_18
  refine og T3 (mkF m 21 #[vR ra0, vR ra4, vI 14, vI 0] [.ref ra1, .int 14, .ref ra4, .int 0, .ref ra1]) st3 ?_
  obtain ⟨cl4, Ar4, -, Sr4, Nr4, -, -⟩ := id F'
  refine og T3 (mkF m 22 #[vR ra0, vR ra4, vI 14, vI 0] [.int 15, .int 14, .ref ra4, .int 0, .ref ra1]) (fun t k => X3.arraylength hx (by rw [e3]; exact Ar4.1) (State.isArrayOf_alike hZ.alike Ar4.2.1) (g := (mkF m 21 #[vR ra0, vR ra4, vI 14, vI 0] [.ref ra1, .int 14, .ref ra4, .int 0, .ref ra1])) rfl rfl (hb hby d14_21) t (by rw [len_of Sr4 Nr4]; exact k)) ?_
  obtain ⟨T5, h5, L5, X5, e5, N5, K5, Vq5, st5⟩ := own_cpB X3 hx hZ hown (ow hw 94) (ow hw 97) (ow hw 95) (ow hw 96) e3 F' I' (sp := (0 : Int32)) (dp := (14 : Int32)) (nn := (15 : Int32)) rfl (by decide) (by decide) (by decide) (by decide) (show _ = _ from G') ((Eq.symm D') ▸ lb rfl) N1 J' (g := (mkF m 22 #[vR ra0, vR ra4, vI 14, vI 0] [.int 15, .int 14, .ref ra4, .int 0, .ref ra1])) rfl (zs hml) rfl (hb hby d14_22) (lb rfl) (W := 0) (lb rfl) (lb rfl)
  have V5 : Arv Z h5 ra4 kc5 .byte (34 : Int32) (own_by (cs6 ++ cs3)) (.int 0) := Vq5
  refine og T5 (mkF m 43 #[vR ra0, vR ra4, vI 14, vI 0] []) (fun _ k => st5 _ (XS.goto X5.here hx rfl (pc0 := 25) (pc' := 43) rfl (hb hby d14_25) (by decide) (by decide) k)) ?_
  have KEEP := ((Keep.refl h0 [ra4]).trans K5 (allS (Or.inl (List.mem_of_getElem? (i := 0) rfl)) all0))
  exact own_leaveN X5 hlk (v := none) (fun _ => rfl) (lb rfl) (lb rfl) (by rw [e5]; exact ⟨rfl, N5, KEEP, V5⟩) (fun fs hr => X5.returnOut hx hret (hb hby d14_43) hr)
abbrev R12_97 : Room := { frames := 2, cells := 0, slots := 0, locals := 33 }
def Q12_97 (Z : State) (ra0 ra1 : Addr) (kc2 : ClassId) (cs3 : List Int32) (ra4 ra5 : Addr) (kc6 : ClassId) (cs7 : List Int32) (G1 : Int32) (h0 : Heap) (n0 : Nat) (v : Option Value) (h : Heap) (L : List Loc) : Prop := (v = none ∧ Fr n0 L ∧ Keep h0 h [ra1] ∧ Arv Z h ra1 kc2 .byte (34 : Int32) (own_by (cs3 ++ cs7)) (.int 0))
theorem rm12_97 l Z a0 (hw : HW Z a0) ra0 ra1 kc2 (cs3 : List Int32) ra4 ra5 kc6 (cs7 : List Int32) (G1 : Int32) h0 n0 (OLD : Old Z n0 h0) (A' : Exa Z h0 ra0 cN3) (B' : Fld Z h0 ra0 cN0 "coder" "B" (.int 0)) (C' : Fld Z h0 ra0 cN0 "count" "I" (.int 14)) (D' : Fld Z h0 ra0 cN0 "value" "[B" (.ref ra1)) (E' : cs3.length = 14) (F' : own_L cs3) (G' : Arv Z h0 ra1 kc2 .byte (34 : Int32) (own_by cs3) (.int 0)) (H' : Exa Z h0 ra4 cN1) (I' : Fld Z h0 ra4 cN1 "coder" "B" (.int 0)) (J' : Fld Z h0 ra4 cN1 "value" "[B" (.ref ra5)) (K' : cs7.length = 15) (L' : own_L cs7) (M' : Arv Z h0 ra5 kc6 .byte (15 : Int32) (own_by cs7) (.int 0)) (O2 : Sta Z Z.heap cN1 "COMPACT_STRINGS" "Z" (.int G1)) (P5 : ¬ (G1 = (0 : Int32))) (N' : n0 ≤ ra1) :
    own_CN l Z y8 jdk_68_method_73_code 3 none [] R12_97 #[.ref ra0, .int 14, .ref ra4] h0 (Q12_97 Z ra0 ra1 kc2 cs3 ra4 ra5 kc6 cs7 G1 h0 n0) := by
  refine own_entryN (plainFor_of_name pn_1) fun p e s m below meth c s₁ hx hby hml hown hnm hret hlk hZ hh X0 e0 => ?_
  have N0 := Fr.nil n0
  rw [ef_12_97 m ra0 ra4]
  refine og s₁ (mkF m 2 #[vR ra0, vI 14, vR ra4] [.ref ra4, .ref ra0]) (fun _ k => qa X0 hx hby d12_0 rfl rfl rfl (qa X0 hx hby d12_1 rfl rfl rfl k)) ?_
  obtain ⟨_, T1, L1, X1, hQ1, st1⟩ := own_pc X0 hx hZ hown (ow hw 83) (ow hw 86) (ow hw 84) (ow hw 85) A' (rm13_14 l Z a0 hw ra0 ra4 G1 ((0 : Int32)) ((0 : Int32)) h0 n0 OLD O2 P5 B' I' H' (by decide : (0 : Int32) = (0 : Int32))) (ow hw 87) (ow hw 41) e0 (g := (mkF m 2 #[vR ra0, vI 14, vR ra4] [.ref ra4, .ref ra0])) rfl (zs hml) (argsL := [.ref ra4]) (rest := []) (lenOf pd_5 rfl) rfl (hb hby d12_2) (W := 0) rfl
  obtain ⟨rfl, Nq1, eq1⟩ := hQ1
  have N1 := Fr.app N0 Nq1
  refine og T1 (mkF m 7 #[vR ra0, vI 14, vR ra4] [.ref ra0, .ref ra4]) (fun _ k => st1.trans (qa X1 hx hby d12_5 rfl rfl rfl (qa X1 hx hby d12_6 rfl rfl rfl k))) ?_
  obtain ⟨T2, X2, e2, st2⟩ := qf X1 hx hZ hown (ow hw 45) eq1 D' (g := (mkF m 7 #[vR ra0, vI 14, vR ra4] [.ref ra0, .ref ra4])) rfl rfl hby d12_7
  refine og T2 (mkF m 12 #[vR ra0, vI 14, vR ra4] [.ref ra0, .int 14, .ref ra1, .ref ra4]) (fun _ k => st2 _ (qi X2 hx hby d12_10 rfl rfl (qa X2 hx hby d12_11 rfl rfl rfl k))) ?_
  obtain ⟨T3, X3, e3, st3⟩ := qf X2 hx hZ hown (ow hw 47) e2 B' (g := (mkF m 12 #[vR ra0, vI 14, vR ra4] [.ref ra0, .int 14, .ref ra1, .ref ra4])) rfl rfl hby d12_12
  refine og T3 (mkF m 15 #[vR ra0, vI 14, vR ra4] [.int 0, .int 14, .ref ra1, .ref ra4]) st3 ?_
  obtain ⟨_, T4, L4, X4, hQ4, st4⟩ := own_vc X3 hx hZ hown (ow hw 89) (ow hw 90) (ow hw 92) (ow hw 91) H' (rm14_98 l Z a0 hw ra4 ra5 kc6 cs7 ra1 kc2 cs3 G1 h0 n0 OLD H' I' J' K' L' M' E' F' G' O2 P5 N') (ow hw 93) (ow hw 2) e3 (g := (mkF m 15 #[vR ra0, vI 14, vR ra4] [.int 0, .int 14, .ref ra1, .ref ra4])) rfl (zs hml) (argsL := [.ref ra1, .int 14, .int 0]) (rest := []) (lenOf pd_6 rfl) rfl (hb hby d12_15) (W := 0) rfl
  obtain ⟨rfl, Nq4, K4, f5⟩ := hQ4
  have N4 := Fr.app N1 Nq4
  refine ot T4 (mkF m 18 #[vR ra0, vI 14, vR ra4] []) st4 ?_
  have KEEP := ((Keep.refl h0 [ra1]).trans K4 (allS (Or.inl (List.mem_of_getElem? (i := 0) rfl)) all0))
  exact own_leaveN X4 hlk (v := none) (fun _ => rfl) (lb rfl) (lb rfl) (by exact ⟨rfl, N4, KEEP, f5⟩) (fun fs hr => X4.returnOut hx hret (hb hby d12_18) hr)
abbrev R8_91 : Room := { frames := 4, cells := 1, slots := 34, locals := 62 }
def Q8_91 (Z : State) (ra0 ra1 : Addr) (kc2 : ClassId) (cs3 : List Int32) (ra4 ra5 : Addr) (kc6 : ClassId) (cs7 : List Int32) (G1 : Int32) (h0 : Heap) (n0 : Nat) (v : Option Value) (h : Heap) (L : List Loc) : Prop := (∃ (o4 : Addr) (kc5 : ClassId), v = some (.ref ra0) ∧ Fr n0 L ∧ Keep h0 h [ra0] ∧ h0.size ≤ o4 ∧ Fld Z h ra0 cN0 "coder" "B" (.int 0) ∧ Fld Z h ra0 cN0 "count" "I" (.int 29) ∧ Fld Z h ra0 cN0 "value" "[B" (.ref o4) ∧ Arv Z h o4 kc5 .byte (34 : Int32) (own_by (cs3 ++ cs7)) (.int 0))
theorem rm8_91 l Z a0 (hw : HW Z a0) ra0 ra1 kc2 (cs3 : List Int32) ra4 ra5 kc6 (cs7 : List Int32) (G1 : Int32) h0 n0 (OLD : Old Z n0 h0) (A' : Exa Z h0 ra0 cN3) (B' : Fld Z h0 ra0 cN0 "coder" "B" (.int 0)) (C' : Fld Z h0 ra0 cN0 "count" "I" (.int 14)) (D' : Fld Z h0 ra0 cN0 "value" "[B" (.ref ra1)) (E' : cs3.length = 14) (F' : own_L cs3) (G' : Arv Z h0 ra1 kc2 .byte (16 : Int32) (own_by cs3) (.int 0)) (H' : Exa Z h0 ra4 cN1) (I' : Fld Z h0 ra4 cN1 "coder" "B" (.int 0)) (J' : Fld Z h0 ra4 cN1 "value" "[B" (.ref ra5)) (K' : cs7.length = 15) (L' : own_L cs7) (M' : Arv Z h0 ra5 kc6 .byte (15 : Int32) (own_by cs7) (.int 0)) (O2 : Sta Z Z.heap cN1 "COMPACT_STRINGS" "Z" (.int G1)) (P5 : ¬ (G1 = (0 : Int32))) (N' : n0 ≤ ra0) (ne_ra4_ra0 : ra4 ≠ ra0) (ne_ra5_ra0 : ra5 ≠ ra0) :
    own_CN l Z y9 jdk_68_method_22_code 3 (some (.object cN0)) [] R8_91 #[.ref ra0, .ref ra4] h0 (Q8_91 Z ra0 ra1 kc2 cs3 ra4 ra5 kc6 cs7 G1 h0 n0) := by
  refine own_entryN (plainFor_of_name pn_1) fun p e s m below meth c s₁ hx hby hml hown hnm hret hlk hZ hh X0 e0 => ?_
  have N0 := Fr.nil n0
  rw [ef_8_11 m ra0 ra4]
  refine og s₁ (mkF m 10 #[vR ra0, vR ra4, vU] [.ref ra4]) (fun _ k => qa X0 hx hby d8_0 rfl rfl rfl (XS.ifnonnullYes X0.here hx rfl (pc0 := 1) (pc' := 9) rfl (hb hby d8_1) rfl (by decide) (by decide) (qa X0 hx hby d8_9 rfl rfl rfl k))) ?_
  obtain ⟨T1, X1, e1, st1⟩ := own_lenA X0 hx hZ hown (ow hw 60) hw H' J' I' M' K' L' e0 (O2.ext OLD.2) P5 (g := (mkF m 10 #[vR ra0, vR ra4, vU] [.ref ra4])) rfl (zs hml) (rest := []) rfl (hb hby d8_10) (W := 0) rfl
  refine og T1 (mkF m 16 #[vR ra0, vR ra4, vI 15] [.ref ra0, .ref ra0]) (fun _ k => st1 _ (XS.istoreN X1.here hx rfl (hb hby d8_13) rfl (l' := #[vR ra0, vR ra4, vI 15]) rfl (qa X1 hx hby d8_14 rfl rfl rfl (qa X1 hx hby d8_15 rfl rfl rfl k)))) ?_
  obtain ⟨T2, X2, e2, st2⟩ := qf X1 hx hZ hown (ow hw 71) e1 C' (g := (mkF m 16 #[vR ra0, vR ra4, vI 15] [.ref ra0, .ref ra0])) rfl rfl hby d8_16
  refine og T2 (mkF m 21 #[vR ra0, vR ra4, vI 15] [.int 29, .ref ra0]) (fun _ k => st2 _ (qi X2 hx hby d8_19 rfl rfl (qp X2 hx hby d8_20 rfl rfl k))) ?_
  obtain ⟨_, T3, L3, X3, hQ3, st3⟩ := own_pc X2 hx hZ hown (ow hw 73) (ow hw 76) (ow hw 74) (ow hw 75) A' (rm11_92 l Z a0 hw ra0 ra1 kc2 cs3 h0 n0 OLD A' B' C' D' E' F' G' N') (ow hw 77) (ow hw 41) e2 (g := (mkF m 21 #[vR ra0, vR ra4, vI 15] [.int 29, .ref ra0])) rfl (zs hml) (argsL := [.int 29]) (rest := []) (lenOf pd_2 rfl) rfl (hb hby d8_21) (W := 0) rfl
  obtain ⟨o4, kc5, rfl, Nq3, K3, f6, f7, f8, f9, f10⟩ := hQ3
  have N3 := Fr.app N0 Nq3
  have g11 : n0 ≤ o4 := Nat.le_trans (own_osz OLD) f6
  have z12 : h0.size ≤ o4 := Nat.le_trans (Nat.le_refl _) f6
  refine og T3 (mkF m 26 #[vR ra0, vR ra4, vI 15] [.ref ra0, .ref ra0]) (fun _ k => st3.trans (qa X3 hx hby d8_24 rfl rfl rfl (qa X3 hx hby d8_25 rfl rfl rfl k))) ?_
  obtain ⟨T13, X13, e13, st13⟩ := qf X3 hx hZ hown (ow hw 71) rfl f8 (g := (mkF m 26 #[vR ra0, vR ra4, vI 15] [.ref ra0, .ref ra0])) rfl rfl hby d8_26
  refine og T13 (mkF m 30 #[vR ra0, vR ra4, vI 15] [.ref ra4, .int 14, .ref ra0]) (fun _ k => st13 _ (qa X13 hx hby d8_29 rfl rfl rfl k)) ?_
  have F14 := (A'.keep K3)
  have F15 := (H'.keep K3)
  have F16 := (I'.keep K3 (ninS ne_ra4_ra0 nin0))
  have F17 := (J'.keep K3 (ninS ne_ra4_ra0 nin0))
  have F18 := (M'.keep K3 (ninS ne_ra5_ra0 nin0))
  have F19 := (OLD.keep K3 (allS N' all0))
  obtain ⟨_, T20, L20, X20, hQ20, st20⟩ := own_pc X13 hx hZ hown (ow hw 78) (ow hw 81) (ow hw 79) (ow hw 80) F14 (rm12_97 l Z a0 hw ra0 o4 kc5 cs3 ra4 ra5 kc6 cs7 G1 T3.heap n0 F19 F14 f7 f8 f9 E' F' f10 F15 F16 F17 K' L' F18 O2 P5 g11) (ow hw 82) (ow hw 41) e13 (g := (mkF m 30 #[vR ra0, vR ra4, vI 15] [.ref ra4, .int 14, .ref ra0])) rfl (zs hml) (argsL := [.int 14, .ref ra4]) (rest := []) (lenOf pd_7 rfl) rfl (hb hby d8_30) (W := 0) rfl
  obtain ⟨rfl, Nq20, K20, f21⟩ := hQ20
  have N20 := Fr.app N3 Nq20
  refine og T20 (mkF m 35 #[vR ra0, vR ra4, vI 15] [.ref ra0, .ref ra0]) (fun _ k => st20.trans (qa X20 hx hby d8_33 rfl rfl rfl (XS.dup X20.here hx rfl (hb hby d8_34) rfl rfl k))) ?_
  have F22 := (f8.keep K20 (ninS (own_ne_lo A'.lt f6) nin0))
  obtain ⟨T23, X23, e23, st23⟩ := qf X20 hx hZ hown (ow hw 71) rfl F22 (g := (mkF m 35 #[vR ra0, vR ra4, vI 15] [.ref ra0, .ref ra0])) rfl rfl hby d8_35
  refine og T23 (mkF m 40 #[vR ra0, vR ra4, vI 15] [.int 29, .ref ra0]) (fun _ k => st23 _ (qi X23 hx hby d8_38 rfl rfl (qp X23 hx hby d8_39 rfl rfl k))) ?_
  have F24 := (F14.keep K20)
  obtain ⟨T25, h25, X25, e25, W25, st25⟩ := putF X23 hx hZ hown (host := "") (Or.inl (ow hw 71)) Via.refl e23 F22 F24 (Or.inl (ow hw 72)) (ow hw 32) (ty := .int) (by decide) rfl rfl (g := (mkF m 40 #[vR ra0, vR ra4, vI 15] [.int 29, .ref ra0])) rfl rfl (hb hby d8_40)
  have Fw25 := F22.same W25
  have N25 := Fr.snoc X25 N20 N'
  refine og T25 (mkF m 44 #[vR ra0, vR ra4, vI 15] [.ref ra0]) (fun _ k => st25 _ (qa X25 hx hby d8_43 rfl rfl rfl k)) ?_
  have F26 := ((f7.keep K20 (ninS (own_ne_lo A'.lt f6) nin0)).other W25 (Or.inr (slot_ne (Or.inl (ow hw 48)) (Or.inl (ow hw 72)) (by decide) (t := .byte) (t' := .int) (by decide) (by decide))))
  have F27 := ((f9.keep K20 (ninS (own_ne_lo A'.lt f6) nin0)).other W25 (Or.inr (slot_ne (Or.inl (ow hw 46)) (Or.inl (ow hw 72)) (by decide) (t := (.array .byte)) (t' := .int) (by decide) (by decide))))
  have F28 := (f21.other W25 (Ne.symm (own_ne_lo A'.lt f6)))
  have KEEP := ((((Keep.refl h0 [ra0]).trans K3 (allS (Or.inl (List.mem_of_getElem? (i := 0) rfl)) all0)).trans K20 (allS (Or.inr z12) all0)).wr W25 (Or.inl (List.mem_of_getElem? (i := 0) rfl)))
  exact own_leaveN X25 hlk (v := some (.ref ra0)) (own_nr hret) (lb rfl) (lb rfl) (by rw [e25]; exact ⟨o4, kc5, rfl, N25, KEEP, z12, F26, Fw25, F27, F28⟩) (own_ra X25 hx hret rfl rfl rfl (hb hby d8_44))
abbrev R7_90 : Room := { frames := 5, cells := 1, slots := 34, locals := 76 }
def Q7_90 (Z : State) (ra0 ra1 : Addr) (kc2 : ClassId) (cs3 : List Int32) (ra4 ra5 : Addr) (kc6 : ClassId) (cs7 : List Int32) (G1 : Int32) (h0 : Heap) (n0 : Nat) (v : Option Value) (h : Heap) (L : List Loc) : Prop := (∃ (o3 : Addr) (kc4 : ClassId), v = some (.ref ra0) ∧ Fr n0 L ∧ Keep h0 h [ra0] ∧ h0.size ≤ o3 ∧ Fld Z h ra0 cN0 "coder" "B" (.int 0) ∧ Fld Z h ra0 cN0 "count" "I" (.int 29) ∧ Fld Z h ra0 cN0 "value" "[B" (.ref o3) ∧ Arv Z h o3 kc4 .byte (34 : Int32) (own_by (cs3 ++ cs7)) (.int 0))
theorem rm7_90 l Z a0 (hw : HW Z a0) ra0 ra1 kc2 (cs3 : List Int32) ra4 ra5 kc6 (cs7 : List Int32) (G1 : Int32) h0 n0 (OLD : Old Z n0 h0) (A' : Exa Z h0 ra0 cN3) (B' : Fld Z h0 ra0 cN0 "coder" "B" (.int 0)) (C' : Fld Z h0 ra0 cN0 "count" "I" (.int 14)) (D' : Fld Z h0 ra0 cN0 "value" "[B" (.ref ra1)) (E' : cs3.length = 14) (F' : own_L cs3) (G' : Arv Z h0 ra1 kc2 .byte (16 : Int32) (own_by cs3) (.int 0)) (H' : Exa Z h0 ra4 cN1) (I' : Fld Z h0 ra4 cN1 "coder" "B" (.int 0)) (J' : Fld Z h0 ra4 cN1 "value" "[B" (.ref ra5)) (K' : cs7.length = 15) (L' : own_L cs7) (M' : Arv Z h0 ra5 kc6 .byte (15 : Int32) (own_by cs7) (.int 0)) (O2 : Sta Z Z.heap cN1 "COMPACT_STRINGS" "Z" (.int G1)) (P5 : ¬ (G1 = (0 : Int32))) (N' : n0 ≤ ra0) (ne_ra4_ra0 : ra4 ≠ ra0) (ne_ra5_ra0 : ra5 ≠ ra0) :
    own_CN l Z y10 jdk_67_method_7_code 2 (some (.object cN3)) [] R7_90 #[.ref ra0, .ref ra4] h0 (Q7_90 Z ra0 ra1 kc2 cs3 ra4 ra5 kc6 cs7 G1 h0 n0) := by
  refine own_entryN (plainFor_of_name pn_2) fun p e s m below meth c s₁ hx hby hml hown hnm hret hlk hZ hh X0 e0 => ?_
  have N0 := Fr.nil n0
  rw [ef_1_5 m ra0 ra4]
  refine og s₁ (mkF m 2 #[vR ra0, vR ra4] [.ref ra4, .ref ra0]) (fun _ k => qa X0 hx hby d7_0 rfl rfl rfl (qa X0 hx hby d7_1 rfl rfl rfl k)) ?_
  obtain ⟨_, _, ⟨T2, L2, k2, n2⟩, -, X2, ⟨Lc2, hQ2, l2, y2, z2⟩, st2⟩ := superBack X0 hx hZ (y := y9) hown (ow hw 55) (own_same (z := y4) (ow hw 76) (ow hw 56) rfl (by decide)) (ow hw 56) (ow hw 57) (by decide) (backOf (W := 0) (rm8_91 l Z a0 hw ra0 ra1 kc2 cs3 ra4 ra5 kc6 cs7 G1 h0 n0 OLD A' B' C' D' E' F' G' H' I' J' K' L' M' O2 P5 N' ne_ra4_ra0 ne_ra5_ra0) hZ (ow hw 59) (ow hw 41) (lb rfl) (lb rfl)) e0 (Ins.self A') (g := (mkF m 2 #[vR ra0, vR ra4] [.ref ra4, .ref ra0])) rfl (zs hml) (ow hw 59) (argsL := [.ref ra4]) (rest := []) (lenOf pd_8 rfl) rfl (lb rfl) (hb hby d7_2) (fun _ _ => ⟨rfl, e0, (lb rfl), (lb rfl)⟩)
  dsimp only [Pt.U, Pt.locs, Pt.cells, Pt.slots] at X2 l2 y2 z2 st2 hQ2
  subst l2 y2 z2
  obtain ⟨o3, kc4, rfl, Nq2, K2, f5, f6, f7, f8, f9⟩ := hQ2
  have N2 := Fr.app N0 Nq2
  have g10 : n0 ≤ o3 := Nat.le_trans (own_osz OLD) f5
  have z11 : h0.size ≤ o3 := Nat.le_trans (Nat.le_refl _) f5
  refine og T2 (mkF m 7 #[vR ra0, vR ra4] [.ref ra0]) (fun _ k => st2.trans (XS.pop X2.here hx rfl (hb hby d7_5) rfl rfl (qa X2 hx hby d7_6 rfl rfl rfl k))) ?_
  have KEEP := ((Keep.refl h0 [ra0]).trans K2 (allS (Or.inl (List.mem_of_getElem? (i := 0) rfl)) all0))
  exact own_leaveN X2 hlk (v := some (.ref ra0)) (own_nr hret) (lb rfl) (lb rfl) (by exact ⟨o3, kc4, rfl, N2, KEEP, z11, f6, f7, f8, f9⟩) (own_ra X2 hx hret rfl rfl rfl (hb hby d7_7))
abbrev R29_104 : Room := { frames := 0, cells := 0, slots := 0, locals := 0 }
def Q29_104 (Z : State)  (h0 : Heap) (n0 : Nat) (v : Option Value) (h : Heap) (L : List Loc) : Prop := (v = none ∧ Fr n0 L ∧ h = h0)
theorem rm29_104 l Z a0 (hw : HW Z a0)  h0 n0 (OLD : Old Z n0 h0) :
    own_CN l Z y20 jdk_65_method_131_code 2 none [] R29_104 #[.int 0, .int 29] h0 (Q29_104 Z  h0 n0) := by
  refine own_entryN (plainFor_of_name pn_4) fun p e s m below meth c s₁ hx hby hml hown hnm hret hlk hZ hh X0 e0 => ?_
  have N0 := Fr.nil n0
  rw [ef_29_104 m ]
  refine og s₁ (mkF m 37 #[vI 0, vI 29] []) (fun _ k => qi X0 hx hby d29_0 rfl rfl (qi X0 hx hby d29_1 rfl rfl (XS.icmpYes X0.here hx rfl (pc0 := 2) (pc' := 37) rfl (hb hby d29_2) rfl (flt (by decide : ¬ ((29 : Int32) < (0 : Int32)))).2.1 (by decide) (by decide) k))) ?_
  exact own_leaveN X0 hlk (v := none) (fun _ => rfl) (lb rfl) (lb rfl) (by rw [e0]; exact ⟨rfl, N0, rfl⟩) (fun fs hr => X0.returnOut hx hret (hb hby d29_37) hr)
abbrev R19_105 : Room := { frames := 0, cells := 0, slots := 0, locals := 0 }
def Q19_105 (Z : State)  (h0 : Heap) (n0 : Nat) (v : Option Value) (h : Heap) (L : List Loc) : Prop := (v = some (.int 29) ∧ Fr n0 L ∧ h = h0)
theorem rm19_105 l Z a0 (hw : HW Z a0)  h0 n0 (OLD : Old Z n0 h0) :
    own_CN l Z y14 jdk_29_method_69_code 2 (some .int) [] R19_105 #[.int 34, .int 29] h0 (Q19_105 Z  h0 n0) := by
  refine own_entryN (Jvm.Free.JP.mathPlain rfl (by decide +kernel)) fun p e s m below meth c s₁ hx hby hml hown hnm hret hlk hZ hh X0 e0 => ?_
  have N0 := Fr.nil n0
  rw [ef_19_105 m ]
  refine og s₁ (mkF m 10 #[vI 34, vI 29] [.int 29]) (fun _ k => qi X0 hx hby d19_0 rfl rfl (qi X0 hx hby d19_1 rfl rfl (XS.icmpYes X0.here hx rfl (pc0 := 2) (pc' := 9) rfl (hb hby d19_2) rfl (tlt (by decide : (29 : Int32) < (34 : Int32))).2.2.1 (by decide) (by decide) (qi X0 hx hby d19_9 rfl rfl k)))) ?_
  exact own_leaveN X0 hlk (v := some (.int 29)) (own_nr hret) (lb rfl) (lb rfl) (by rw [e0]; exact ⟨rfl, N0, rfl⟩) (fun fs hr => retI X0 hx hret (hb hby d19_10) hr)
abbrev R28_103 : Room := { frames := 1, cells := 1, slots := 29, locals := 18 }
def Q28_103 (Z : State) (ra0 : Addr) (kc1 : ClassId) (cs2 : List Int32) (h0 : Heap) (n0 : Nat) (v : Option Value) (h : Heap) (L : List Loc) : Prop := (∃ (b2 : Addr) (k2 : ClassId), v = some (.ref b2) ∧ Fr n0 L ∧ Keep h0 h [] ∧ h0.size ≤ b2 ∧ Arv Z h b2 k2 .byte (29 : Int32) (own_by cs2) (.int 0))
theorem rm28_103 l Z a0 (hw : HW Z a0) ra0 kc1 (cs2 : List Int32) h0 n0 (OLD : Old Z n0 h0) (A' : cs2.length = 29) (B' : own_L cs2) (C' : Arv Z h0 ra0 kc1 .byte (34 : Int32) (own_by cs2) (.int 0)) :
    own_CN l Z y21 jdk_65_method_133_code 5 (some (.array .byte)) [] R28_103 #[.ref ra0, .int 0, .int 29] h0 (Q28_103 Z ra0 kc1 cs2 h0 n0) := by
  refine own_entryN (plainFor_of_name pn_4) fun p e s m below meth c s₁ hx hby hml hown hnm hret hlk hZ hh X0 e0 => ?_
  have N0 := Fr.nil n0
  rw [ef_28_103 m ra0]
  refine og s₁ (mkF m 2 #[vR ra0, vI 0, vI 29, vU, vU] [.int 29, .int 0]) (fun _ k => qi X0 hx hby d28_0 rfl rfl (qi X0 hx hby d28_1 rfl rfl k)) ?_
  obtain ⟨_, T1, L1, X1, hQ1, st1⟩ := own_tc X0 hx hZ hown (ow hw 158) (ow hw 159) (rm29_104 l Z a0 hw  h0 n0 OLD ) (ow hw 160) (ow hw 116) e0 (g := (mkF m 2 #[vR ra0, vI 0, vI 29, vU, vU] [.int 29, .int 0])) rfl (zs hml) (argsL := [.int 0, .int 29]) (rest := []) (lenOf pd_17 rfl) rfl (hb hby d28_2) (W := 0) rfl
  obtain ⟨rfl, Nq1, eq1⟩ := hQ1
  have N1 := Fr.app N0 Nq1
  refine og T1 (mkF m 10 #[vR ra0, vI 0, vI 29, vI 29, vU] [.int 29]) (fun _ k => st1.trans (qi X1 hx hby d28_5 rfl rfl (qi X1 hx hby d28_6 rfl rfl (XS.isub X1.here hx rfl (hb hby d28_7) rfl (XS.istoreN X1.here hx rfl (hb hby d28_8) rfl (l' := #[vR ra0, vI 0, vI 29, vI 29, vU]) rfl (qi X1 hx hby d28_9 rfl rfl k)))))) ?_
  obtain ⟨T2, h2, k2, X2, e2, E2, A2, st2⟩ := newP X1 hx hZ (ow hw 15) eq1 (g := (mkF m 10 #[vR ra0, vI 0, vI 29, vI 29, vU] [.int 29])) rfl (hb hby d28_10) rfl (by decide) (cap := 29) (by decide) (lb rfl) (lb rfl) (lb rfl)
  obtain ⟨b2, gb2⟩ : ∃ z, z = h0.size := ⟨_, rfl⟩
  rw [← gb2] at A2 st2
  have g3 : n0 ≤ b2 := Nat.le_trans (own_osz OLD) (Nat.le_of_eq gb2.symm)
  have z4 : h0.size ≤ b2 := Nat.le_trans (Nat.le_refl _) (Nat.le_of_eq gb2.symm)
  have V2 : Arv Z h2 b2 k2 .byte (29 : Int32) (own_by ([] : List Int32)) (.int 0) := Arv.new A2 (by decide)
  refine og T2 (mkF m 20 #[vR ra0, vI 0, vI 29, vI 29, vR b2] [.ref ra0, .int 0, .ref b2, .int 0, .ref ra0]) (fun _ k => st2 _ (XS.astore X2.here hx rfl (hb hby d28_12) rfl rfl (l' := #[vR ra0, vI 0, vI 29, vI 29, vR b2]) rfl (qa X2 hx hby d28_14 rfl rfl rfl (qi X2 hx hby d28_15 rfl rfl (XS.aload X2.here hx rfl (hb hby d28_16) rfl rfl (qc X2 hx hby d28_18 rfl (qa X2 hx hby d28_19 rfl rfl rfl k))))))) ?_
  have F5 := (C'.ext E2)
  obtain ⟨cl6, Ar6, -, Sr6, Nr6, -, -⟩ := id F5
  refine og T2 (mkF m 21 #[vR ra0, vI 0, vI 29, vI 29, vR b2] [.int 34, .int 0, .ref b2, .int 0, .ref ra0]) (fun t k => X2.arraylength hx (by rw [e2]; exact Ar6.1) (State.isArrayOf_alike hZ.alike Ar6.2.1) (g := (mkF m 20 #[vR ra0, vI 0, vI 29, vI 29, vR b2] [.ref ra0, .int 0, .ref b2, .int 0, .ref ra0])) rfl rfl (hb hby d28_20) t (by rw [len_of Sr6 Nr6]; exact k)) ?_
  refine og T2 (mkF m 24 #[vR ra0, vI 0, vI 29, vI 29, vR b2] [.int 29, .int 34, .int 0, .ref b2, .int 0, .ref ra0]) (fun _ k => qi X2 hx hby d28_21 rfl rfl (XS.isub X2.here hx rfl (hb hby d28_22) rfl (qi X2 hx hby d28_23 rfl rfl k))) ?_
  have F7 := (OLD.ext E2)
  obtain ⟨_, T8, L8, X8, hQ8, st8⟩ := own_tc X2 hx hZ hown (ow hw 118) (ow hw 119) (rm19_105 l Z a0 hw  h2 n0 F7 ) (ow hw 120) (ow hw 110) e2 (g := (mkF m 24 #[vR ra0, vI 0, vI 29, vI 29, vR b2] [.int 29, .int 34, .int 0, .ref b2, .int 0, .ref ra0])) rfl (zs hml) (argsL := [.int 34, .int 29]) (rest := [.int 0, .ref b2, .int 0, .ref ra0]) (lenOf pd_10 rfl) rfl (hb hby d28_24) (W := 4) rfl
  obtain ⟨rfl, Nq8, eq8⟩ := hQ8
  have N8 := Fr.app N1 Nq8
  refine ot T8 (mkF m 27 #[vR ra0, vI 0, vI 29, vI 29, vR b2] [.int 29, .int 0, .ref b2, .int 0, .ref ra0]) st8 ?_
  obtain ⟨T9, h9, L9, X9, e9, N9, K9, Vq9, st9⟩ := own_cpB X8 hx hZ hown (ow hw 121) (ow hw 97) (ow hw 95) (ow hw 96) eq8 F5 V2 (sp := (0 : Int32)) (dp := (0 : Int32)) (nn := (29 : Int32)) rfl (by decide) (by decide) (by decide) (by decide) (show _ = _ from rfl) ((Eq.symm A') ▸ lb rfl) N8 g3 (g := (mkF m 27 #[vR ra0, vI 0, vI 29, vI 29, vR b2] [.int 29, .int 0, .ref b2, .int 0, .ref ra0])) rfl (zs hml) rfl (hb hby d28_27) (lb rfl) (W := 0) (lb rfl) (lb rfl)
  have V9 : Arv Z h9 b2 k2 .byte (29 : Int32) (own_by cs2) (.int 0) := (by simpa using Vq9)
  refine og T9 (mkF m 32 #[vR ra0, vI 0, vI 29, vI 29, vR b2] [.ref b2]) (fun _ k => st9 _ (XS.aload X9.here hx rfl (hb hby d28_30) rfl rfl k)) ?_
  have KEEP := (((Keep.refl h0 []).ext E2).trans K9 (allS (Or.inr z4) all0))
  exact own_leaveN X9 hlk (v := some (.ref b2)) (own_nr hret) (lb rfl) (lb rfl) (by rw [e9]; exact ⟨b2, k2, rfl, N9, KEEP, z4, V9⟩) (own_ra X9 hx hret rfl rfl rfl (hb hby d28_32))
abbrev R27_102 : Room := { frames := 2, cells := 1, slots := 29, locals := 34 }
def Q27_102 (Z : State) (ra0 : Addr) (kc1 : ClassId) (cs2 : List Int32) (h0 : Heap) (n0 : Nat) (v : Option Value) (h : Heap) (L : List Loc) : Prop := (∃ (o3 : Addr) (kc4 : ClassId), v = some (.ref o3) ∧ Fr n0 L ∧ Keep h0 h [] ∧ h0.size ≤ o3 ∧ Arv Z h o3 kc4 .byte (29 : Int32) (own_by cs2) (.int 0))
theorem rm27_102 l Z a0 (hw : HW Z a0) ra0 kc1 (cs2 : List Int32) h0 n0 (OLD : Old Z n0 h0) (A' : cs2.length = 29) (B' : own_L cs2) (C' : Arv Z h0 ra0 kc1 .byte (34 : Int32) (own_by cs2) (.int 0)) :
    own_CN l Z y22 jdk_65_method_132_code 3 (some (.array .byte)) [] R27_102 #[.ref ra0, .int 0, .int 29] h0 (Q27_102 Z ra0 kc1 cs2 h0 n0) := by
  refine own_entryN (plainFor_of_name pn_4) fun p e s m below meth c s₁ hx hby hml hown hnm hret hlk hZ hh X0 e0 => ?_
  have N0 := Fr.nil n0
  rw [ef_27_102 m ra0]
  refine og s₁ (mkF m 6 #[vR ra0, vI 0, vI 29] [.ref ra0, .int 29]) (fun _ k => qi X0 hx hby d27_0 rfl rfl (XS.ifNo X0.here hx rfl (hb hby d27_1) rfl ((if0 _ _).trans (tq 0)) (qi X0 hx hby d27_4 rfl rfl (qa X0 hx hby d27_5 rfl rfl rfl k)))) ?_
  obtain ⟨cl1, Ar1, -, Sr1, Nr1, -, -⟩ := id C'
  refine og s₁ (mkF m 7 #[vR ra0, vI 0, vI 29] [.int 34, .int 29]) (fun t k => X0.arraylength hx (by rw [e0]; exact Ar1.1) (State.isArrayOf_alike hZ.alike Ar1.2.1) (g := (mkF m 6 #[vR ra0, vI 0, vI 29] [.ref ra0, .int 29])) rfl rfl (hb hby d27_6) t (by rw [len_of Sr1 Nr1]; exact k)) ?_
  refine og s₁ (mkF m 13 #[vR ra0, vI 0, vI 29] [.int 29, .int 0, .ref ra0]) (fun _ k => qn X0 hx hby d27_7 rfl rfl (feq (by decide : ¬ ((29 : Int32) = (34 : Int32)))).1 (qa X0 hx hby d27_10 rfl rfl rfl (qi X0 hx hby d27_11 rfl rfl (qi X0 hx hby d27_12 rfl rfl k)))) ?_
  obtain ⟨_, T2, L2, X2, hQ2, st2⟩ := own_tc X0 hx hZ hown (ow hw 155) (ow hw 156) (rm28_103 l Z a0 hw ra0 kc1 cs2 h0 n0 OLD A' B' C') (ow hw 157) (ow hw 116) e0 (g := (mkF m 13 #[vR ra0, vI 0, vI 29] [.int 29, .int 0, .ref ra0])) rfl (zs hml) (argsL := [.ref ra0, .int 0, .int 29]) (rest := []) (lenOf pd_18 rfl) rfl (hb hby d27_13) (W := 0) rfl
  obtain ⟨o3, kc4, rfl, Nq2, K2, f5, f6⟩ := hQ2
  have N2 := Fr.app N0 Nq2
  have g7 : n0 ≤ o3 := Nat.le_trans (own_osz OLD) f5
  have z8 : h0.size ≤ o3 := Nat.le_trans (Nat.le_refl _) f5
  refine ot T2 (mkF m 16 #[vR ra0, vI 0, vI 29] [.ref o3]) st2 ?_
  have KEEP := ((Keep.refl h0 []).trans K2 all0)
  exact own_leaveN X2 hlk (v := some (.ref o3)) (own_nr hret) (lb rfl) (lb rfl) (by exact ⟨o3, kc4, rfl, N2, KEEP, z8, f6⟩) (own_ra X2 hx hret rfl rfl rfl (hb hby d27_16))
abbrev R22_101 : Room := { frames := 3, cells := 1, slots := 29, locals := 49 }
def Q22_101 (Z : State) (ra0 ra1 ra2 : Addr) (kc3 : ClassId) (cs4 : List Int32) (G1 : Int32) (h0 : Heap) (n0 : Nat) (v : Option Value) (h : Heap) (L : List Loc) : Prop := (∃ (o11 : Addr) (kc12 : ClassId), (0 : Int32) = (0 : Int32) ∧ v = none ∧ Fr n0 L ∧ Keep h0 h [ra0] ∧ h0.size ≤ o11 ∧ Fld Z h ra0 cN1 "coder" "B" (.int 0) ∧ Fld Z h ra0 cN1 "value" "[B" (.ref o11) ∧ Arv Z h o11 kc12 .byte (29 : Int32) (own_by cs4) (.int 0))
theorem rm22_101 l Z a0 (hw : HW Z a0) ra0 ra1 ra2 kc3 (cs4 : List Int32) (G1 : Int32) h0 n0 (OLD : Old Z n0 h0) (A' : Exa Z h0 ra0 cN1) (B' : Fld Z h0 ra0 cN1 "coder" "B" (.int 0)) (C' : Fld Z h0 ra0 cN1 "value" "[B" .null) (D' : Exa Z h0 ra1 cN3) (E' : Fld Z h0 ra1 cN0 "coder" "B" (.int 0)) (F' : Fld Z h0 ra1 cN0 "count" "I" (.int 29)) (G' : Fld Z h0 ra1 cN0 "value" "[B" (.ref ra2)) (H' : cs4.length = 29) (I' : own_L cs4) (J' : Arv Z h0 ra2 kc3 .byte (34 : Int32) (own_by cs4) (.int 0)) (O2 : Sta Z Z.heap cN1 "COMPACT_STRINGS" "Z" (.int G1)) (P5 : ¬ (G1 = (0 : Int32))) (K' : n0 ≤ ra0) (ne_ra2_ra0 : ra2 ≠ ra0) :
    own_CN l Z y23 jdk_42_method_150_code 5 none [] R22_101 #[.ref ra0, .ref ra1, .null] h0 (Q22_101 Z ra0 ra1 ra2 kc3 cs4 G1 h0 n0) := by
  refine own_entryN (plainFor_of_name pn_0) fun p e s m below meth c s₁ hx hby hml hown hnm hret hlk hZ hh X0 e0 => ?_
  have N0 := Fr.nil n0
  rw [ef_22_34 m ra0 ra1]
  refine og s₁ (mkF m 1 #[vR ra0, vR ra1, vN, vU, vU] [.ref ra0]) (fun _ k => qa X0 hx hby d22_0 rfl rfl rfl k) ?_
  obtain ⟨T1, X1, e1, st1⟩ := initO X0 hx hZ hown (ow hw 11) (ow hw 12) (ow hw 13) e0 (g := (mkF m 1 #[vR ra0, vR ra1, vN, vU, vU] [.ref ra0])) rfl (zs hml) rfl (hb hby d22_1) (by decide) (W := 0) (lb rfl) (by decide)
  refine og T1 (mkF m 5 #[vR ra0, vR ra1, vN, vU, vU] [.ref ra1]) (fun _ k => st1 _ (qa X1 hx hby d22_4 rfl rfl rfl k)) ?_
  obtain ⟨_, T2, L2, X2, hQ2, st2⟩ := own_vc X1 hx hZ hown (ow hw 134) (ow hw 135) (ow hw 137) (ow hw 136) D' (rm23_35 l Z a0 hw ra1 ra2 h0 n0 OLD G') (ow hw 138) (ow hw 41) e1 (g := (mkF m 5 #[vR ra0, vR ra1, vN, vU, vU] [.ref ra1])) rfl (zs hml) (argsL := []) (rest := []) (lenOf pd_14 rfl) rfl (hb hby d22_5) (W := 0) rfl
  obtain ⟨rfl, Nq2, eq2⟩ := hQ2
  have N2 := Fr.app N0 Nq2
  refine og T2 (mkF m 10 #[vR ra0, vR ra1, vN, vR ra2, vU] [.ref ra1]) (fun _ k => st2.trans (XS.astoreN X2.here hx rfl (hb hby d22_8) rfl rfl (l' := #[vR ra0, vR ra1, vN, vR ra2, vU]) rfl (qa X2 hx hby d22_9 rfl rfl rfl k))) ?_
  obtain ⟨cq4, kq4, q4a, q4b, q4c⟩ := isOf hZ eq2 D'
  obtain ⟨_, _, ⟨T4, L4, k4, n4⟩, -, X4, ⟨Lc4, hQ4, l4, y4, z4⟩, st4⟩ := X2.virtualBack hx (y := y17) (z := y18) hown (mvT hZ (ow hw 139)) (mvT hZ (ow hw 140)) (own_nf (args := #[]) (z := y4) (mvT hZ (ow hw 76)) rfl) (mvT hZ (ow hw 142)) (mvT hZ (ow hw 143)) (by decide) (backOf (W := 0) (rm24_36 l Z a0 hw ra1 ((29 : Int32)) h0 n0 OLD F' D') hZ (ow hw 144) (ow hw 33) (lb rfl) (lb rfl)) q4a q4c (g := (mkF m 10 #[vR ra0, vR ra1, vN, vR ra2, vU] [.ref ra1])) rfl (zs hml) (Steps.refl _) (argsL := []) (rest := []) (lenOf pd_15 rfl) rfl (lb rfl) (hb hby d22_10) (fun _ _ => ⟨rfl, eq2, (lb rfl), (lb rfl)⟩)
  dsimp only [Pt.U, Pt.locs, Pt.cells, Pt.slots] at X4 l4 y4 z4 st4 hQ4
  subst l4 y4 z4
  obtain ⟨rfl, Nq4, eq4⟩ := hQ4
  have N4 := Fr.app N2 Nq4
  refine og T4 (mkF m 16 #[vR ra0, vR ra1, vN, vR ra2, vI 29] [.ref ra1]) (fun _ k => st4.trans (XS.istore X4.here hx rfl (hb hby d22_13) rfl (l' := #[vR ra0, vR ra1, vN, vR ra2, vI 29]) rfl (qa X4 hx hby d22_15 rfl rfl rfl k))) ?_
  obtain ⟨_, T5, L5, X5, hQ5, st5⟩ := own_vc X4 hx hZ hown (ow hw 147) (ow hw 148) (ow hw 150) (ow hw 149) D' (rm26_38 l Z a0 hw ra1 G1 ((0 : Int32)) h0 n0 OLD O2 P5 E') (ow hw 151) (ow hw 41) eq4 (g := (mkF m 16 #[vR ra0, vR ra1, vN, vR ra2, vI 29] [.ref ra1])) rfl (zs hml) (argsL := []) (rest := []) (lenOf pd_16 rfl) rfl (hb hby d22_16) (W := 0) rfl
  rcases hQ5 with hQ5 | hQ5
  · obtain ⟨hc6, rfl, Nq5, eq5⟩ := hQ5
    have N5 := Fr.app N4 Nq5
    refine og T5 (mkF m 24 #[vR ra0, vR ra1, vN, vR ra2, vI 29] [.int 0, .ref ra0]) (fun _ k => st5.trans (XS.ifNo X5.here hx rfl (hb hby d22_19) rfl ((if0 _ _).trans (feq (by decide : ¬ ((1 : Int32) = (0 : Int32)))).1) (qa X5 hx hby d22_22 rfl rfl rfl (qc X5 hx hby d22_23 rfl k)))) ?_
    obtain ⟨T7, h7, X7, e7, W7, st7⟩ := putFN X5 hx hZ hown (ow hw 21) Via.refl eq5 B' A' (Or.inr ⟨(ow hw 17), rfl, hnm⟩) (ow hw 1) (ty := .byte) (v' := (.int (nar .byte (0 : Int32)))) (by decide) rfl (fits_nar_byte _) (g := (mkF m 24 #[vR ra0, vR ra1, vN, vR ra2, vI 29] [.int 0, .ref ra0])) rfl rfl (hb hby d22_24)
    rw [show nar .byte (0 : Int32) = (0 : Int32) from rfl] at W7
    have Fw7 := B'.same W7
    have N7 := Fr.snoc X7 N5 K'
    refine og T7 (mkF m 32 #[vR ra0, vR ra1, vN, vR ra2, vI 29] [.int 29, .int 0, .ref ra2, .ref ra0]) (fun _ k => st7 _ (qa X7 hx hby d22_27 rfl rfl rfl (qa X7 hx hby d22_28 rfl rfl rfl (qc X7 hx hby d22_29 rfl (XS.iload X7.here hx rfl (hb hby d22_30) rfl k))))) ?_
    have F8 := (J'.other W7 ne_ra2_ra0)
    have F9 := (OLD.wr W7 K')
    obtain ⟨_, T10, L10, X10, hQ10, st10⟩ := own_tc X7 hx hZ hown (ow hw 152) (ow hw 153) (rm27_102 l Z a0 hw ra2 kc3 cs4 h7 n0 F9 H' I' F8) (ow hw 154) (ow hw 116) e7 (g := (mkF m 32 #[vR ra0, vR ra1, vN, vR ra2, vI 29] [.int 29, .int 0, .ref ra2, .ref ra0])) rfl (zs hml) (argsL := [.ref ra2, .int 0, .int 29]) (rest := [.ref ra0]) (lenOf pd_18 rfl) rfl (hb hby d22_32) (W := 1) rfl
    obtain ⟨o11, kc12, rfl, Nq10, K10, f13, f14⟩ := hQ10
    have N10 := Fr.app N7 Nq10
    have g15 : n0 ≤ o11 := Nat.le_trans (own_osz F9) f13
    have F17 := (Nat.le_trans (Nat.le_refl _) (Nat.le_of_eq W7.size.symm))
    have z16 : h0.size ≤ o11 := Nat.le_trans F17 f13
    refine ot T10 (mkF m 35 #[vR ra0, vR ra1, vN, vR ra2, vI 29] [.ref o11, .ref ra0]) st10 ?_
    have F18 := ((A'.wr W7).keep K10)
    have F19 := ((C'.other W7 (Or.inr (slot_ne (Or.inr (ow hw 16)) (Or.inr (ow hw 17)) (by decide) (t := (.array .byte)) (t' := .byte) (by decide) (by decide)))).keep K10 nin0)
    obtain ⟨T20, h20, X20, e20, W20, st20⟩ := putF X10 hx hZ hown (host := "") (Or.inl (ow hw 20)) Via.refl rfl F19 F18 (Or.inr ⟨(ow hw 16), rfl, hnm⟩) (ow hw 1) (ty := (.array .byte)) (by decide) rfl rfl (g := (mkF m 35 #[vR ra0, vR ra1, vN, vR ra2, vI 29] [.ref o11, .ref ra0])) rfl rfl (hb hby d22_35)
    have Fw20 := F19.same W20
    have N20 := Fr.snoc X20 N10 K'
    refine og T20 (mkF m 97 #[vR ra0, vR ra1, vN, vR ra2, vI 29] []) (fun _ k => st20 _ (XS.goto X20.here hx rfl (pc0 := 38) (pc' := 97) rfl (hb hby d22_38) (by decide) (by decide) k)) ?_
    have F21 := ((Fw7.keep K10 nin0).other W20 (Or.inr (slot_ne (Or.inr (ow hw 17)) (Or.inr (ow hw 16)) (by decide) (t := .byte) (t' := (.array .byte)) (by decide) (by decide))))
    have F22 := (f14.other W20 (Ne.symm (own_ne_lo (Nat.lt_of_lt_of_le A'.lt (Nat.le_of_eq W7.size.symm)) f13)))
    have KEEP := ((((Keep.refl h0 [ra0]).wr W7 (Or.inl (List.mem_of_getElem? (i := 0) rfl))).trans K10 all0).wr W20 (Or.inl (List.mem_of_getElem? (i := 0) rfl)))
    exact own_leaveN X20 hlk (v := none) (fun _ => rfl) (lb rfl) (lb rfl) (by rw [e20]; exact ⟨o11, kc12, hc6, rfl, N20, KEEP, z16, F21, Fw20, F22⟩) (fun fs hr => X20.returnOut hx hret (hb hby d22_97) hr)
  · exfalso
    obtain ⟨hd0, -⟩ := hQ5
    exact absurd hd0 (fun q => q (by decide : (0 : Int32) = (0 : Int32)))
abbrev R21_100 : Room := { frames := 4, cells := 1, slots := 29, locals := 65 }
def Q21_100 (Z : State) (ra0 ra1 ra2 : Addr) (kc3 : ClassId) (cs4 : List Int32) (G1 : Int32) (h0 : Heap) (n0 : Nat) (v : Option Value) (h : Heap) (L : List Loc) : Prop := (∃ (o2 : Addr) (kc3 : ClassId), (0 : Int32) = (0 : Int32) ∧ v = none ∧ Fr n0 L ∧ Keep h0 h [ra0] ∧ h0.size ≤ o2 ∧ Fld Z h ra0 cN1 "coder" "B" (.int 0) ∧ Fld Z h ra0 cN1 "value" "[B" (.ref o2) ∧ Arv Z h o2 kc3 .byte (29 : Int32) (own_by cs4) (.int 0))
theorem rm21_100 l Z a0 (hw : HW Z a0) ra0 ra1 ra2 kc3 (cs4 : List Int32) (G1 : Int32) h0 n0 (OLD : Old Z n0 h0) (A' : Exa Z h0 ra0 cN1) (B' : Fld Z h0 ra0 cN1 "coder" "B" (.int 0)) (C' : Fld Z h0 ra0 cN1 "value" "[B" .null) (D' : Exa Z h0 ra1 cN3) (E' : Fld Z h0 ra1 cN0 "coder" "B" (.int 0)) (F' : Fld Z h0 ra1 cN0 "count" "I" (.int 29)) (G' : Fld Z h0 ra1 cN0 "value" "[B" (.ref ra2)) (H' : cs4.length = 29) (I' : own_L cs4) (J' : Arv Z h0 ra2 kc3 .byte (34 : Int32) (own_by cs4) (.int 0)) (O2 : Sta Z Z.heap cN1 "COMPACT_STRINGS" "Z" (.int G1)) (P5 : ¬ (G1 = (0 : Int32))) (K' : n0 ≤ ra0) (ne_ra2_ra0 : ra2 ≠ ra0) :
    own_CN l Z y24 jdk_42_method_53_code 2 none [] R21_100 #[.ref ra0, .ref ra1] h0 (Q21_100 Z ra0 ra1 ra2 kc3 cs4 G1 h0 n0) := by
  refine own_entryN (plainFor_of_name pn_0) fun p e s m below meth c s₁ hx hby hml hown hnm hret hlk hZ hh X0 e0 => ?_
  have N0 := Fr.nil n0
  rw [ef_1_5 m ra0 ra1]
  refine og s₁ (mkF m 3 #[vR ra0, vR ra1] [.null, .ref ra1, .ref ra0]) (fun _ k => qa X0 hx hby d21_0 rfl rfl rfl (qa X0 hx hby d21_1 rfl rfl rfl (XS.aconstNull X0.here hx rfl (hb hby d21_2) k))) ?_
  obtain ⟨_, T1, L1, X1, hQ1, st1⟩ := own_sc X0 hx hZ rfl hown (ow hw 131) (ow hw 132) (rm22_101 l Z a0 hw ra0 ra1 ra2 kc3 cs4 G1 h0 n0 OLD A' B' C' D' E' F' G' H' I' J' O2 P5 K' ne_ra2_ra0) (ow hw 133) (ow hw 2) e0 (g := (mkF m 3 #[vR ra0, vR ra1] [.null, .ref ra1, .ref ra0])) rfl (zs hml) (argsL := [.ref ra1, .null]) (rest := []) (lenOf pd_19 rfl) rfl (hb hby d21_3) (W := 0) rfl
  obtain ⟨o2, kc3, hc4, rfl, Nq1, K1, f5, f6, f7, f8⟩ := hQ1
  have N1 := Fr.app N0 Nq1
  have g9 : n0 ≤ o2 := Nat.le_trans (own_osz OLD) f5
  have z10 : h0.size ≤ o2 := Nat.le_trans (Nat.le_refl _) f5
  refine ot T1 (mkF m 6 #[vR ra0, vR ra1] []) st1 ?_
  have KEEP := ((Keep.refl h0 [ra0]).trans K1 (allS (Or.inl (List.mem_of_getElem? (i := 0) rfl)) all0))
  exact own_leaveN X1 hlk (v := none) (fun _ => rfl) (lb rfl) (lb rfl) (by exact ⟨o2, kc3, hc4, rfl, N1, KEEP, z10, f6, f7, f8⟩) (fun fs hr => X1.returnOut hx hret (hb hby d21_6) hr)
abbrev R20_99 : Room := { frames := 5, cells := 2, slots := 33, locals := 79 }
def Q20_99 (Z : State) (ra0 ra1 : Addr) (kc2 : ClassId) (cs3 : List Int32) (G1 : Int32) (h0 : Heap) (n0 : Nat) (v : Option Value) (h : Heap) (L : List Loc) : Prop := (∃ (b1 o11 : Addr) (kc12 : ClassId), (0 : Int32) = (0 : Int32) ∧ v = some (.ref b1) ∧ Fr n0 L ∧ Keep h0 h [] ∧ h0.size ≤ b1 ∧ h0.size ≤ o11 ∧ Exa Z h b1 cN1 ∧ Fld Z h b1 cN1 "coder" "B" (.int 0) ∧ Fld Z h b1 cN1 "value" "[B" (.ref o11) ∧ Arv Z h o11 kc12 .byte (29 : Int32) (own_by cs3) (.int 0))
theorem rm20_99 l Z a0 (hw : HW Z a0) ra0 ra1 kc2 (cs3 : List Int32) (G1 : Int32) h0 n0 (OLD : Old Z n0 h0) (A' : Exa Z h0 ra0 cN3) (B' : Fld Z h0 ra0 cN0 "coder" "B" (.int 0)) (C' : Fld Z h0 ra0 cN0 "count" "I" (.int 29)) (D' : Fld Z h0 ra0 cN0 "value" "[B" (.ref ra1)) (E' : cs3.length = 29) (F' : own_L cs3) (G' : Arv Z h0 ra1 kc2 .byte (34 : Int32) (own_by cs3) (.int 0)) (O2 : Sta Z Z.heap cN1 "COMPACT_STRINGS" "Z" (.int G1)) (P5 : ¬ (G1 = (0 : Int32))) :
    own_CN l Z y25 jdk_67_method_42_code 1 (some (.object cN1)) [] R20_99 #[.ref ra0] h0 (Q20_99 Z ra0 ra1 kc2 cs3 G1 h0 n0) := by
  refine own_entryN (plainFor_of_name pn_2) fun p e s m below meth c s₁ hx hby hml hown hnm hret hlk hZ hh X0 e0 => ?_
  have N0 := Fr.nil n0
  rw [ef_5_7 m ra0]
  obtain ⟨T1, h1, X1, e1, E1, A1, D1, U1, st1⟩ := newO X0 hx hZ hown (ow hw 127) (ow hw 1) (ow hw 2) e0 (g := (mkF m 0 #[vR ra0] [])) rfl (hb hby d20_0) (lb rfl) (lb rfl)
  obtain ⟨b1, gb1⟩ : ∃ z, z = h0.size := ⟨_, rfl⟩
  rw [← gb1] at A1 D1 U1 st1
  have g2 : n0 ≤ b1 := Nat.le_trans (own_osz OLD) (Nat.le_of_eq gb1.symm)
  have z3 : h0.size ≤ b1 := Nat.le_trans (Nat.le_refl _) (Nat.le_of_eq gb1.symm)
  refine og T1 (mkF m 5 #[vR ra0] [.ref ra0, .ref b1, .ref b1]) (fun _ k => st1 _ (XS.dup X1.here hx rfl (hb hby d20_3) rfl rfl (qa X1 hx hby d20_4 rfl rfl rfl k))) ?_
  have F4 := (A'.ext E1)
  have F5 := (B'.ext E1)
  have F6 := (C'.ext E1)
  have F7 := (D'.ext E1)
  have F8 := (G'.ext E1)
  have F9 := (OLD.ext E1)
  obtain ⟨_, T10, L10, X10, hQ10, st10⟩ := own_sc X1 hx hZ rfl hown (ow hw 128) (ow hw 129) (rm21_100 l Z a0 hw b1 ra0 ra1 kc2 cs3 G1 h1 n0 F9 A1 (D1 (Or.inr (ow hw 17)) (ty := .byte) (by decide)) (D1 (Or.inr (ow hw 16)) (ty := (.array .byte)) (by decide)) F4 F5 F6 F7 E' F' F8 O2 P5 g2 (own_ne_lo G'.lt (Nat.le_of_eq gb1.symm))) (ow hw 130) (ow hw 2) e1 (g := (mkF m 5 #[vR ra0] [.ref ra0, .ref b1, .ref b1])) rfl (zs hml) (argsL := [.ref ra0]) (rest := [.ref b1]) (lenOf pd_20 rfl) rfl (hb hby d20_5) (W := 1) rfl
  obtain ⟨o11, kc12, hc13, rfl, Nq10, K10, f14, f15, f16, f17⟩ := hQ10
  have N10 := Fr.app N0 Nq10
  have g18 : n0 ≤ o11 := Nat.le_trans (own_osz F9) f14
  have F20 := (Nat.le_trans (Nat.le_refl _) E1.1)
  have z19 : h0.size ≤ o11 := Nat.le_trans F20 f14
  refine ot T10 (mkF m 8 #[vR ra0] [.ref b1]) st10 ?_
  have F21 := (A1.keep K10)
  have KEEP := (((Keep.refl h0 []).ext E1).trans K10 (allS (Or.inr z3) all0))
  exact own_leaveN X10 hlk (v := some (.ref b1)) (own_nr hret) (lb rfl) (lb rfl) (by exact ⟨b1, o11, kc12, hc13, rfl, N10, KEEP, z3, z19, F21, f15, f16, f17⟩) (own_ra X10 hx hret rfl rfl rfl (hb hby d20_8))
abbrev R4_84 : Room := { frames := 6, cells := 13, slots := 2990, locals := 94 }
def Q4_84 (Z : State) (ra0 ra1 : Addr) (kc2 : ClassId) (cs3 : List Int32) (kw0 : Addr) (G1 : Int32) (us up : Value) (h0 : Heap) (n0 : Nat) (v : Option Value) (h : Heap) (L : List Loc) : Prop := (∃ (b1 o92 o93 : Addr) (kc94 : ClassId), (0 : Int32) = (0 : Int32) ∧ v = some (.ref b1) ∧ Fr n0 L ∧ Keep h0 h [] ∧ h0.size ≤ b1 ∧ h0.size ≤ o92 ∧ h0.size ≤ o93 ∧ Exa Z h b1 cN2 ∧ Unt h b1 ∧ Fld Z h b1 cN5 "cause" "Ljava/lang/Throwable;" (.ref b1) ∧ Fld Z h b1 cN5 "detailMessage" "Ljava/lang/String;" (.ref o92) ∧ Fld Z h b1 cN2 "reason" "Lcom/example/webhooks_to_ledger/webhookstoledger/HoldReason;" (.ref kw0) ∧ Fld Z h b1 cN5 "suppressedExceptions" "Ljava/util/List;" up ∧ Exa Z h o92 cN1 ∧ Fld Z h o92 cN1 "coder" "B" (.int 0) ∧ Fld Z h o92 cN1 "value" "[B" (.ref o93) ∧ Arv Z h o93 kc94 .byte (29 : Int32) (own_by ((cL0 ++ cs3) ++ cL1)) (.int 0))
theorem rm4_84 l Z a0 (hw : HW Z a0) ra0 ra1 kc2 (cs3 : List Int32) kw0 (G1 : Int32) (us : Value) (up : Value) h0 n0 (OLD : Old Z n0 h0) (A' : Exa Z h0 ra0 cN1) (B' : Fld Z h0 ra0 cN1 "coder" "B" (.int 0)) (C' : Fld Z h0 ra0 cN1 "value" "[B" (.ref ra1)) (D' : cs3.length = 2) (E' : own_L cs3) (F' : Arv Z h0 ra1 kc2 .byte (2 : Int32) (own_by cs3) (.int 0)) (SK0 : Sta Z Z.heap cN4 "UNMAPPED_TYPE" "Lcom/example/webhooks_to_ledger/webhookstoledger/HoldReason;" (.ref kw0)) (EK0 : Exa Z Z.heap kw0 cN4) (O2 : Sta Z Z.heap cN1 "COMPACT_STRINGS" "Z" (.int G1)) (P5 : ¬ (G1 = (0 : Int32))) (Sus : Sta Z Z.heap cN5 "UNASSIGNED_STACK" "[Ljava/lang/StackTraceElement;" us) (rf_us : us.isRef = true) (Sup : Sta Z Z.heap cN5 "SUPPRESSED_SENTINEL" "Ljava/util/List;" up) (rf_up : up.isRef = true) (hl : l.stackTraces = true) (rus : us.isRef = true) :
    own_CW l Z true y30 prog_14_method_3_code 1 (some (.object cN2)) [] R4_84 #[.ref ra0] h0 [] (Q4_84 Z ra0 ra1 kc2 cs3 kw0 G1 us up h0 n0) := by
  refine own_entryW (plainFor_of_name pn_8) fun p e s m below meth c s₁ hx hby hml hown hnm hret hlk hZ hh hCH hSf hKn X0 e0 => ?_
  have N0 := Fr.nil n0
  have hS0 : s.Since s.vm h0.size := own_since s _
  have hk0 : h0.size ≤ h0.size := Nat.le_refl _
  have CH0 : CHr Z own_EL s.vm h0 s.vm h0 := CHr.refl hCH
  rw [ef_5_7 m ra0]
  obtain ⟨T1, h1, X1, e1, E1, A1, D1, U1, st1⟩ := newO X0 hx hZ hown (ow hw 26) (ow hw 27) (ow hw 24) e0 (g := (mkF m 0 #[vR ra0] [])) rfl (hb hby d4_0) (lb rfl) (lb rfl)
  obtain ⟨b1, gb1⟩ : ∃ z, z = h0.size := ⟨_, rfl⟩
  rw [← gb1] at A1 D1 U1 st1
  have g2 : n0 ≤ b1 := Nat.le_trans (own_osz OLD) (Nat.le_of_eq gb1.symm)
  have z3 : h0.size ≤ b1 := Nat.le_trans (Nat.le_refl _) (Nat.le_of_eq gb1.symm)
  have ch4 := CHr.ext E1 CH0.1
  have CH5 := CHr.trans CH0 ch4
  have Uu1 : Unt h1 b1 := U1
  refine og T1 (mkF m 4 #[vR ra0] [.ref b1, .ref b1]) (fun _ k => st1 _ (XS.dup X1.here hx rfl (hb hby d4_3) rfl rfl k)) ?_
  have F6 := (OLD.ext E1)
  obtain ⟨T7, X7, e7, st7⟩ := getS2 X1 hx hZ hown (host := "") (Or.inl (ow hw 28)) Via.refl e1 (SK0.ext F6.2) (g := (mkF m 4 #[vR ra0] [.ref b1, .ref b1])) rfl (hb hby d4_4)
  refine og T7 (mkF m 7 #[vR ra0] [.ref kw0, .ref b1, .ref b1]) st7 ?_
  obtain ⟨T8, h8, X8, e8, E8, A8, D8, U8, st8⟩ := newO X7 hx hZ hown (ow hw 31) (ow hw 32) (ow hw 33) e7 (g := (mkF m 7 #[vR ra0] [.ref kw0, .ref b1, .ref b1])) rfl (hb hby d4_7) (lb rfl) (lb rfl)
  obtain ⟨b8, gb8⟩ : ∃ z, z = h1.size := ⟨_, rfl⟩
  rw [← gb8] at A8 D8 U8 st8
  have g9 : n0 ≤ b8 := Nat.le_trans (own_osz F6) (Nat.le_of_eq gb8.symm)
  have F11 := (Nat.le_trans (Nat.le_refl _) E1.1)
  have z10 : h0.size ≤ b8 := Nat.le_trans F11 (Nat.le_of_eq gb8.symm)
  have ch12 := CHr.ext E8 CH5.1
  have CH13 := CHr.trans CH5 ch12
  refine og T8 (mkF m 11 #[vR ra0] [.ref b8, .ref b8, .ref kw0, .ref b1, .ref b1]) (fun _ k => st8 _ (XS.dup X8.here hx rfl (hb hby d4_10) rfl rfl k)) ?_
  have F14 := (F6.ext E8)
  obtain ⟨_, T15, L15, X15, hQ15, st15⟩ := own_sc X8 hx hZ rfl hown (ow hw 34) (ow hw 35) (rm5_7 l Z a0 hw b8 G1 h8 n0 F14 A8 (D8 (Or.inl (ow hw 48)) (ty := .byte) (by decide)) (D8 (Or.inl (ow hw 72)) (ty := .int) (by decide)) (D8 (Or.inl (ow hw 46)) (ty := (.array .byte)) (by decide)) O2 P5 g9) (ow hw 36) (ow hw 33) e8 (g := (mkF m 11 #[vR ra0] [.ref b8, .ref b8, .ref kw0, .ref b1, .ref b1])) rfl (zs hml) (argsL := []) (rest := [.ref b8, .ref kw0, .ref b1, .ref b1]) (lenOf pd_3 rfl) rfl (hb hby d4_11) (W := 4) rfl
  obtain ⟨o16, kc17, rfl, Nq15, K15, f18, f19, f20, f21, f22⟩ := hQ15
  have N15 := Fr.app N0 Nq15
  have g23 : n0 ≤ o16 := Nat.le_trans (own_osz F14) f18
  have F25 := (Nat.le_trans F11 E8.1)
  have z24 : h0.size ≤ o16 := Nat.le_trans F25 f18
  have ch26 := CHr.keep K15 (allS (Safe.exa hZ.alike A8 (by decide) (by decide)) all0) CH13.1
  have CH27 := CHr.trans CH13 ch26
  have sf28 := Safe.keep K15 (allS (Safe.exa hZ.alike A8 (by decide) (by decide)) all0) CH13.1 (Safe.new f18)
  refine ot T15 (mkF m 14 #[vR ra0] [.ref b8, .ref kw0, .ref b1, .ref b1]) st15 ?_
  have F30 := (Nat.le_trans (Nat.le_trans (Nat.le_trans hk0 E1.1) E8.1) K15.1)
  have F31 := (Nat.le_trans F25 K15.1)
  obtain ⟨l29, T29, h29, k29, lb29, lk29, X29, e29, E29, hS29, hk29, hZ29, hown29, Ex29, Fc29, Fv29, Av29, la29, lz29, ch29, Lt29, sf29, st29⟩ := ldcCH X15 hx hZ hown (ow hw 49) (own_wS hw) rfl hS0 F30 (own_EW hw) (by decide) CH27.1 (vs := [.int 101, .int 118, .int 101, .int 110, .int 116, .int 32, .int 116, .int 121, .int 112, .int 101, .int 32, .int 34]) (z := (12 : Int32)) (by decide) (by decide) (by decide) (g := (mkF m 14 #[vR ra0] [.ref b8, .ref kw0, .ref b1, .ref b1])) rfl (hb hby d4_14) (n := 48) (by decide) (by decide) (lb rfl) (lb rfl)
  have CH32 := CHr.trans CH27 ch29
  have Ay29 : Arv Z h29 lb29 lk29 .byte (12 : Int32) (own_by cL0) (.int 0) := Av29
  refine og T29 (mkF m 16 #[vR ra0] [.ref l29, .ref b8, .ref kw0, .ref b1, .ref b1]) st29 ?_
  have F33 := ((A8.keep K15).ext E29)
  have F34 := (f19.ext E29)
  have F35 := (f20.ext E29)
  have F36 := (f21.ext E29)
  have F37 := (f22.ext E29)
  have hp38 : own_L cL0 := own_hpl _ rfl
  have F39 := ((F14.keep K15 (allS g9 all0)).ext E29)
  obtain ⟨_, T40, L40, X40, hQ40, st40⟩ := own_vc X29 hx hZ29 hown29 (ow hw 50) (ow hw 51) (ow hw 53) (ow hw 52) F33 (rm7_10 l Z a0 hw b8 o16 kc17 l29 lb29 lk29 cL0 G1 h29 n0 F39 F33 F34 F35 F36 F37 Ex29 Fc29 Fv29 rfl hp38 Ay29 O2 P5 g23 (own_ne_lo A8.lt f18) g9) (ow hw 54) (ow hw 33) e29 (g := (mkF m 16 #[vR ra0] [.ref l29, .ref b8, .ref kw0, .ref b1, .ref b1])) rfl (zs hml) (argsL := [.ref l29]) (rest := [.ref kw0, .ref b1, .ref b1]) (lenOf pd_9 rfl) rfl (hb hby d4_16) (W := 3) rfl
  obtain ⟨rfl, Nq40, K40, f41, f42, f43, f44⟩ := hQ40
  have N40 := Fr.app N15 Nq40
  have ch45 := CHr.keep K40 (allS (CHr.safe ch29 f22.lt sf28) (allS (Safe.exa hZ29.alike F33 (by decide) (by decide)) all0)) CH32.1
  have CH46 := CHr.trans CH32 ch45
  refine og T40 (mkF m 20 #[vR ra0] [.ref ra0, .ref b8, .ref kw0, .ref b1, .ref b1]) (fun _ k => st40.trans (qa X40 hx hby d4_19 rfl rfl rfl k)) ?_
  have F47 := (F33.keep K40)
  have F48 := ((((A'.ext E1).ext E8).keep K15).ext E29)
  have F49 := (F48.keep K40)
  have F50 := ((((B'.ext E1).ext E8).keep K15 (ninS (own_ne_lo (Nat.lt_of_lt_of_le A'.lt E1.1) (Nat.le_of_eq gb8.symm)) nin0)).ext E29)
  have F51 := (F50.keep K40 (ninS (own_ne_lo (Nat.lt_of_lt_of_le (Nat.lt_of_lt_of_le A'.lt E1.1) E8.1) f18) (ninS (own_ne_lo (Nat.lt_of_lt_of_le A'.lt E1.1) (Nat.le_of_eq gb8.symm)) nin0)))
  have F52 := ((((C'.ext E1).ext E8).keep K15 (ninS (own_ne_lo (Nat.lt_of_lt_of_le A'.lt E1.1) (Nat.le_of_eq gb8.symm)) nin0)).ext E29)
  have F53 := (F52.keep K40 (ninS (own_ne_lo (Nat.lt_of_lt_of_le (Nat.lt_of_lt_of_le A'.lt E1.1) E8.1) f18) (ninS (own_ne_lo (Nat.lt_of_lt_of_le A'.lt E1.1) (Nat.le_of_eq gb8.symm)) nin0)))
  have F54 := ((((F'.ext E1).ext E8).keep K15 (ninS (own_ne_lo (Nat.lt_of_lt_of_le F'.lt E1.1) (Nat.le_of_eq gb8.symm)) nin0)).ext E29)
  have F55 := (F54.keep K40 (ninS (own_ne_lo (Nat.lt_of_lt_of_le (Nat.lt_of_lt_of_le F'.lt E1.1) E8.1) f18) (ninS (own_ne_lo (Nat.lt_of_lt_of_le F'.lt E1.1) (Nat.le_of_eq gb8.symm)) nin0)))
  have F56 := (F39.keep K40 (allS g23 (allS g9 all0)))
  obtain ⟨_, T57, L57, X57, hQ57, st57⟩ := own_vc X40 hx hZ29 hown29 (ow hw 50) (ow hw 51) (ow hw 53) (ow hw 52) F47 (rm7_85 l Z a0 hw b8 o16 kc17 cL0 ra0 ra1 kc2 cs3 G1 T40.heap n0 F56 F47 f42 f43 f44 rfl hp38 f41 F49 F51 F53 D' E' F55 O2 P5 g23 (own_ne_lo A8.lt f18) g9) (ow hw 54) (ow hw 33) rfl (g := (mkF m 20 #[vR ra0] [.ref ra0, .ref b8, .ref kw0, .ref b1, .ref b1])) rfl (zs hml) (argsL := [.ref ra0]) (rest := [.ref kw0, .ref b1, .ref b1]) (lenOf pd_9 rfl) rfl (hb hby d4_20) (W := 3) rfl
  obtain ⟨rfl, Nq57, K57, f58, f59, f60, f61⟩ := hQ57
  have N57 := Fr.app N40 Nq57
  have ch62 := CHr.keep K57 (allS (CHr.safe ch45 (Nat.lt_of_lt_of_le f22.lt E29.1) (CHr.safe ch29 f22.lt sf28)) (allS (Safe.exa hZ29.alike F47 (by decide) (by decide)) all0)) CH46.1
  have CH63 := CHr.trans CH46 ch62
  refine ot T57 (mkF m 23 #[vR ra0] [.ref b8, .ref kw0, .ref b1, .ref b1]) st57 ?_
  have F65 := (Nat.le_trans (Nat.le_trans hk29 K40.1) K57.1)
  have F66 := (Nat.le_trans (Nat.le_trans (Nat.le_trans F31 E29.1) K40.1) K57.1)
  obtain ⟨l64, T64, h64, k64, lb64, lk64, X64, e64, E64, hS64, hk64, hZ64, hown64, Ex64, Fc64, Fv64, Av64, la64, lz64, ch64, Lt64, sf64, st64⟩ := ldcCH X57 hx hZ29 hown29 (ow hw 98) (own_wS hw) rfl hS29 F65 (own_EW hw) (by decide) CH63.1 (vs := [.int 34, .int 32, .int 105, .int 115, .int 32, .int 110, .int 111, .int 116, .int 32, .int 109, .int 97, .int 112, .int 112, .int 101, .int 100]) (z := (15 : Int32)) (by decide) (by decide) (by decide) (g := (mkF m 23 #[vR ra0] [.ref b8, .ref kw0, .ref b1, .ref b1])) rfl (hb hby d4_23) (n := 60) (by decide) (by decide) (lb rfl) (lb rfl)
  have CH67 := CHr.trans CH63 ch64
  have Ay64 : Arv Z h64 lb64 lk64 .byte (15 : Int32) (own_by cL1) (.int 0) := Av64
  refine og T64 (mkF m 25 #[vR ra0] [.ref l64, .ref b8, .ref kw0, .ref b1, .ref b1]) st64 ?_
  have F68 := ((F47.keep K57).ext E64)
  have F69 := (f59.ext E64)
  have F70 := (f60.ext E64)
  have F71 := (f61.ext E64)
  have F72 := (f58.ext E64)
  have hp73 : own_L cL1 := own_hpl _ rfl
  have F74 := ((F56.keep K57 (allS g23 (allS g9 all0))).ext E64)
  obtain ⟨_, T75, L75, X75, hQ75, st75⟩ := own_vc X64 hx hZ64 hown64 (ow hw 50) (ow hw 51) (ow hw 53) (ow hw 52) F68 (rm7_90 l Z a0 hw b8 o16 kc17 ((cL0 ++ cs3)) l64 lb64 lk64 cL1 G1 h64 n0 F74 F68 F69 F70 F71 (own_la rfl D') (own_happ hp38 E') F72 Ex64 Fc64 Fv64 rfl hp73 Ay64 O2 P5 g9 (ne_exa Ex64 F68 (by decide)) (Ne.symm (own_ne_arv F68 (ow hw 32) Ay64))) (ow hw 54) (ow hw 33) e64 (g := (mkF m 25 #[vR ra0] [.ref l64, .ref b8, .ref kw0, .ref b1, .ref b1])) rfl (zs hml) (argsL := [.ref l64]) (rest := [.ref kw0, .ref b1, .ref b1]) (lenOf pd_9 rfl) rfl (hb hby d4_25) (W := 3) rfl
  obtain ⟨o76, kc77, rfl, Nq75, K75, f78, f79, f80, f81, f82⟩ := hQ75
  have N75 := Fr.app N57 Nq75
  have g83 : n0 ≤ o76 := Nat.le_trans (own_osz F74) f78
  have F85 := (Nat.le_trans F66 E64.1)
  have z84 : h0.size ≤ o76 := Nat.le_trans F85 f78
  have ch86 := CHr.keep K75 (allS (Safe.exa hZ64.alike F68 (by decide) (by decide)) all0) CH67.1
  have CH87 := CHr.trans CH67 ch86
  have sf88 := Safe.keep K75 (allS (Safe.exa hZ64.alike F68 (by decide) (by decide)) all0) CH67.1 (Safe.new f78)
  refine ot T75 (mkF m 28 #[vR ra0] [.ref b8, .ref kw0, .ref b1, .ref b1]) st75 ?_
  have F89 := (F68.keep K75)
  have F90 := (F74.keep K75 (allS g9 all0))
  obtain ⟨_, T91, L91, X91, hQ91, st91⟩ := own_vc X75 hx hZ64 hown64 (ow hw 122) (ow hw 123) (ow hw 125) (ow hw 124) F89 (rm20_99 l Z a0 hw b8 o76 kc77 (((cL0 ++ cs3) ++ cL1)) G1 T75.heap n0 F90 F89 f79 f80 f81 (own_la (own_la rfl D') rfl) (own_happ (own_happ hp38 E') hp73) f82 O2 P5) (ow hw 126) (ow hw 33) rfl (g := (mkF m 28 #[vR ra0] [.ref b8, .ref kw0, .ref b1, .ref b1])) rfl (zs hml) (argsL := []) (rest := [.ref kw0, .ref b1, .ref b1]) (lenOf pd_21 rfl) rfl (hb hby d4_28) (W := 3) rfl
  obtain ⟨o92, o93, kc94, hc95, rfl, Nq91, K91, f96, f97, f98, f99, f100, f101⟩ := hQ91
  have N91 := Fr.app N75 Nq91
  have g102 : n0 ≤ o92 := Nat.le_trans (own_osz F90) f96
  have F104 := (Nat.le_trans F85 K75.1)
  have z103 : h0.size ≤ o92 := Nat.le_trans F104 f96
  have g105 : n0 ≤ o93 := Nat.le_trans (own_osz F90) f97
  have z106 : h0.size ≤ o93 := Nat.le_trans F104 f97
  have ch107 := CHr.keep K91 all0 CH87.1
  have CH108 := CHr.trans CH87 ch107
  have sf109 := Safe.keep K91 all0 CH87.1 (Safe.new f96)
  have sf110 := Safe.keep K91 all0 CH87.1 (Safe.new f97)
  refine ot T91 (mkF m 31 #[vR ra0] [.ref o92, .ref kw0, .ref b1, .ref b1]) st91 ?_
  have F111 := ((((Uu1.ext E8).keep K15 (ninS (own_ne_lo A1.lt (Nat.le_of_eq gb8.symm)) nin0)).ext E29).keep K40 (ninS (own_ne_lo (Nat.lt_of_lt_of_le A1.lt E8.1) f18) (ninS (own_ne_lo A1.lt (Nat.le_of_eq gb8.symm)) nin0)))
  have F112 := ((((F111.keep K57 (ninS (own_ne_lo (Nat.lt_of_lt_of_le A1.lt E8.1) f18) (ninS (own_ne_lo A1.lt (Nat.le_of_eq gb8.symm)) nin0))).ext E64).keep K75 (ninS (own_ne_lo A1.lt (Nat.le_of_eq gb8.symm)) nin0)).keep K91 nin0)
  have F113 := ((((A1.ext E8).keep K15).ext E29).keep K40)
  have F114 := ((((F113.keep K57).ext E64).keep K75).keep K91)
  have F115 := (((((D1 (Or.inl (ow hw 208)) (ty := (.object "java/lang/Object")) (by decide)).ext E8).keep K15 (ninS (own_ne_lo A1.lt (Nat.le_of_eq gb8.symm)) nin0)).ext E29).keep K40 (ninS (own_ne_lo (Nat.lt_of_lt_of_le A1.lt E8.1) f18) (ninS (own_ne_lo A1.lt (Nat.le_of_eq gb8.symm)) nin0)))
  have F116 := ((((F115.keep K57 (ninS (own_ne_lo (Nat.lt_of_lt_of_le A1.lt E8.1) f18) (ninS (own_ne_lo A1.lt (Nat.le_of_eq gb8.symm)) nin0))).ext E64).keep K75 (ninS (own_ne_lo A1.lt (Nat.le_of_eq gb8.symm)) nin0)).keep K91 nin0)
  have F117 := (((((D1 (Or.inl (ow hw 177)) (ty := (.object cN5)) (by decide)).ext E8).keep K15 (ninS (own_ne_lo A1.lt (Nat.le_of_eq gb8.symm)) nin0)).ext E29).keep K40 (ninS (own_ne_lo (Nat.lt_of_lt_of_le A1.lt E8.1) f18) (ninS (own_ne_lo A1.lt (Nat.le_of_eq gb8.symm)) nin0)))
  have F118 := ((((F117.keep K57 (ninS (own_ne_lo (Nat.lt_of_lt_of_le A1.lt E8.1) f18) (ninS (own_ne_lo A1.lt (Nat.le_of_eq gb8.symm)) nin0))).ext E64).keep K75 (ninS (own_ne_lo A1.lt (Nat.le_of_eq gb8.symm)) nin0)).keep K91 nin0)
  have F119 := (((((D1 (Or.inl (ow hw 209)) (ty := .int) (by decide)).ext E8).keep K15 (ninS (own_ne_lo A1.lt (Nat.le_of_eq gb8.symm)) nin0)).ext E29).keep K40 (ninS (own_ne_lo (Nat.lt_of_lt_of_le A1.lt E8.1) f18) (ninS (own_ne_lo A1.lt (Nat.le_of_eq gb8.symm)) nin0)))
  have F120 := ((((F119.keep K57 (ninS (own_ne_lo (Nat.lt_of_lt_of_le A1.lt E8.1) f18) (ninS (own_ne_lo A1.lt (Nat.le_of_eq gb8.symm)) nin0))).ext E64).keep K75 (ninS (own_ne_lo A1.lt (Nat.le_of_eq gb8.symm)) nin0)).keep K91 nin0)
  have F121 := (((((D1 (Or.inl (ow hw 207)) (ty := (.object cN1)) (by decide)).ext E8).keep K15 (ninS (own_ne_lo A1.lt (Nat.le_of_eq gb8.symm)) nin0)).ext E29).keep K40 (ninS (own_ne_lo (Nat.lt_of_lt_of_le A1.lt E8.1) f18) (ninS (own_ne_lo A1.lt (Nat.le_of_eq gb8.symm)) nin0)))
  have F122 := ((((F121.keep K57 (ninS (own_ne_lo (Nat.lt_of_lt_of_le A1.lt E8.1) f18) (ninS (own_ne_lo A1.lt (Nat.le_of_eq gb8.symm)) nin0))).ext E64).keep K75 (ninS (own_ne_lo A1.lt (Nat.le_of_eq gb8.symm)) nin0)).keep K91 nin0)
  have F123 := (((((D1 (Or.inr (ow hw 220)) (ty := (.object cN4)) (by decide)).ext E8).keep K15 (ninS (own_ne_lo A1.lt (Nat.le_of_eq gb8.symm)) nin0)).ext E29).keep K40 (ninS (own_ne_lo (Nat.lt_of_lt_of_le A1.lt E8.1) f18) (ninS (own_ne_lo A1.lt (Nat.le_of_eq gb8.symm)) nin0)))
  have F124 := ((((F123.keep K57 (ninS (own_ne_lo (Nat.lt_of_lt_of_le A1.lt E8.1) f18) (ninS (own_ne_lo A1.lt (Nat.le_of_eq gb8.symm)) nin0))).ext E64).keep K75 (ninS (own_ne_lo A1.lt (Nat.le_of_eq gb8.symm)) nin0)).keep K91 nin0)
  have F125 := (((((D1 (Or.inl (ow hw 180)) (ty := (.array (.object cN6))) (by decide)).ext E8).keep K15 (ninS (own_ne_lo A1.lt (Nat.le_of_eq gb8.symm)) nin0)).ext E29).keep K40 (ninS (own_ne_lo (Nat.lt_of_lt_of_le A1.lt E8.1) f18) (ninS (own_ne_lo A1.lt (Nat.le_of_eq gb8.symm)) nin0)))
  have F126 := ((((F125.keep K57 (ninS (own_ne_lo (Nat.lt_of_lt_of_le A1.lt E8.1) f18) (ninS (own_ne_lo A1.lt (Nat.le_of_eq gb8.symm)) nin0))).ext E64).keep K75 (ninS (own_ne_lo A1.lt (Nat.le_of_eq gb8.symm)) nin0)).keep K91 nin0)
  have F127 := (((((D1 (Or.inl (ow hw 183)) (ty := (.object "java/util/List")) (by decide)).ext E8).keep K15 (ninS (own_ne_lo A1.lt (Nat.le_of_eq gb8.symm)) nin0)).ext E29).keep K40 (ninS (own_ne_lo (Nat.lt_of_lt_of_le A1.lt E8.1) f18) (ninS (own_ne_lo A1.lt (Nat.le_of_eq gb8.symm)) nin0)))
  have F128 := ((((F127.keep K57 (ninS (own_ne_lo (Nat.lt_of_lt_of_le A1.lt E8.1) f18) (ninS (own_ne_lo A1.lt (Nat.le_of_eq gb8.symm)) nin0))).ext E64).keep K75 (ninS (own_ne_lo A1.lt (Nat.le_of_eq gb8.symm)) nin0)).keep K91 nin0)
  have F129 := (F90.keep K91 all0)
  obtain ⟨_, _, ⟨T130, L130, k130, n130⟩, -, X130, hs130, hg130, ⟨Lc130, hQ130, l130, y130, z130, ch130⟩, st130⟩ := X91.specialBackS hx (y := y29) rfl hown64 (mvT hZ64 (ow hw 161)) (mvT hZ64 (ow hw 162)) (mvT hZ64 (ow hw 163)) (by decide) (own_backSH (W := 1) (rm30_48 l Z a0 hw b1 o92 kw0 us up T91.heap n0 F129 EK0 F112 F114 F116 F118 F120 F122 F124 F126 F128 g2 Sus rf_us Sup rf_up hl rus) hZ64 (ow hw 163) (ow hw 24) (lb rfl) (lb rfl) (own_EW hw) CH108.1 all0 (fun _ => ⟨Vm.MethodsKnown.alikeC hS64.1.alike (hKn rfl).1, Vm.FramesKnown.alikeC hS64.1.alike (hKn rfl).2⟩)) (g := (mkF m 31 #[vR ra0] [.ref o92, .ref kw0, .ref b1, .ref b1])) rfl (zs hml) (Steps.refl _) (a := b1) (argsL := [.ref kw0, .ref o92]) (rest := [.ref b1]) (lenOf pd_23 rfl) rfl (lb rfl) (hb hby d4_31) (fun _ _ => ⟨rfl, rfl, (lb rfl), (lb rfl)⟩)
  dsimp only [Pt.U, Pt.locs, Pt.cells, Pt.slots] at X130 l130 y130 z130 st130 hQ130 hs130 hg130 ch130
  subst l130 y130 z130
  replace X130 := own_reb X130
  have F131 := (Nat.le_trans (Nat.le_trans hk64 K75.1) K91.1)
  obtain ⟨hZ130, hS130, hown130⟩ := own_after hZ64 hS64 rfl F131 hs130 hg130 hown64
  obtain ⟨rfl, Nq130, K130, f132, f133, f134, f135, f136⟩ := hQ130
  have N130 := Fr.app N91 Nq130
  have CH137 := CHr.trans CH108 ch130
  refine ot T130 (mkF m 34 #[vR ra0] [.ref b1]) st130 ?_
  have F138 := (F114.keep K130)
  have F139 := (f98.keep K130)
  have F140 := (f99.keep K130 (ninS (Ne.symm (own_ne_lo (Nat.lt_of_lt_of_le (Nat.lt_of_lt_of_le (Nat.lt_of_lt_of_le (Nat.lt_of_lt_of_le (Nat.lt_of_lt_of_le (Nat.lt_of_lt_of_le (Nat.lt_of_lt_of_le A1.lt E8.1) K15.1) E29.1) K40.1) K57.1) E64.1) K75.1) f96)) nin0))
  have F141 := (f100.keep K130 (ninS (Ne.symm (own_ne_lo (Nat.lt_of_lt_of_le (Nat.lt_of_lt_of_le (Nat.lt_of_lt_of_le (Nat.lt_of_lt_of_le (Nat.lt_of_lt_of_le (Nat.lt_of_lt_of_le (Nat.lt_of_lt_of_le A1.lt E8.1) K15.1) E29.1) K40.1) K57.1) E64.1) K75.1) f96)) nin0))
  have F142 := (f101.keep K130 (ninS (Ne.symm (own_ne_lo (Nat.lt_of_lt_of_le (Nat.lt_of_lt_of_le (Nat.lt_of_lt_of_le (Nat.lt_of_lt_of_le (Nat.lt_of_lt_of_le (Nat.lt_of_lt_of_le (Nat.lt_of_lt_of_le A1.lt E8.1) K15.1) E29.1) K40.1) K57.1) E64.1) K75.1) f97)) nin0))
  have K143 := (((((Keep.refl h0 []).ext E1).ext E8).trans K15 (allS (Or.inr z10) all0)).ext E29)
  have K144 := ((((K143.trans K40 (allS (Or.inr z24) (allS (Or.inr z10) all0))).trans K57 (allS (Or.inr z24) (allS (Or.inr z10) all0))).ext E64).trans K75 (allS (Or.inr z10) all0))
  have KEEP := ((K144.trans K91 all0).trans K130 (allS (Or.inr z3) all0))
  exact own_leaveW (s := s) (vm0 := T130.vm) X130 hS130 (Nat.le_refl _) hZ130 (own_EW hw) rfl CH137 hh hlk (v := some (.ref b1)) (own_nr hret) (lb rfl) (lb rfl) (by exact ⟨b1, o92, o93, kc94, hc95, rfl, N130, KEEP, z3, z103, z106, F138, f132, f133, f134, f135, f136, F139, F140, F141, F142⟩) (own_ra X130 hx hret rfl rfl rfl (hb hby d4_34))
abbrev R39_106 : Room := { frames := 4, cells := 0, slots := 0, locals := 53 }
def Q39_106 (Z : State) (ra0 ra1 : Addr) (kc2 : ClassId) (ci3 ci4 : Int32) (G3 : Value) (G1 : Int32) (h0 : Heap) (n0 : Nat) (v : Option Value) (h : Heap) (L : List Loc) : Prop := (v = some (.int 1) ∧ Fr n0 L ∧ h = h0)
theorem rm39_106 l Z a0 (hw : HW Z a0) ra0 ra1 kc2 (ci3 : Int32) (ci4 : Int32) (G3 : Value) (G1 : Int32) h0 n0 (OLD : Old Z n0 h0) (A' : Exa Z h0 ra0 cN1) (B' : Fld Z h0 ra0 cN1 "coder" "B" (.int 0)) (C' : Fld Z h0 ra0 cN1 "value" "[B" (.ref ra1)) (hl_ci3 : ¬ ci3 < 0 ∧ ¬ (255 : Int32) < ci3) (hl_ci4 : ¬ ci4 < 0 ∧ ¬ (255 : Int32) < ci4) (D' : Arv Z h0 ra1 kc2 .byte (29 : Int32) (own_by ([101, 118, 101, 110, 116, 32, 116, 121, 112, 101, 32, 34, ci3, ci4, 34, 32, 105, 115, 32, 110, 111, 116, 32, 109, 97, 112, 112, 101, 100] : List Int32)) (.int 0)) (O4 : Sta Z Z.heap "jdk/internal/util/Preconditions" "SIOOBE_FORMATTER" "Ljava/util/function/BiFunction;" G3) (rG3 : G3.isRef = true) (O2 : Sta Z Z.heap cN1 "COMPACT_STRINGS" "Z" (.int G1)) (P5 : ¬ (G1 = (0 : Int32))) :
    own_CN l Z y36 method_3_code 1 (some .boolean) [] R39_106 #[.ref ra0] h0 (Q39_106 Z ra0 ra1 kc2 ci3 ci4 G3 G1 h0 n0) := by
  refine own_entryN (plainFor_of_name pn_9) fun p e s m below meth c s₁ hx hby hml hown hnm hret hlk hZ hh X0 e0 => ?_
  have N0 := Fr.nil n0
  rw [ef_5_7 m ra0]
  refine og s₁ (mkF m 2 #[vR ra0] [.int 0, .ref ra0]) (fun _ k => qa X0 hx hby d39_0 rfl rfl rfl (qc X0 hx hby d39_1 rfl k)) ?_
  have hp1 : ∀ c ∈ ([101, 118, 101, 110, 116, 32, 116, 121, 112, 101, 32, 34, ci3, ci4, 34, 32, 105, 115, 32, 110, 111, 116, 32, 109, 97, 112, 112, 101, 100] : List Int32), ¬ c < 0 ∧ ¬ (255 : Int32) < c := by
    intro c hc
    simp only [List.mem_cons, List.not_mem_nil, or_false] at hc
    rcases hc with rfl | rfl | rfl | rfl | rfl | rfl | rfl | rfl | rfl | rfl | rfl | rfl | rfl | rfl | rfl | rfl | rfl | rfl | rfl | rfl | rfl | rfl | rfl | rfl | rfl | rfl | rfl | rfl | rfl
    · exact ⟨by decide, by decide⟩
    · exact ⟨by decide, by decide⟩
    · exact ⟨by decide, by decide⟩
    · exact ⟨by decide, by decide⟩
    · exact ⟨by decide, by decide⟩
    · exact ⟨by decide, by decide⟩
    · exact ⟨by decide, by decide⟩
    · exact ⟨by decide, by decide⟩
    · exact ⟨by decide, by decide⟩
    · exact ⟨by decide, by decide⟩
    · exact ⟨by decide, by decide⟩
    · exact ⟨by decide, by decide⟩
    · exact hl_ci3
    · exact hl_ci4
    · exact ⟨by decide, by decide⟩
    · exact ⟨by decide, by decide⟩
    · exact ⟨by decide, by decide⟩
    · exact ⟨by decide, by decide⟩
    · exact ⟨by decide, by decide⟩
    · exact ⟨by decide, by decide⟩
    · exact ⟨by decide, by decide⟩
    · exact ⟨by decide, by decide⟩
    · exact ⟨by decide, by decide⟩
    · exact ⟨by decide, by decide⟩
    · exact ⟨by decide, by decide⟩
    · exact ⟨by decide, by decide⟩
    · exact ⟨by decide, by decide⟩
    · exact ⟨by decide, by decide⟩
    · exact ⟨by decide, by decide⟩
  obtain ⟨T2, X2, e2, st2⟩ := own_chA X0 hx hZ hown (ow hw 244) hw A' C' B' D' rfl hp1 e0 (O2.ext OLD.2) P5 (O4.ext OLD.2) rG3 (i := 0) (lb rfl) (g := (mkF m 2 #[vR ra0] [.int 0, .ref ra0])) rfl (zs hml) (rest := []) rfl (hb hby d39_2) (W := 0) rfl
  refine og T2 (mkF m 12 #[vR ra0] [.int 1, .ref ra0]) (fun _ k => st2 _ (qb X2 hx hby d39_5 rfl (qn X2 hx hby d39_7 rfl rfl (tq 101) (qa X2 hx hby d39_10 rfl rfl rfl (qc X2 hx hby d39_11 rfl k))))) ?_
  obtain ⟨T3, X3, e3, st3⟩ := own_chA X2 hx hZ hown (ow hw 244) hw A' C' B' D' rfl hp1 e2 (O2.ext OLD.2) P5 (O4.ext OLD.2) rG3 (i := 1) (lb rfl) (g := (mkF m 12 #[vR ra0] [.int 1, .ref ra0])) rfl (zs hml) (rest := []) rfl (hb hby d39_12) (W := 0) rfl
  refine og T3 (mkF m 22 #[vR ra0] [.int 2, .ref ra0]) (fun _ k => st3 _ (qb X3 hx hby d39_15 rfl (qn X3 hx hby d39_17 rfl rfl (tq 118) (qa X3 hx hby d39_20 rfl rfl rfl (qc X3 hx hby d39_21 rfl k))))) ?_
  obtain ⟨T4, X4, e4, st4⟩ := own_chA X3 hx hZ hown (ow hw 244) hw A' C' B' D' rfl hp1 e3 (O2.ext OLD.2) P5 (O4.ext OLD.2) rG3 (i := 2) (lb rfl) (g := (mkF m 22 #[vR ra0] [.int 2, .ref ra0])) rfl (zs hml) (rest := []) rfl (hb hby d39_22) (W := 0) rfl
  refine og T4 (mkF m 32 #[vR ra0] [.int 3, .ref ra0]) (fun _ k => st4 _ (qb X4 hx hby d39_25 rfl (qn X4 hx hby d39_27 rfl rfl (tq 101) (qa X4 hx hby d39_30 rfl rfl rfl (qc X4 hx hby d39_31 rfl k))))) ?_
  obtain ⟨T5, X5, e5, st5⟩ := own_chA X4 hx hZ hown (ow hw 244) hw A' C' B' D' rfl hp1 e4 (O2.ext OLD.2) P5 (O4.ext OLD.2) rG3 (i := 3) (lb rfl) (g := (mkF m 32 #[vR ra0] [.int 3, .ref ra0])) rfl (zs hml) (rest := []) rfl (hb hby d39_32) (W := 0) rfl
  refine og T5 (mkF m 42 #[vR ra0] [.int 4, .ref ra0]) (fun _ k => st5 _ (qb X5 hx hby d39_35 rfl (qn X5 hx hby d39_37 rfl rfl (tq 110) (qa X5 hx hby d39_40 rfl rfl rfl (qc X5 hx hby d39_41 rfl k))))) ?_
  obtain ⟨T6, X6, e6, st6⟩ := own_chA X5 hx hZ hown (ow hw 244) hw A' C' B' D' rfl hp1 e5 (O2.ext OLD.2) P5 (O4.ext OLD.2) rG3 (i := 4) (lb rfl) (g := (mkF m 42 #[vR ra0] [.int 4, .ref ra0])) rfl (zs hml) (rest := []) rfl (hb hby d39_42) (W := 0) rfl
  refine og T6 (mkF m 52 #[vR ra0] [.int 5, .ref ra0]) (fun _ k => st6 _ (qb X6 hx hby d39_45 rfl (qn X6 hx hby d39_47 rfl rfl (tq 116) (qa X6 hx hby d39_50 rfl rfl rfl (qc X6 hx hby d39_51 rfl k))))) ?_
  obtain ⟨T7, X7, e7, st7⟩ := own_chA X6 hx hZ hown (ow hw 244) hw A' C' B' D' rfl hp1 e6 (O2.ext OLD.2) P5 (O4.ext OLD.2) rG3 (i := 5) (lb rfl) (g := (mkF m 52 #[vR ra0] [.int 5, .ref ra0])) rfl (zs hml) (rest := []) rfl (hb hby d39_52) (W := 0) rfl
  refine og T7 (mkF m 63 #[vR ra0] [.int 6, .ref ra0]) (fun _ k => st7 _ (qb X7 hx hby d39_55 rfl (qn X7 hx hby d39_57 rfl rfl (tq 32) (qa X7 hx hby d39_60 rfl rfl rfl (qb X7 hx hby d39_61 rfl k))))) ?_
  obtain ⟨T8, X8, e8, st8⟩ := own_chA X7 hx hZ hown (ow hw 244) hw A' C' B' D' rfl hp1 e7 (O2.ext OLD.2) P5 (O4.ext OLD.2) rG3 (i := 6) (lb rfl) (g := (mkF m 63 #[vR ra0] [.int 6, .ref ra0])) rfl (zs hml) (rest := []) rfl (hb hby d39_63) (W := 0) rfl
  refine og T8 (mkF m 74 #[vR ra0] [.int 7, .ref ra0]) (fun _ k => st8 _ (qb X8 hx hby d39_66 rfl (qn X8 hx hby d39_68 rfl rfl (tq 116) (qa X8 hx hby d39_71 rfl rfl rfl (qb X8 hx hby d39_72 rfl k))))) ?_
  obtain ⟨T9, X9, e9, st9⟩ := own_chA X8 hx hZ hown (ow hw 244) hw A' C' B' D' rfl hp1 e8 (O2.ext OLD.2) P5 (O4.ext OLD.2) rG3 (i := 7) (lb rfl) (g := (mkF m 74 #[vR ra0] [.int 7, .ref ra0])) rfl (zs hml) (rest := []) rfl (hb hby d39_74) (W := 0) rfl
  refine og T9 (mkF m 85 #[vR ra0] [.int 8, .ref ra0]) (fun _ k => st9 _ (qb X9 hx hby d39_77 rfl (qn X9 hx hby d39_79 rfl rfl (tq 121) (qa X9 hx hby d39_82 rfl rfl rfl (qb X9 hx hby d39_83 rfl k))))) ?_
  obtain ⟨T10, X10, e10, st10⟩ := own_chA X9 hx hZ hown (ow hw 244) hw A' C' B' D' rfl hp1 e9 (O2.ext OLD.2) P5 (O4.ext OLD.2) rG3 (i := 8) (lb rfl) (g := (mkF m 85 #[vR ra0] [.int 8, .ref ra0])) rfl (zs hml) (rest := []) rfl (hb hby d39_85) (W := 0) rfl
  refine og T10 (mkF m 96 #[vR ra0] [.int 9, .ref ra0]) (fun _ k => st10 _ (qb X10 hx hby d39_88 rfl (qn X10 hx hby d39_90 rfl rfl (tq 112) (qa X10 hx hby d39_93 rfl rfl rfl (qb X10 hx hby d39_94 rfl k))))) ?_
  obtain ⟨T11, X11, e11, st11⟩ := own_chA X10 hx hZ hown (ow hw 244) hw A' C' B' D' rfl hp1 e10 (O2.ext OLD.2) P5 (O4.ext OLD.2) rG3 (i := 9) (lb rfl) (g := (mkF m 96 #[vR ra0] [.int 9, .ref ra0])) rfl (zs hml) (rest := []) rfl (hb hby d39_96) (W := 0) rfl
  refine og T11 (mkF m 107 #[vR ra0] [.int 10, .ref ra0]) (fun _ k => st11 _ (qb X11 hx hby d39_99 rfl (qn X11 hx hby d39_101 rfl rfl (tq 101) (qa X11 hx hby d39_104 rfl rfl rfl (qb X11 hx hby d39_105 rfl k))))) ?_
  obtain ⟨T12, X12, e12, st12⟩ := own_chA X11 hx hZ hown (ow hw 244) hw A' C' B' D' rfl hp1 e11 (O2.ext OLD.2) P5 (O4.ext OLD.2) rG3 (i := 10) (lb rfl) (g := (mkF m 107 #[vR ra0] [.int 10, .ref ra0])) rfl (zs hml) (rest := []) rfl (hb hby d39_107) (W := 0) rfl
  refine og T12 (mkF m 118 #[vR ra0] [.int 11, .ref ra0]) (fun _ k => st12 _ (qb X12 hx hby d39_110 rfl (qn X12 hx hby d39_112 rfl rfl (tq 32) (qa X12 hx hby d39_115 rfl rfl rfl (qb X12 hx hby d39_116 rfl k))))) ?_
  obtain ⟨T13, X13, e13, st13⟩ := own_chA X12 hx hZ hown (ow hw 244) hw A' C' B' D' rfl hp1 e12 (O2.ext OLD.2) P5 (O4.ext OLD.2) rG3 (i := 11) (lb rfl) (g := (mkF m 118 #[vR ra0] [.int 11, .ref ra0])) rfl (zs hml) (rest := []) rfl (hb hby d39_118) (W := 0) rfl
  refine og T13 (mkF m 131 #[vR ra0] [.int 1]) (fun _ k => st13 _ (qb X13 hx hby d39_121 rfl (qn X13 hx hby d39_123 rfl rfl (tq 34) (qc X13 hx hby d39_126 rfl (XS.goto X13.here hx rfl (pc0 := 127) (pc' := 131) rfl (hb hby d39_127) (by decide) (by decide) k))))) ?_
  exact own_leaveN X13 hlk (v := some (.int (nar .boolean (1 : Int32)))) (own_nr hret) (lb rfl) (lb rfl) (by rw [e13]; exact ⟨rfl, N0, rfl⟩) (fun fs hr => retN X13 hx (t := .boolean) hret (by simp) (hb hby d39_131) hr)
abbrev R45_107 : Room := { frames := 4, cells := 0, slots := 0, locals := 53 }
def Q45_107 (Z : State) (ra0 ra1 : Addr) (kc2 : ClassId) (ci3 ci4 : Int32) (G3 : Value) (G1 : Int32) (h0 : Heap) (n0 : Nat) (v : Option Value) (h : Heap) (L : List Loc) : Prop := (v = some (.int 1) ∧ Fr n0 L ∧ h = h0)
theorem rm45_107 l Z a0 (hw : HW Z a0) ra0 ra1 kc2 (ci3 : Int32) (ci4 : Int32) (G3 : Value) (G1 : Int32) h0 n0 (OLD : Old Z n0 h0) (A' : Exa Z h0 ra0 cN1) (B' : Fld Z h0 ra0 cN1 "coder" "B" (.int 0)) (C' : Fld Z h0 ra0 cN1 "value" "[B" (.ref ra1)) (hl_ci3 : ¬ ci3 < 0 ∧ ¬ (255 : Int32) < ci3) (hl_ci4 : ¬ ci4 < 0 ∧ ¬ (255 : Int32) < ci4) (D' : Arv Z h0 ra1 kc2 .byte (29 : Int32) (own_by ([101, 118, 101, 110, 116, 32, 116, 121, 112, 101, 32, 34, ci3, ci4, 34, 32, 105, 115, 32, 110, 111, 116, 32, 109, 97, 112, 112, 101, 100] : List Int32)) (.int 0)) (O4 : Sta Z Z.heap "jdk/internal/util/Preconditions" "SIOOBE_FORMATTER" "Ljava/util/function/BiFunction;" G3) (rG3 : G3.isRef = true) (O2 : Sta Z Z.heap cN1 "COMPACT_STRINGS" "Z" (.int G1)) (P5 : ¬ (G1 = (0 : Int32))) :
    own_CN l Z y37 method_4_code 2 (some .boolean) [] R45_107 #[.ref ra0, .int 14] h0 (Q45_107 Z ra0 ra1 kc2 ci3 ci4 G3 G1 h0 n0) := by
  refine own_entryN (plainFor_of_name pn_9) fun p e s m below meth c s₁ hx hby hml hown hnm hret hlk hZ hh X0 e0 => ?_
  have N0 := Fr.nil n0
  rw [ef_45_107 m ra0]
  refine og s₁ (mkF m 2 #[vR ra0, vI 14] [.int 14, .ref ra0]) (fun _ k => qa X0 hx hby d45_0 rfl rfl rfl (qi X0 hx hby d45_1 rfl rfl k)) ?_
  have hp1 : ∀ c ∈ ([101, 118, 101, 110, 116, 32, 116, 121, 112, 101, 32, 34, ci3, ci4, 34, 32, 105, 115, 32, 110, 111, 116, 32, 109, 97, 112, 112, 101, 100] : List Int32), ¬ c < 0 ∧ ¬ (255 : Int32) < c := by
    intro c hc
    simp only [List.mem_cons, List.not_mem_nil, or_false] at hc
    rcases hc with rfl | rfl | rfl | rfl | rfl | rfl | rfl | rfl | rfl | rfl | rfl | rfl | rfl | rfl | rfl | rfl | rfl | rfl | rfl | rfl | rfl | rfl | rfl | rfl | rfl | rfl | rfl | rfl | rfl
    · exact ⟨by decide, by decide⟩
    · exact ⟨by decide, by decide⟩
    · exact ⟨by decide, by decide⟩
    · exact ⟨by decide, by decide⟩
    · exact ⟨by decide, by decide⟩
    · exact ⟨by decide, by decide⟩
    · exact ⟨by decide, by decide⟩
    · exact ⟨by decide, by decide⟩
    · exact ⟨by decide, by decide⟩
    · exact ⟨by decide, by decide⟩
    · exact ⟨by decide, by decide⟩
    · exact ⟨by decide, by decide⟩
    · exact hl_ci3
    · exact hl_ci4
    · exact ⟨by decide, by decide⟩
    · exact ⟨by decide, by decide⟩
    · exact ⟨by decide, by decide⟩
    · exact ⟨by decide, by decide⟩
    · exact ⟨by decide, by decide⟩
    · exact ⟨by decide, by decide⟩
    · exact ⟨by decide, by decide⟩
    · exact ⟨by decide, by decide⟩
    · exact ⟨by decide, by decide⟩
    · exact ⟨by decide, by decide⟩
    · exact ⟨by decide, by decide⟩
    · exact ⟨by decide, by decide⟩
    · exact ⟨by decide, by decide⟩
    · exact ⟨by decide, by decide⟩
    · exact ⟨by decide, by decide⟩
  obtain ⟨T2, X2, e2, st2⟩ := own_chA X0 hx hZ hown (ow hw 244) hw A' C' B' D' rfl hp1 e0 (O2.ext OLD.2) P5 (O4.ext OLD.2) rG3 (i := 14) (lb rfl) (g := (mkF m 2 #[vR ra0, vI 14] [.int 14, .ref ra0])) rfl (zs hml) (rest := []) rfl (hb hby d45_2) (W := 0) rfl
  refine og T2 (mkF m 14 #[vR ra0, vI 14] [.int 15, .ref ra0]) (fun _ k => st2 _ (qb X2 hx hby d45_5 rfl (qn X2 hx hby d45_7 rfl rfl (tq 34) (qa X2 hx hby d45_10 rfl rfl rfl (qi X2 hx hby d45_11 rfl rfl (qc X2 hx hby d45_12 rfl (qp X2 hx hby d45_13 rfl rfl k))))))) ?_
  obtain ⟨T3, X3, e3, st3⟩ := own_chA X2 hx hZ hown (ow hw 244) hw A' C' B' D' rfl hp1 e2 (O2.ext OLD.2) P5 (O4.ext OLD.2) rG3 (i := 15) (lb rfl) (g := (mkF m 14 #[vR ra0, vI 14] [.int 15, .ref ra0])) rfl (zs hml) (rest := []) rfl (hb hby d45_14) (W := 0) rfl
  refine og T3 (mkF m 26 #[vR ra0, vI 14] [.int 16, .ref ra0]) (fun _ k => st3 _ (qb X3 hx hby d45_17 rfl (qn X3 hx hby d45_19 rfl rfl (tq 32) (qa X3 hx hby d45_22 rfl rfl rfl (qi X3 hx hby d45_23 rfl rfl (qc X3 hx hby d45_24 rfl (qp X3 hx hby d45_25 rfl rfl k))))))) ?_
  obtain ⟨T4, X4, e4, st4⟩ := own_chA X3 hx hZ hown (ow hw 244) hw A' C' B' D' rfl hp1 e3 (O2.ext OLD.2) P5 (O4.ext OLD.2) rG3 (i := 16) (lb rfl) (g := (mkF m 26 #[vR ra0, vI 14] [.int 16, .ref ra0])) rfl (zs hml) (rest := []) rfl (hb hby d45_26) (W := 0) rfl
  refine og T4 (mkF m 38 #[vR ra0, vI 14] [.int 17, .ref ra0]) (fun _ k => st4 _ (qb X4 hx hby d45_29 rfl (qn X4 hx hby d45_31 rfl rfl (tq 105) (qa X4 hx hby d45_34 rfl rfl rfl (qi X4 hx hby d45_35 rfl rfl (qc X4 hx hby d45_36 rfl (qp X4 hx hby d45_37 rfl rfl k))))))) ?_
  obtain ⟨T5, X5, e5, st5⟩ := own_chA X4 hx hZ hown (ow hw 244) hw A' C' B' D' rfl hp1 e4 (O2.ext OLD.2) P5 (O4.ext OLD.2) rG3 (i := 17) (lb rfl) (g := (mkF m 38 #[vR ra0, vI 14] [.int 17, .ref ra0])) rfl (zs hml) (rest := []) rfl (hb hby d45_38) (W := 0) rfl
  refine og T5 (mkF m 50 #[vR ra0, vI 14] [.int 18, .ref ra0]) (fun _ k => st5 _ (qb X5 hx hby d45_41 rfl (qn X5 hx hby d45_43 rfl rfl (tq 115) (qa X5 hx hby d45_46 rfl rfl rfl (qi X5 hx hby d45_47 rfl rfl (qc X5 hx hby d45_48 rfl (qp X5 hx hby d45_49 rfl rfl k))))))) ?_
  obtain ⟨T6, X6, e6, st6⟩ := own_chA X5 hx hZ hown (ow hw 244) hw A' C' B' D' rfl hp1 e5 (O2.ext OLD.2) P5 (O4.ext OLD.2) rG3 (i := 18) (lb rfl) (g := (mkF m 50 #[vR ra0, vI 14] [.int 18, .ref ra0])) rfl (zs hml) (rest := []) rfl (hb hby d45_50) (W := 0) rfl
  refine og T6 (mkF m 62 #[vR ra0, vI 14] [.int 19, .ref ra0]) (fun _ k => st6 _ (qb X6 hx hby d45_53 rfl (qn X6 hx hby d45_55 rfl rfl (tq 32) (qa X6 hx hby d45_58 rfl rfl rfl (qi X6 hx hby d45_59 rfl rfl (qc X6 hx hby d45_60 rfl (qp X6 hx hby d45_61 rfl rfl k))))))) ?_
  obtain ⟨T7, X7, e7, st7⟩ := own_chA X6 hx hZ hown (ow hw 244) hw A' C' B' D' rfl hp1 e6 (O2.ext OLD.2) P5 (O4.ext OLD.2) rG3 (i := 19) (lb rfl) (g := (mkF m 62 #[vR ra0, vI 14] [.int 19, .ref ra0])) rfl (zs hml) (rest := []) rfl (hb hby d45_62) (W := 0) rfl
  refine og T7 (mkF m 75 #[vR ra0, vI 14] [.int 20, .ref ra0]) (fun _ k => st7 _ (qb X7 hx hby d45_65 rfl (qn X7 hx hby d45_67 rfl rfl (tq 110) (qa X7 hx hby d45_70 rfl rfl rfl (qi X7 hx hby d45_71 rfl rfl (qb X7 hx hby d45_72 rfl (qp X7 hx hby d45_74 rfl rfl k))))))) ?_
  obtain ⟨T8, X8, e8, st8⟩ := own_chA X7 hx hZ hown (ow hw 244) hw A' C' B' D' rfl hp1 e7 (O2.ext OLD.2) P5 (O4.ext OLD.2) rG3 (i := 20) (lb rfl) (g := (mkF m 75 #[vR ra0, vI 14] [.int 20, .ref ra0])) rfl (zs hml) (rest := []) rfl (hb hby d45_75) (W := 0) rfl
  refine og T8 (mkF m 88 #[vR ra0, vI 14] [.int 21, .ref ra0]) (fun _ k => st8 _ (qb X8 hx hby d45_78 rfl (qn X8 hx hby d45_80 rfl rfl (tq 111) (qa X8 hx hby d45_83 rfl rfl rfl (qi X8 hx hby d45_84 rfl rfl (qb X8 hx hby d45_85 rfl (qp X8 hx hby d45_87 rfl rfl k))))))) ?_
  obtain ⟨T9, X9, e9, st9⟩ := own_chA X8 hx hZ hown (ow hw 244) hw A' C' B' D' rfl hp1 e8 (O2.ext OLD.2) P5 (O4.ext OLD.2) rG3 (i := 21) (lb rfl) (g := (mkF m 88 #[vR ra0, vI 14] [.int 21, .ref ra0])) rfl (zs hml) (rest := []) rfl (hb hby d45_88) (W := 0) rfl
  refine og T9 (mkF m 101 #[vR ra0, vI 14] [.int 22, .ref ra0]) (fun _ k => st9 _ (qb X9 hx hby d45_91 rfl (qn X9 hx hby d45_93 rfl rfl (tq 116) (qa X9 hx hby d45_96 rfl rfl rfl (qi X9 hx hby d45_97 rfl rfl (qb X9 hx hby d45_98 rfl (qp X9 hx hby d45_100 rfl rfl k))))))) ?_
  obtain ⟨T10, X10, e10, st10⟩ := own_chA X9 hx hZ hown (ow hw 244) hw A' C' B' D' rfl hp1 e9 (O2.ext OLD.2) P5 (O4.ext OLD.2) rG3 (i := 22) (lb rfl) (g := (mkF m 101 #[vR ra0, vI 14] [.int 22, .ref ra0])) rfl (zs hml) (rest := []) rfl (hb hby d45_101) (W := 0) rfl
  refine og T10 (mkF m 114 #[vR ra0, vI 14] [.int 23, .ref ra0]) (fun _ k => st10 _ (qb X10 hx hby d45_104 rfl (qn X10 hx hby d45_106 rfl rfl (tq 32) (qa X10 hx hby d45_109 rfl rfl rfl (qi X10 hx hby d45_110 rfl rfl (qb X10 hx hby d45_111 rfl (qp X10 hx hby d45_113 rfl rfl k))))))) ?_
  obtain ⟨T11, X11, e11, st11⟩ := own_chA X10 hx hZ hown (ow hw 244) hw A' C' B' D' rfl hp1 e10 (O2.ext OLD.2) P5 (O4.ext OLD.2) rG3 (i := 23) (lb rfl) (g := (mkF m 114 #[vR ra0, vI 14] [.int 23, .ref ra0])) rfl (zs hml) (rest := []) rfl (hb hby d45_114) (W := 0) rfl
  refine og T11 (mkF m 127 #[vR ra0, vI 14] [.int 24, .ref ra0]) (fun _ k => st11 _ (qb X11 hx hby d45_117 rfl (qn X11 hx hby d45_119 rfl rfl (tq 109) (qa X11 hx hby d45_122 rfl rfl rfl (qi X11 hx hby d45_123 rfl rfl (qb X11 hx hby d45_124 rfl (qp X11 hx hby d45_126 rfl rfl k))))))) ?_
  obtain ⟨T12, X12, e12, st12⟩ := own_chA X11 hx hZ hown (ow hw 244) hw A' C' B' D' rfl hp1 e11 (O2.ext OLD.2) P5 (O4.ext OLD.2) rG3 (i := 24) (lb rfl) (g := (mkF m 127 #[vR ra0, vI 14] [.int 24, .ref ra0])) rfl (zs hml) (rest := []) rfl (hb hby d45_127) (W := 0) rfl
  refine og T12 (mkF m 140 #[vR ra0, vI 14] [.int 25, .ref ra0]) (fun _ k => st12 _ (qb X12 hx hby d45_130 rfl (qn X12 hx hby d45_132 rfl rfl (tq 97) (qa X12 hx hby d45_135 rfl rfl rfl (qi X12 hx hby d45_136 rfl rfl (qb X12 hx hby d45_137 rfl (qp X12 hx hby d45_139 rfl rfl k))))))) ?_
  obtain ⟨T13, X13, e13, st13⟩ := own_chA X12 hx hZ hown (ow hw 244) hw A' C' B' D' rfl hp1 e12 (O2.ext OLD.2) P5 (O4.ext OLD.2) rG3 (i := 25) (lb rfl) (g := (mkF m 140 #[vR ra0, vI 14] [.int 25, .ref ra0])) rfl (zs hml) (rest := []) rfl (hb hby d45_140) (W := 0) rfl
  refine og T13 (mkF m 153 #[vR ra0, vI 14] [.int 26, .ref ra0]) (fun _ k => st13 _ (qb X13 hx hby d45_143 rfl (qn X13 hx hby d45_145 rfl rfl (tq 112) (qa X13 hx hby d45_148 rfl rfl rfl (qi X13 hx hby d45_149 rfl rfl (qb X13 hx hby d45_150 rfl (qp X13 hx hby d45_152 rfl rfl k))))))) ?_
  obtain ⟨T14, X14, e14, st14⟩ := own_chA X13 hx hZ hown (ow hw 244) hw A' C' B' D' rfl hp1 e13 (O2.ext OLD.2) P5 (O4.ext OLD.2) rG3 (i := 26) (lb rfl) (g := (mkF m 153 #[vR ra0, vI 14] [.int 26, .ref ra0])) rfl (zs hml) (rest := []) rfl (hb hby d45_153) (W := 0) rfl
  refine og T14 (mkF m 166 #[vR ra0, vI 14] [.int 27, .ref ra0]) (fun _ k => st14 _ (qb X14 hx hby d45_156 rfl (qn X14 hx hby d45_158 rfl rfl (tq 112) (qa X14 hx hby d45_161 rfl rfl rfl (qi X14 hx hby d45_162 rfl rfl (qb X14 hx hby d45_163 rfl (qp X14 hx hby d45_165 rfl rfl k))))))) ?_
  obtain ⟨T15, X15, e15, st15⟩ := own_chA X14 hx hZ hown (ow hw 244) hw A' C' B' D' rfl hp1 e14 (O2.ext OLD.2) P5 (O4.ext OLD.2) rG3 (i := 27) (lb rfl) (g := (mkF m 166 #[vR ra0, vI 14] [.int 27, .ref ra0])) rfl (zs hml) (rest := []) rfl (hb hby d45_166) (W := 0) rfl
  refine og T15 (mkF m 179 #[vR ra0, vI 14] [.int 28, .ref ra0]) (fun _ k => st15 _ (qb X15 hx hby d45_169 rfl (qn X15 hx hby d45_171 rfl rfl (tq 101) (qa X15 hx hby d45_174 rfl rfl rfl (qi X15 hx hby d45_175 rfl rfl (qb X15 hx hby d45_176 rfl (qp X15 hx hby d45_178 rfl rfl k))))))) ?_
  obtain ⟨T16, X16, e16, st16⟩ := own_chA X15 hx hZ hown (ow hw 244) hw A' C' B' D' rfl hp1 e15 (O2.ext OLD.2) P5 (O4.ext OLD.2) rG3 (i := 28) (lb rfl) (g := (mkF m 179 #[vR ra0, vI 14] [.int 28, .ref ra0])) rfl (zs hml) (rest := []) rfl (hb hby d45_179) (W := 0) rfl
  refine og T16 (mkF m 192 #[vR ra0, vI 14] [.int 1]) (fun _ k => st16 _ (qb X16 hx hby d45_182 rfl (qn X16 hx hby d45_184 rfl rfl (tq 100) (qc X16 hx hby d45_187 rfl (XS.goto X16.here hx rfl (pc0 := 188) (pc' := 192) rfl (hb hby d45_188) (by decide) (by decide) k))))) ?_
  exact own_leaveN X16 hlk (v := some (.int (nar .boolean (1 : Int32)))) (own_nr hret) (lb rfl) (lb rfl) (by rw [e16]; exact ⟨rfl, N0, rfl⟩) (fun fs hr => retN X16 hx (t := .boolean) hret (by simp) (hb hby d45_192) hr)
abbrev R11_112 : Room := { frames := 0, cells := 0, slots := 0, locals := 0 }
def Q11_112 (Z : State) (ra0 ra1 : Addr) (kc2 : ClassId) (cs3 : List Int32) (h0 : Heap) (n0 : Nat) (v : Option Value) (h : Heap) (L : List Loc) : Prop := (v = none ∧ Fr n0 L ∧ h = h0)
theorem rm11_112 l Z a0 (hw : HW Z a0) ra0 ra1 kc2 (cs3 : List Int32) h0 n0 (OLD : Old Z n0 h0) (A' : Exa Z h0 ra0 cN3) (B' : Fld Z h0 ra0 cN0 "coder" "B" (.int 0)) (C' : Fld Z h0 ra0 cN0 "count" "I" (.int 12)) (D' : Fld Z h0 ra0 cN0 "value" "[B" (.ref ra1)) (E' : cs3.length = 12) (F' : own_L cs3) (G' : Arv Z h0 ra1 kc2 .byte (16 : Int32) (own_by cs3) (.int 0)) :
    own_CN l Z y4 jdk_68_method_9_code 3 none [] R11_112 #[.ref ra0, .int 15] h0 (Q11_112 Z ra0 ra1 kc2 cs3 h0 n0) := by
  refine own_entryN (plainFor_of_name pn_1) fun p e s m below meth c s₁ hx hby hml hown hnm hret hlk hZ hh X0 e0 => ?_
  have N0 := Fr.nil n0
  rw [ef_11_112 m ra0]
  refine og s₁ (mkF m 1 #[vR ra0, vI 15, vU] [.ref ra0]) (fun _ k => qa X0 hx hby d11_0 rfl rfl rfl k) ?_
  obtain ⟨T1, X1, e1, st1⟩ := qf X0 hx hZ hown (ow hw 45) e0 D' (g := (mkF m 1 #[vR ra0, vI 15, vU] [.ref ra0])) rfl rfl hby d11_1
  refine og T1 (mkF m 4 #[vR ra0, vI 15, vU] [.ref ra1]) st1 ?_
  obtain ⟨cl2, Ar2, -, Sr2, Nr2, -, -⟩ := id G'
  refine og T1 (mkF m 5 #[vR ra0, vI 15, vU] [.int 16]) (fun t k => X1.arraylength hx (by rw [e1]; exact Ar2.1) (State.isArrayOf_alike hZ.alike Ar2.2.1) (g := (mkF m 4 #[vR ra0, vI 15, vU] [.ref ra1])) rfl rfl (hb hby d11_4) t (by rw [len_of Sr2 Nr2]; exact k)) ?_
  refine og T1 (mkF m 6 #[vR ra0, vI 15, vU] [.ref ra0, .int 16]) (fun _ k => qa X1 hx hby d11_5 rfl rfl rfl k) ?_
  obtain ⟨T3, X3, e3, st3⟩ := qf X1 hx hZ hown (ow hw 47) e1 B' (g := (mkF m 6 #[vR ra0, vI 15, vU] [.ref ra0, .int 16])) rfl rfl hby d11_6
  refine og T3 (mkF m 10 #[vR ra0, vI 15, vU] [.int 16]) (fun _ k => st3 _ (XS.ishr X3.here hx rfl (hb hby d11_9) rfl (by rw [show ((16 : Int32) >>> ((0 : Int32) &&& 31)) = (16 : Int32) from by decide]; exact k))) ?_
  refine og T3 (mkF m 38 #[vR ra0, vI 15, vI 16] []) (fun _ k => XS.istoreN X3.here hx rfl (hb hby d11_10) rfl (l' := #[vR ra0, vI 15, vI 16]) rfl (qi X3 hx hby d11_11 rfl rfl (qi X3 hx hby d11_12 rfl rfl (XS.isub X3.here hx rfl (hb hby d11_13) rfl (XS.ifYes X3.here hx rfl (pc0 := 14) (pc' := 38) rfl (hb hby d11_14) rfl ((if0 _ _).trans (flt (by decide : ¬ ((0 : Int32) < (-1 : Int32)))).2.2.2) (by decide) (by decide) k))))) ?_
  exact own_leaveN X3 hlk (v := none) (fun _ => rfl) (lb rfl) (lb rfl) (by rw [e3]; exact ⟨rfl, N0, rfl⟩) (fun fs hr => X3.returnOut hx hret (hb hby d11_38) hr)
abbrev R14_114 : Room := { frames := 1, cells := 0, slots := 0, locals := 18 }
def Q14_114 (Z : State) (ra0 ra1 : Addr) (kc2 : ClassId) (cs3 : List Int32) (ra4 : Addr) (kc5 : ClassId) (cs6 : List Int32) (G1 : Int32) (h0 : Heap) (n0 : Nat) (v : Option Value) (h : Heap) (L : List Loc) : Prop := (v = none ∧ Fr n0 L ∧ Keep h0 h [ra4] ∧ Arv Z h ra4 kc5 .byte (16 : Int32) (own_by (cs6 ++ cs3)) (.int 0))
theorem rm14_114 l Z a0 (hw : HW Z a0) ra0 ra1 kc2 (cs3 : List Int32) ra4 kc5 (cs6 : List Int32) (G1 : Int32) h0 n0 (OLD : Old Z n0 h0) (A' : Exa Z h0 ra0 cN1) (B' : Fld Z h0 ra0 cN1 "coder" "B" (.int 0)) (C' : Fld Z h0 ra0 cN1 "value" "[B" (.ref ra1)) (D' : cs3.length = 3) (E' : own_L cs3) (F' : Arv Z h0 ra1 kc2 .byte (3 : Int32) (own_by cs3) (.int 0)) (G' : cs6.length = 12) (H' : own_L cs6) (I' : Arv Z h0 ra4 kc5 .byte (16 : Int32) (own_by cs6) (.int 0)) (O2 : Sta Z Z.heap cN1 "COMPACT_STRINGS" "Z" (.int G1)) (P5 : ¬ (G1 = (0 : Int32))) (J' : n0 ≤ ra4) :
    own_CN l Z y7 jdk_42_method_147_code 4 none [] R14_114 #[.ref ra0, .ref ra4, .int 12, .int 0] h0 (Q14_114 Z ra0 ra1 kc2 cs3 ra4 kc5 cs6 G1 h0 n0) := by
  refine own_entryN (plainFor_of_name pn_0) fun p e s m below meth c s₁ hx hby hml hown hnm hret hlk hZ hh X0 e0 => ?_
  have N0 := Fr.nil n0
  rw [ef_14_21 m ra0 ra4]
  refine og s₁ (mkF m 1 #[vR ra0, vR ra4, vI 12, vI 0] [.ref ra0]) (fun _ k => qa X0 hx hby d14_0 rfl rfl rfl k) ?_
  obtain ⟨_, T1, L1, X1, hQ1, st1⟩ := own_vc X0 hx hZ hown (ow hw 65) (ow hw 66) (ow hw 68) (ow hw 67) A' (rm10_15 l Z a0 hw ra0 G1 ((0 : Int32)) h0 n0 OLD O2 P5 B') (ow hw 69) (ow hw 2) e0 (g := (mkF m 1 #[vR ra0, vR ra4, vI 12, vI 0] [.ref ra0])) rfl (zs hml) (argsL := []) (rest := []) (lenOf pd_4 rfl) rfl (hb hby d14_1) (W := 0) rfl
  obtain ⟨rfl, Nq1, eq1⟩ := hQ1
  have N1 := Fr.app N0 Nq1
  refine og T1 (mkF m 9 #[vR ra0, vR ra4, vI 12, vI 0] [.ref ra0]) (fun _ k => st1.trans (qi X1 hx hby d14_4 rfl rfl (qn X1 hx hby d14_5 rfl rfl (tq 0) (qa X1 hx hby d14_8 rfl rfl rfl k)))) ?_
  obtain ⟨T2, X2, e2, st2⟩ := qf X1 hx hZ hown (ow hw 20) eq1 C' (g := (mkF m 9 #[vR ra0, vR ra4, vI 12, vI 0] [.ref ra0])) rfl rfl hby d14_9
  refine og T2 (mkF m 16 #[vR ra0, vR ra4, vI 12, vI 0] [.int 0, .int 12, .ref ra4, .int 0, .ref ra1]) (fun _ k => st2 _ (qc X2 hx hby d14_12 rfl (qa X2 hx hby d14_13 rfl rfl rfl (qi X2 hx hby d14_14 rfl rfl (qi X2 hx hby d14_15 rfl rfl k))))) ?_
  refine og T2 (mkF m 17 #[vR ra0, vR ra4, vI 12, vI 0] [.int 12, .ref ra4, .int 0, .ref ra1]) (fun _ k => XS.ishl X2.here hx rfl (hb hby d14_16) rfl (by rw [show ((12 : Int32) <<< ((0 : Int32) &&& 31)) = (12 : Int32) from by decide]; exact k)) ?_
  refine og T2 (mkF m 18 #[vR ra0, vR ra4, vI 12, vI 0] [.ref ra0, .int 12, .ref ra4, .int 0, .ref ra1]) (fun _ k => qa X2 hx hby d14_17 rfl rfl rfl k) ?_
  obtain ⟨T3, X3, e3, st3⟩ := qf X2 hx hZ hown (ow hw 20) e2 C' (g := (mkF m 18 #[vR ra0, vR ra4, vI 12, vI 0] [.ref ra0, .int 12, .ref ra4, .int 0, .ref ra1])) rfl rfl hby d14_18
  refine og T3 (mkF m 21 #[vR ra0, vR ra4, vI 12, vI 0] [.ref ra1, .int 12, .ref ra4, .int 0, .ref ra1]) st3 ?_
  obtain ⟨cl4, Ar4, -, Sr4, Nr4, -, -⟩ := id F'
  refine og T3 (mkF m 22 #[vR ra0, vR ra4, vI 12, vI 0] [.int 3, .int 12, .ref ra4, .int 0, .ref ra1]) (fun t k => X3.arraylength hx (by rw [e3]; exact Ar4.1) (State.isArrayOf_alike hZ.alike Ar4.2.1) (g := (mkF m 21 #[vR ra0, vR ra4, vI 12, vI 0] [.ref ra1, .int 12, .ref ra4, .int 0, .ref ra1])) rfl rfl (hb hby d14_21) t (by rw [len_of Sr4 Nr4]; exact k)) ?_
  obtain ⟨T5, h5, L5, X5, e5, N5, K5, Vq5, st5⟩ := own_cpB X3 hx hZ hown (ow hw 94) (ow hw 97) (ow hw 95) (ow hw 96) e3 F' I' (sp := (0 : Int32)) (dp := (12 : Int32)) (nn := (3 : Int32)) rfl (by decide) (by decide) (by decide) (by decide) (show _ = _ from G') ((Eq.symm D') ▸ lb rfl) N1 J' (g := (mkF m 22 #[vR ra0, vR ra4, vI 12, vI 0] [.int 3, .int 12, .ref ra4, .int 0, .ref ra1])) rfl (zs hml) rfl (hb hby d14_22) (lb rfl) (W := 0) (lb rfl) (lb rfl)
  have V5 : Arv Z h5 ra4 kc5 .byte (16 : Int32) (own_by (cs6 ++ cs3)) (.int 0) := Vq5
  refine og T5 (mkF m 43 #[vR ra0, vR ra4, vI 12, vI 0] []) (fun _ k => st5 _ (XS.goto X5.here hx rfl (pc0 := 25) (pc' := 43) rfl (hb hby d14_25) (by decide) (by decide) k)) ?_
  have KEEP := ((Keep.refl h0 [ra4]).trans K5 (allS (Or.inl (List.mem_of_getElem? (i := 0) rfl)) all0))
  exact own_leaveN X5 hlk (v := none) (fun _ => rfl) (lb rfl) (lb rfl) (by rw [e5]; exact ⟨rfl, N5, KEEP, V5⟩) (fun fs hr => X5.returnOut hx hret (hb hby d14_43) hr)
abbrev R12_113 : Room := { frames := 2, cells := 0, slots := 0, locals := 33 }
def Q12_113 (Z : State) (ra0 ra1 : Addr) (kc2 : ClassId) (cs3 : List Int32) (ra4 ra5 : Addr) (kc6 : ClassId) (cs7 : List Int32) (G1 : Int32) (h0 : Heap) (n0 : Nat) (v : Option Value) (h : Heap) (L : List Loc) : Prop := (v = none ∧ Fr n0 L ∧ Keep h0 h [ra1] ∧ Arv Z h ra1 kc2 .byte (16 : Int32) (own_by (cs3 ++ cs7)) (.int 0))
theorem rm12_113 l Z a0 (hw : HW Z a0) ra0 ra1 kc2 (cs3 : List Int32) ra4 ra5 kc6 (cs7 : List Int32) (G1 : Int32) h0 n0 (OLD : Old Z n0 h0) (A' : Exa Z h0 ra0 cN3) (B' : Fld Z h0 ra0 cN0 "coder" "B" (.int 0)) (C' : Fld Z h0 ra0 cN0 "count" "I" (.int 12)) (D' : Fld Z h0 ra0 cN0 "value" "[B" (.ref ra1)) (E' : cs3.length = 12) (F' : own_L cs3) (G' : Arv Z h0 ra1 kc2 .byte (16 : Int32) (own_by cs3) (.int 0)) (H' : Exa Z h0 ra4 cN1) (I' : Fld Z h0 ra4 cN1 "coder" "B" (.int 0)) (J' : Fld Z h0 ra4 cN1 "value" "[B" (.ref ra5)) (K' : cs7.length = 3) (L' : own_L cs7) (M' : Arv Z h0 ra5 kc6 .byte (3 : Int32) (own_by cs7) (.int 0)) (O2 : Sta Z Z.heap cN1 "COMPACT_STRINGS" "Z" (.int G1)) (P5 : ¬ (G1 = (0 : Int32))) (N' : n0 ≤ ra1) :
    own_CN l Z y8 jdk_68_method_73_code 3 none [] R12_113 #[.ref ra0, .int 12, .ref ra4] h0 (Q12_113 Z ra0 ra1 kc2 cs3 ra4 ra5 kc6 cs7 G1 h0 n0) := by
  refine own_entryN (plainFor_of_name pn_1) fun p e s m below meth c s₁ hx hby hml hown hnm hret hlk hZ hh X0 e0 => ?_
  have N0 := Fr.nil n0
  rw [ef_12_20 m ra0 ra4]
  refine og s₁ (mkF m 2 #[vR ra0, vI 12, vR ra4] [.ref ra4, .ref ra0]) (fun _ k => qa X0 hx hby d12_0 rfl rfl rfl (qa X0 hx hby d12_1 rfl rfl rfl k)) ?_
  obtain ⟨_, T1, L1, X1, hQ1, st1⟩ := own_pc X0 hx hZ hown (ow hw 83) (ow hw 86) (ow hw 84) (ow hw 85) A' (rm13_14 l Z a0 hw ra0 ra4 G1 ((0 : Int32)) ((0 : Int32)) h0 n0 OLD O2 P5 B' I' H' (by decide : (0 : Int32) = (0 : Int32))) (ow hw 87) (ow hw 41) e0 (g := (mkF m 2 #[vR ra0, vI 12, vR ra4] [.ref ra4, .ref ra0])) rfl (zs hml) (argsL := [.ref ra4]) (rest := []) (lenOf pd_5 rfl) rfl (hb hby d12_2) (W := 0) rfl
  obtain ⟨rfl, Nq1, eq1⟩ := hQ1
  have N1 := Fr.app N0 Nq1
  refine og T1 (mkF m 7 #[vR ra0, vI 12, vR ra4] [.ref ra0, .ref ra4]) (fun _ k => st1.trans (qa X1 hx hby d12_5 rfl rfl rfl (qa X1 hx hby d12_6 rfl rfl rfl k))) ?_
  obtain ⟨T2, X2, e2, st2⟩ := qf X1 hx hZ hown (ow hw 45) eq1 D' (g := (mkF m 7 #[vR ra0, vI 12, vR ra4] [.ref ra0, .ref ra4])) rfl rfl hby d12_7
  refine og T2 (mkF m 12 #[vR ra0, vI 12, vR ra4] [.ref ra0, .int 12, .ref ra1, .ref ra4]) (fun _ k => st2 _ (qi X2 hx hby d12_10 rfl rfl (qa X2 hx hby d12_11 rfl rfl rfl k))) ?_
  obtain ⟨T3, X3, e3, st3⟩ := qf X2 hx hZ hown (ow hw 47) e2 B' (g := (mkF m 12 #[vR ra0, vI 12, vR ra4] [.ref ra0, .int 12, .ref ra1, .ref ra4])) rfl rfl hby d12_12
  refine og T3 (mkF m 15 #[vR ra0, vI 12, vR ra4] [.int 0, .int 12, .ref ra1, .ref ra4]) st3 ?_
  obtain ⟨_, T4, L4, X4, hQ4, st4⟩ := own_vc X3 hx hZ hown (ow hw 89) (ow hw 90) (ow hw 92) (ow hw 91) H' (rm14_114 l Z a0 hw ra4 ra5 kc6 cs7 ra1 kc2 cs3 G1 h0 n0 OLD H' I' J' K' L' M' E' F' G' O2 P5 N') (ow hw 93) (ow hw 2) e3 (g := (mkF m 15 #[vR ra0, vI 12, vR ra4] [.int 0, .int 12, .ref ra1, .ref ra4])) rfl (zs hml) (argsL := [.ref ra1, .int 12, .int 0]) (rest := []) (lenOf pd_6 rfl) rfl (hb hby d12_15) (W := 0) rfl
  obtain ⟨rfl, Nq4, K4, f5⟩ := hQ4
  have N4 := Fr.app N1 Nq4
  refine ot T4 (mkF m 18 #[vR ra0, vI 12, vR ra4] []) st4 ?_
  have KEEP := ((Keep.refl h0 [ra1]).trans K4 (allS (Or.inl (List.mem_of_getElem? (i := 0) rfl)) all0))
  exact own_leaveN X4 hlk (v := none) (fun _ => rfl) (lb rfl) (lb rfl) (by exact ⟨rfl, N4, KEEP, f5⟩) (fun fs hr => X4.returnOut hx hret (hb hby d12_18) hr)
abbrev R8_111 : Room := { frames := 3, cells := 0, slots := 0, locals := 47 }
def Q8_111 (Z : State) (ra0 ra1 : Addr) (kc2 : ClassId) (cs3 : List Int32) (ra4 ra5 : Addr) (kc6 : ClassId) (cs7 : List Int32) (G1 : Int32) (h0 : Heap) (n0 : Nat) (v : Option Value) (h : Heap) (L : List Loc) : Prop := (v = some (.ref ra0) ∧ Fr n0 L ∧ Keep h0 h [ra1, ra0] ∧ Arv Z h ra1 kc2 .byte (16 : Int32) (own_by (cs3 ++ cs7)) (.int 0) ∧ Fld Z h ra0 cN0 "coder" "B" (.int 0) ∧ Fld Z h ra0 cN0 "count" "I" (.int 15) ∧ Fld Z h ra0 cN0 "value" "[B" (.ref ra1))
theorem rm8_111 l Z a0 (hw : HW Z a0) ra0 ra1 kc2 (cs3 : List Int32) ra4 ra5 kc6 (cs7 : List Int32) (G1 : Int32) h0 n0 (OLD : Old Z n0 h0) (A' : Exa Z h0 ra0 cN3) (B' : Fld Z h0 ra0 cN0 "coder" "B" (.int 0)) (C' : Fld Z h0 ra0 cN0 "count" "I" (.int 12)) (D' : Fld Z h0 ra0 cN0 "value" "[B" (.ref ra1)) (E' : cs3.length = 12) (F' : own_L cs3) (G' : Arv Z h0 ra1 kc2 .byte (16 : Int32) (own_by cs3) (.int 0)) (H' : Exa Z h0 ra4 cN1) (I' : Fld Z h0 ra4 cN1 "coder" "B" (.int 0)) (J' : Fld Z h0 ra4 cN1 "value" "[B" (.ref ra5)) (K' : cs7.length = 3) (L' : own_L cs7) (M' : Arv Z h0 ra5 kc6 .byte (3 : Int32) (own_by cs7) (.int 0)) (O2 : Sta Z Z.heap cN1 "COMPACT_STRINGS" "Z" (.int G1)) (P5 : ¬ (G1 = (0 : Int32))) (N' : n0 ≤ ra1) (ne_ra0_ra1 : ra0 ≠ ra1) (P' : n0 ≤ ra0) :
    own_CN l Z y9 jdk_68_method_22_code 3 (some (.object cN0)) [] R8_111 #[.ref ra0, .ref ra4] h0 (Q8_111 Z ra0 ra1 kc2 cs3 ra4 ra5 kc6 cs7 G1 h0 n0) := by
  refine own_entryN (plainFor_of_name pn_1) fun p e s m below meth c s₁ hx hby hml hown hnm hret hlk hZ hh X0 e0 => ?_
  have N0 := Fr.nil n0
  rw [ef_8_11 m ra0 ra4]
  refine og s₁ (mkF m 10 #[vR ra0, vR ra4, vU] [.ref ra4]) (fun _ k => qa X0 hx hby d8_0 rfl rfl rfl (XS.ifnonnullYes X0.here hx rfl (pc0 := 1) (pc' := 9) rfl (hb hby d8_1) rfl (by decide) (by decide) (qa X0 hx hby d8_9 rfl rfl rfl k))) ?_
  obtain ⟨T1, X1, e1, st1⟩ := own_lenA X0 hx hZ hown (ow hw 60) hw H' J' I' M' K' L' e0 (O2.ext OLD.2) P5 (g := (mkF m 10 #[vR ra0, vR ra4, vU] [.ref ra4])) rfl (zs hml) (rest := []) rfl (hb hby d8_10) (W := 0) rfl
  refine og T1 (mkF m 16 #[vR ra0, vR ra4, vI 3] [.ref ra0, .ref ra0]) (fun _ k => st1 _ (XS.istoreN X1.here hx rfl (hb hby d8_13) rfl (l' := #[vR ra0, vR ra4, vI 3]) rfl (qa X1 hx hby d8_14 rfl rfl rfl (qa X1 hx hby d8_15 rfl rfl rfl k)))) ?_
  obtain ⟨T2, X2, e2, st2⟩ := qf X1 hx hZ hown (ow hw 71) e1 C' (g := (mkF m 16 #[vR ra0, vR ra4, vI 3] [.ref ra0, .ref ra0])) rfl rfl hby d8_16
  refine og T2 (mkF m 21 #[vR ra0, vR ra4, vI 3] [.int 15, .ref ra0]) (fun _ k => st2 _ (qi X2 hx hby d8_19 rfl rfl (qp X2 hx hby d8_20 rfl rfl k))) ?_
  obtain ⟨_, T3, L3, X3, hQ3, st3⟩ := own_pc X2 hx hZ hown (ow hw 73) (ow hw 76) (ow hw 74) (ow hw 75) A' (rm11_112 l Z a0 hw ra0 ra1 kc2 cs3 h0 n0 OLD A' B' C' D' E' F' G') (ow hw 77) (ow hw 41) e2 (g := (mkF m 21 #[vR ra0, vR ra4, vI 3] [.int 15, .ref ra0])) rfl (zs hml) (argsL := [.int 15]) (rest := []) (lenOf pd_2 rfl) rfl (hb hby d8_21) (W := 0) rfl
  obtain ⟨rfl, Nq3, eq3⟩ := hQ3
  have N3 := Fr.app N0 Nq3
  refine og T3 (mkF m 26 #[vR ra0, vR ra4, vI 3] [.ref ra0, .ref ra0]) (fun _ k => st3.trans (qa X3 hx hby d8_24 rfl rfl rfl (qa X3 hx hby d8_25 rfl rfl rfl k))) ?_
  obtain ⟨T4, X4, e4, st4⟩ := qf X3 hx hZ hown (ow hw 71) eq3 C' (g := (mkF m 26 #[vR ra0, vR ra4, vI 3] [.ref ra0, .ref ra0])) rfl rfl hby d8_26
  refine og T4 (mkF m 30 #[vR ra0, vR ra4, vI 3] [.ref ra4, .int 12, .ref ra0]) (fun _ k => st4 _ (qa X4 hx hby d8_29 rfl rfl rfl k)) ?_
  obtain ⟨_, T5, L5, X5, hQ5, st5⟩ := own_pc X4 hx hZ hown (ow hw 78) (ow hw 81) (ow hw 79) (ow hw 80) A' (rm12_113 l Z a0 hw ra0 ra1 kc2 cs3 ra4 ra5 kc6 cs7 G1 h0 n0 OLD A' B' C' D' E' F' G' H' I' J' K' L' M' O2 P5 N') (ow hw 82) (ow hw 41) e4 (g := (mkF m 30 #[vR ra0, vR ra4, vI 3] [.ref ra4, .int 12, .ref ra0])) rfl (zs hml) (argsL := [.int 12, .ref ra4]) (rest := []) (lenOf pd_7 rfl) rfl (hb hby d8_30) (W := 0) rfl
  obtain ⟨rfl, Nq5, K5, f6⟩ := hQ5
  have N5 := Fr.app N3 Nq5
  refine og T5 (mkF m 35 #[vR ra0, vR ra4, vI 3] [.ref ra0, .ref ra0]) (fun _ k => st5.trans (qa X5 hx hby d8_33 rfl rfl rfl (XS.dup X5.here hx rfl (hb hby d8_34) rfl rfl k))) ?_
  have F7 := (C'.keep K5 (ninS ne_ra0_ra1 nin0))
  obtain ⟨T8, X8, e8, st8⟩ := qf X5 hx hZ hown (ow hw 71) rfl F7 (g := (mkF m 35 #[vR ra0, vR ra4, vI 3] [.ref ra0, .ref ra0])) rfl rfl hby d8_35
  refine og T8 (mkF m 40 #[vR ra0, vR ra4, vI 3] [.int 15, .ref ra0]) (fun _ k => st8 _ (qi X8 hx hby d8_38 rfl rfl (qp X8 hx hby d8_39 rfl rfl k))) ?_
  have F9 := (A'.keep K5)
  obtain ⟨T10, h10, X10, e10, W10, st10⟩ := putF X8 hx hZ hown (host := "") (Or.inl (ow hw 71)) Via.refl e8 F7 F9 (Or.inl (ow hw 72)) (ow hw 32) (ty := .int) (by decide) rfl rfl (g := (mkF m 40 #[vR ra0, vR ra4, vI 3] [.int 15, .ref ra0])) rfl rfl (hb hby d8_40)
  have Fw10 := F7.same W10
  have N10 := Fr.snoc X10 N5 P'
  refine og T10 (mkF m 44 #[vR ra0, vR ra4, vI 3] [.ref ra0]) (fun _ k => st10 _ (qa X10 hx hby d8_43 rfl rfl rfl k)) ?_
  have F11 := (f6.other W10 (Ne.symm ne_ra0_ra1))
  have F12 := ((B'.keep K5 (ninS ne_ra0_ra1 nin0)).other W10 (Or.inr (slot_ne (Or.inl (ow hw 48)) (Or.inl (ow hw 72)) (by decide) (t := .byte) (t' := .int) (by decide) (by decide))))
  have F13 := ((D'.keep K5 (ninS ne_ra0_ra1 nin0)).other W10 (Or.inr (slot_ne (Or.inl (ow hw 46)) (Or.inl (ow hw 72)) (by decide) (t := (.array .byte)) (t' := .int) (by decide) (by decide))))
  have KEEP := (((Keep.refl h0 [ra1, ra0]).trans K5 (allS (Or.inl (List.mem_of_getElem? (i := 0) rfl)) all0)).wr W10 (Or.inl (List.mem_of_getElem? (i := 1) rfl)))
  exact own_leaveN X10 hlk (v := some (.ref ra0)) (own_nr hret) (lb rfl) (lb rfl) (by rw [e10]; exact ⟨rfl, N10, KEEP, F11, F12, Fw10, F13⟩) (own_ra X10 hx hret rfl rfl rfl (hb hby d8_44))
abbrev R7_110 : Room := { frames := 4, cells := 0, slots := 0, locals := 61 }
def Q7_110 (Z : State) (ra0 ra1 : Addr) (kc2 : ClassId) (cs3 : List Int32) (ra4 ra5 : Addr) (kc6 : ClassId) (cs7 : List Int32) (G1 : Int32) (h0 : Heap) (n0 : Nat) (v : Option Value) (h : Heap) (L : List Loc) : Prop := (v = some (.ref ra0) ∧ Fr n0 L ∧ Keep h0 h [ra1, ra0] ∧ Arv Z h ra1 kc2 .byte (16 : Int32) (own_by (cs3 ++ cs7)) (.int 0) ∧ Fld Z h ra0 cN0 "coder" "B" (.int 0) ∧ Fld Z h ra0 cN0 "count" "I" (.int 15) ∧ Fld Z h ra0 cN0 "value" "[B" (.ref ra1))
theorem rm7_110 l Z a0 (hw : HW Z a0) ra0 ra1 kc2 (cs3 : List Int32) ra4 ra5 kc6 (cs7 : List Int32) (G1 : Int32) h0 n0 (OLD : Old Z n0 h0) (A' : Exa Z h0 ra0 cN3) (B' : Fld Z h0 ra0 cN0 "coder" "B" (.int 0)) (C' : Fld Z h0 ra0 cN0 "count" "I" (.int 12)) (D' : Fld Z h0 ra0 cN0 "value" "[B" (.ref ra1)) (E' : cs3.length = 12) (F' : own_L cs3) (G' : Arv Z h0 ra1 kc2 .byte (16 : Int32) (own_by cs3) (.int 0)) (H' : Exa Z h0 ra4 cN1) (I' : Fld Z h0 ra4 cN1 "coder" "B" (.int 0)) (J' : Fld Z h0 ra4 cN1 "value" "[B" (.ref ra5)) (K' : cs7.length = 3) (L' : own_L cs7) (M' : Arv Z h0 ra5 kc6 .byte (3 : Int32) (own_by cs7) (.int 0)) (O2 : Sta Z Z.heap cN1 "COMPACT_STRINGS" "Z" (.int G1)) (P5 : ¬ (G1 = (0 : Int32))) (N' : n0 ≤ ra1) (ne_ra0_ra1 : ra0 ≠ ra1) (P' : n0 ≤ ra0) :
    own_CN l Z y10 jdk_67_method_7_code 2 (some (.object cN3)) [] R7_110 #[.ref ra0, .ref ra4] h0 (Q7_110 Z ra0 ra1 kc2 cs3 ra4 ra5 kc6 cs7 G1 h0 n0) := by
  refine own_entryN (plainFor_of_name pn_2) fun p e s m below meth c s₁ hx hby hml hown hnm hret hlk hZ hh X0 e0 => ?_
  have N0 := Fr.nil n0
  rw [ef_1_5 m ra0 ra4]
  refine og s₁ (mkF m 2 #[vR ra0, vR ra4] [.ref ra4, .ref ra0]) (fun _ k => qa X0 hx hby d7_0 rfl rfl rfl (qa X0 hx hby d7_1 rfl rfl rfl k)) ?_
  obtain ⟨_, _, ⟨T2, L2, k2, n2⟩, -, X2, ⟨Lc2, hQ2, l2, y2, z2⟩, st2⟩ := superBack X0 hx hZ (y := y9) hown (ow hw 55) (own_same (z := y4) (ow hw 76) (ow hw 56) rfl (by decide)) (ow hw 56) (ow hw 57) (by decide) (backOf (W := 0) (rm8_111 l Z a0 hw ra0 ra1 kc2 cs3 ra4 ra5 kc6 cs7 G1 h0 n0 OLD A' B' C' D' E' F' G' H' I' J' K' L' M' O2 P5 N' ne_ra0_ra1 P') hZ (ow hw 59) (ow hw 41) (lb rfl) (lb rfl)) e0 (Ins.self A') (g := (mkF m 2 #[vR ra0, vR ra4] [.ref ra4, .ref ra0])) rfl (zs hml) (ow hw 59) (argsL := [.ref ra4]) (rest := []) (lenOf pd_8 rfl) rfl (lb rfl) (hb hby d7_2) (fun _ _ => ⟨rfl, e0, (lb rfl), (lb rfl)⟩)
  dsimp only [Pt.U, Pt.locs, Pt.cells, Pt.slots] at X2 l2 y2 z2 st2 hQ2
  subst l2 y2 z2
  obtain ⟨rfl, Nq2, K2, f3, f4, f5, f6⟩ := hQ2
  have N2 := Fr.app N0 Nq2
  refine og T2 (mkF m 7 #[vR ra0, vR ra4] [.ref ra0]) (fun _ k => st2.trans (XS.pop X2.here hx rfl (hb hby d7_5) rfl rfl (qa X2 hx hby d7_6 rfl rfl rfl k))) ?_
  have KEEP := ((Keep.refl h0 [ra1, ra0]).trans K2 (allS (Or.inl (List.mem_of_getElem? (i := 0) rfl)) (allS (Or.inl (List.mem_of_getElem? (i := 1) rfl)) all0)))
  exact own_leaveN X2 hlk (v := some (.ref ra0)) (own_nr hret) (lb rfl) (lb rfl) (by exact ⟨rfl, N2, KEEP, f3, f4, f5, f6⟩) (own_ra X2 hx hret rfl rfl rfl (hb hby d7_7))
abbrev R17_120 : Room := { frames := 0, cells := 0, slots := 0, locals := 0 }
def Q17_120 (Z : State)  (h0 : Heap) (n0 : Nat) (v : Option Value) (h : Heap) (L : List Loc) : Prop := (v = some (.int 18) ∧ Fr n0 L ∧ h = h0)
theorem rm17_120 l Z a0 (hw : HW Z a0)  h0 n0 (OLD : Old Z n0 h0) :
    own_CN l Z y11 jdk_29_method_65_code 2 (some .int) [] R17_120 #[.int 14, .int 18] h0 (Q17_120 Z  h0 n0) := by
  refine own_entryN (Jvm.Free.JP.mathPlain rfl (by decide +kernel)) fun p e s m below meth c s₁ hx hby hml hown hnm hret hlk hZ hh X0 e0 => ?_
  have N0 := Fr.nil n0
  rw [ef_17_120 m ]
  refine og s₁ (mkF m 10 #[vI 14, vI 18] [.int 18]) (fun _ k => qi X0 hx hby d17_0 rfl rfl (qi X0 hx hby d17_1 rfl rfl (XS.icmpYes X0.here hx rfl (pc0 := 2) (pc' := 9) rfl (hb hby d17_2) rfl (tlt (by decide : (14 : Int32) < (18 : Int32))).1 (by decide) (by decide) (qi X0 hx hby d17_9 rfl rfl k)))) ?_
  exact own_leaveN X0 hlk (v := some (.int 18)) (own_nr hret) (lb rfl) (lb rfl) (by rw [e0]; exact ⟨rfl, N0, rfl⟩) (fun fs hr => retI X0 hx hret (hb hby d17_10) hr)
abbrev R16_119 : Room := { frames := 1, cells := 0, slots := 0, locals := 14 }
def Q16_119 (Z : State)  (h0 : Heap) (n0 : Nat) (v : Option Value) (h : Heap) (L : List Loc) : Prop := (v = some (.int 34) ∧ Fr n0 L ∧ h = h0)
theorem rm16_119 l Z a0 (hw : HW Z a0)  h0 n0 (OLD : Old Z n0 h0) :
    own_CN l Z y12 jdk_48_method_27_code 4 (some .int) [] R16_119 #[.int 16, .int 14, .int 18] h0 (Q16_119 Z  h0 n0) := by
  refine own_entryN (plainFor_of_name pn_3) fun p e s m below meth c s₁ hx hby hml hown hnm hret hlk hZ hh X0 e0 => ?_
  have N0 := Fr.nil n0
  rw [ef_16_119 m ]
  refine og s₁ (mkF m 3 #[vI 16, vI 14, vI 18, vU] [.int 18, .int 14, .int 16]) (fun _ k => qi X0 hx hby d16_0 rfl rfl (qi X0 hx hby d16_1 rfl rfl (qi X0 hx hby d16_2 rfl rfl k))) ?_
  obtain ⟨_, T1, L1, X1, hQ1, st1⟩ := own_tc X0 hx hZ hown (ow hw 108) (ow hw 109) (rm17_120 l Z a0 hw  h0 n0 OLD ) (ow hw 111) (ow hw 110) e0 (g := (mkF m 3 #[vI 16, vI 14, vI 18, vU] [.int 18, .int 14, .int 16])) rfl (zs hml) (argsL := [.int 14, .int 18]) (rest := [.int 16]) (lenOf pd_10 rfl) rfl (hb hby d16_3) (W := 1) rfl
  obtain ⟨rfl, Nq1, eq1⟩ := hQ1
  have N1 := Fr.app N0 Nq1
  refine og T1 (mkF m 14 #[vI 16, vI 14, vI 18, vI 34] [.int 34]) (fun _ k => st1.trans (qp X1 hx hby d16_6 rfl rfl (XS.istoreN X1.here hx rfl (hb hby d16_7) rfl (l' := #[vI 16, vI 14, vI 18, vI 34]) rfl (qc X1 hx hby d16_8 rfl (qi X1 hx hby d16_9 rfl rfl (qn X1 hx hby d16_10 rfl rfl (tlt (by decide : (0 : Int32) < (34 : Int32))).2.1 (qi X1 hx hby d16_13 rfl rfl k))))))) ?_
  refine og T1 (mkF m 16 #[vI 16, vI 14, vI 18, vI 34] [.int 2147483639, .int 34]) (fun t k => X1.ldcInt hx hown (mvT hZ (ow hw 112)) (g := (mkF m 14 #[vI 16, vI 14, vI 18, vI 34] [.int 34])) rfl (hb hby d16_14) t k) ?_
  refine og T1 (mkF m 20 #[vI 16, vI 14, vI 18, vI 34] [.int 34]) (fun _ k => qn X1 hx hby d16_16 rfl rfl (flt (by decide : ¬ ((2147483639 : Int32) < (34 : Int32)))).2.2.1 (qi X1 hx hby d16_19 rfl rfl k)) ?_
  exact own_leaveN X1 hlk (v := some (.int 34)) (own_nr hret) (lb rfl) (lb rfl) (by rw [eq1]; exact ⟨rfl, N1, rfl⟩) (fun fs hr => retI X1 hx hret (hb hby d16_20) hr)
abbrev R15_118 : Room := { frames := 2, cells := 0, slots := 0, locals := 29 }
def Q15_118 (Z : State) (ra0 ra1 : Addr) (kc2 : ClassId) (cs3 : List Int32) (h0 : Heap) (n0 : Nat) (v : Option Value) (h : Heap) (L : List Loc) : Prop := (v = some (.int 34) ∧ Fr n0 L ∧ h = h0)
theorem rm15_118 l Z a0 (hw : HW Z a0) ra0 ra1 kc2 (cs3 : List Int32) h0 n0 (OLD : Old Z n0 h0) (A' : Exa Z h0 ra0 cN3) (B' : Fld Z h0 ra0 cN0 "coder" "B" (.int 0)) (C' : Fld Z h0 ra0 cN0 "count" "I" (.int 15)) (D' : Fld Z h0 ra0 cN0 "value" "[B" (.ref ra1)) (E' : cs3.length = 15) (F' : own_L cs3) (G' : Arv Z h0 ra1 kc2 .byte (16 : Int32) (own_by cs3) (.int 0)) :
    own_CN l Z y13 jdk_68_method_10_code 6 (some .int) [] R15_118 #[.ref ra0, .int 30] h0 (Q15_118 Z ra0 ra1 kc2 cs3 h0 n0) := by
  refine own_entryN (plainFor_of_name pn_1) fun p e s m below meth c s₁ hx hby hml hown hnm hret hlk hZ hh X0 e0 => ?_
  have N0 := Fr.nil n0
  rw [ef_15_118 m ra0]
  refine og s₁ (mkF m 1 #[vR ra0, vI 30, vU, vU, vU, vU] [.ref ra0]) (fun _ k => qa X0 hx hby d15_0 rfl rfl rfl k) ?_
  obtain ⟨T1, X1, e1, st1⟩ := qf X0 hx hZ hown (ow hw 45) e0 D' (g := (mkF m 1 #[vR ra0, vI 30, vU, vU, vU, vU] [.ref ra0])) rfl rfl hby d15_1
  refine og T1 (mkF m 4 #[vR ra0, vI 30, vU, vU, vU, vU] [.ref ra1]) st1 ?_
  obtain ⟨cl2, Ar2, -, Sr2, Nr2, -, -⟩ := id G'
  refine og T1 (mkF m 5 #[vR ra0, vI 30, vU, vU, vU, vU] [.int 16]) (fun t k => X1.arraylength hx (by rw [e1]; exact Ar2.1) (State.isArrayOf_alike hZ.alike Ar2.2.1) (g := (mkF m 4 #[vR ra0, vI 30, vU, vU, vU, vU] [.ref ra1])) rfl rfl (hb hby d15_4) t (by rw [len_of Sr2 Nr2]; exact k)) ?_
  refine og T1 (mkF m 8 #[vR ra0, vI 30, vI 16, vU, vU, vU] [.ref ra0, .int 30]) (fun _ k => XS.istoreN X1.here hx rfl (hb hby d15_5) rfl (l' := #[vR ra0, vI 30, vI 16, vU, vU, vU]) rfl (qi X1 hx hby d15_6 rfl rfl (qa X1 hx hby d15_7 rfl rfl rfl k))) ?_
  obtain ⟨T3, X3, e3, st3⟩ := qf X1 hx hZ hown (ow hw 47) e1 B' (g := (mkF m 8 #[vR ra0, vI 30, vI 16, vU, vU, vU] [.ref ra0, .int 30])) rfl rfl hby d15_8
  refine og T3 (mkF m 12 #[vR ra0, vI 30, vI 16, vU, vU, vU] [.int 30]) (fun _ k => st3 _ (XS.ishl X3.here hx rfl (hb hby d15_11) rfl (by rw [show ((30 : Int32) <<< ((0 : Int32) &&& 31)) = (30 : Int32) from by decide]; exact k))) ?_
  refine og T3 (mkF m 24 #[vR ra0, vI 30, vI 16, vI 30, vI 14, vU] [.ref ra0, .int 2, .int 16, .int 14, .int 16]) (fun _ k => XS.istoreN X3.here hx rfl (hb hby d15_12) rfl (l' := #[vR ra0, vI 30, vI 16, vI 30, vU, vU]) rfl (qi X3 hx hby d15_13 rfl rfl (qi X3 hx hby d15_14 rfl rfl (XS.isub X3.here hx rfl (hb hby d15_15) rfl (XS.istore X3.here hx rfl (hb hby d15_16) rfl (l' := #[vR ra0, vI 30, vI 16, vI 30, vI 14, vU]) rfl (qi X3 hx hby d15_18 rfl rfl (XS.iload X3.here hx rfl (hb hby d15_19) rfl (qi X3 hx hby d15_21 rfl rfl (qc X3 hx hby d15_22 rfl (qa X3 hx hby d15_23 rfl rfl rfl k)))))))))) ?_
  obtain ⟨T4, X4, e4, st4⟩ := qf X3 hx hZ hown (ow hw 47) e3 B' (g := (mkF m 24 #[vR ra0, vI 30, vI 16, vI 30, vI 14, vU] [.ref ra0, .int 2, .int 16, .int 14, .int 16])) rfl rfl hby d15_24
  refine og T4 (mkF m 28 #[vR ra0, vI 30, vI 16, vI 30, vI 14, vU] [.int 2, .int 16, .int 14, .int 16]) (fun _ k => st4 _ (XS.ishl X4.here hx rfl (hb hby d15_27) rfl (by rw [show ((2 : Int32) <<< ((0 : Int32) &&& 31)) = (2 : Int32) from by decide]; exact k))) ?_
  refine og T4 (mkF m 29 #[vR ra0, vI 30, vI 16, vI 30, vI 14, vU] [.int 18, .int 14, .int 16]) (fun _ k => qp X4 hx hby d15_28 rfl rfl k) ?_
  obtain ⟨_, T5, L5, X5, hQ5, st5⟩ := own_tc X4 hx hZ hown (ow hw 104) (ow hw 105) (rm16_119 l Z a0 hw  h0 n0 OLD ) (ow hw 107) (ow hw 106) e4 (g := (mkF m 29 #[vR ra0, vI 30, vI 16, vI 30, vI 14, vU] [.int 18, .int 14, .int 16])) rfl (zs hml) (argsL := [.int 16, .int 14, .int 18]) (rest := []) (lenOf pd_11 rfl) rfl (hb hby d15_29) (W := 0) rfl
  obtain ⟨rfl, Nq5, eq5⟩ := hQ5
  have N5 := Fr.app N0 Nq5
  refine og T5 (mkF m 36 #[vR ra0, vI 30, vI 16, vI 30, vI 14, vI 34] [.int 34]) (fun _ k => st5.trans (XS.istore X5.here hx rfl (hb hby d15_32) rfl (l' := #[vR ra0, vI 30, vI 16, vI 30, vI 14, vI 34]) rfl (XS.iload X5.here hx rfl (hb hby d15_34) rfl k))) ?_
  refine og T5 (mkF m 38 #[vR ra0, vI 30, vI 16, vI 30, vI 14, vI 34] [.int 2147483647, .int 34]) (fun t k => X5.ldcInt hx hown (mvT hZ (ow hw 113)) (g := (mkF m 36 #[vR ra0, vI 30, vI 16, vI 30, vI 14, vI 34] [.int 34])) rfl (hb hby d15_36) t k) ?_
  refine og T5 (mkF m 54 #[vR ra0, vI 30, vI 16, vI 30, vI 14, vI 34] [.ref ra0, .int 34]) (fun _ k => XS.icmpYes X5.here hx rfl (pc0 := 38) (pc' := 51) rfl (hb hby d15_38) rfl (feq (by decide : ¬ ((34 : Int32) = (2147483647 : Int32)))).2 (by decide) (by decide) (XS.iload X5.here hx rfl (hb hby d15_51) rfl (qa X5 hx hby d15_53 rfl rfl rfl k))) ?_
  obtain ⟨T6, X6, e6, st6⟩ := qf X5 hx hZ hown (ow hw 47) eq5 B' (g := (mkF m 54 #[vR ra0, vI 30, vI 16, vI 30, vI 14, vI 34] [.ref ra0, .int 34])) rfl rfl hby d15_54
  refine og T6 (mkF m 58 #[vR ra0, vI 30, vI 16, vI 30, vI 14, vI 34] [.int 34]) (fun _ k => st6 _ (XS.ishr X6.here hx rfl (hb hby d15_57) rfl (by rw [show ((34 : Int32) >>> ((0 : Int32) &&& 31)) = (34 : Int32) from by decide]; exact k))) ?_
  exact own_leaveN X6 hlk (v := some (.int 34)) (own_nr hret) (lb rfl) (lb rfl) (by rw [e6]; exact ⟨rfl, N5, rfl⟩) (fun fs hr => retI X6 hx hret (hb hby d15_58) hr)
abbrev R18_121 : Room := { frames := 1, cells := 1, slots := 34, locals := 18 }
def Q18_121 (Z : State) (ra0 : Addr) (kc1 : ClassId) (cs2 : List Int32) (h0 : Heap) (n0 : Nat) (v : Option Value) (h : Heap) (L : List Loc) : Prop := (∃ (b2 : Addr) (k2 : ClassId), v = some (.ref b2) ∧ Fr n0 L ∧ Keep h0 h [] ∧ h0.size ≤ b2 ∧ Arv Z h b2 k2 .byte (34 : Int32) (own_by cs2) (.int 0))
theorem rm18_121 l Z a0 (hw : HW Z a0) ra0 kc1 (cs2 : List Int32) h0 n0 (OLD : Old Z n0 h0) (A' : cs2.length = 15) (B' : own_L cs2) (C' : Arv Z h0 ra0 kc1 .byte (16 : Int32) (own_by cs2) (.int 0)) :
    own_CN l Z y15 jdk_65_method_121_code 3 (some (.array .byte)) [] R18_121 #[.ref ra0, .int 34] h0 (Q18_121 Z ra0 kc1 cs2 h0 n0) := by
  refine own_entryN (plainFor_of_name pn_4) fun p e s m below meth c s₁ hx hby hml hown hnm hret hlk hZ hh X0 e0 => ?_
  have N0 := Fr.nil n0
  rw [ef_18_28 m ra0]
  refine og s₁ (mkF m 2 #[vR ra0, vI 34, vU] [.ref ra0, .int 34]) (fun _ k => qi X0 hx hby d18_0 rfl rfl (qa X0 hx hby d18_1 rfl rfl rfl k)) ?_
  obtain ⟨cl1, Ar1, -, Sr1, Nr1, -, -⟩ := id C'
  refine og s₁ (mkF m 3 #[vR ra0, vI 34, vU] [.int 16, .int 34]) (fun t k => X0.arraylength hx (by rw [e0]; exact Ar1.1) (State.isArrayOf_alike hZ.alike Ar1.2.1) (g := (mkF m 2 #[vR ra0, vI 34, vU] [.ref ra0, .int 34])) rfl rfl (hb hby d18_2) t (by rw [len_of Sr1 Nr1]; exact k)) ?_
  refine og s₁ (mkF m 15 #[vR ra0, vI 34, vU] [.int 34]) (fun _ k => XS.icmpYes X0.here hx rfl (pc0 := 3) (pc' := 14) rfl (hb hby d18_3) rfl (feq (by decide : ¬ ((34 : Int32) = (16 : Int32)))).2 (by decide) (by decide) (qi X0 hx hby d18_14 rfl rfl k)) ?_
  obtain ⟨T2, h2, k2, X2, e2, E2, A2, st2⟩ := newP X0 hx hZ (ow hw 15) e0 (g := (mkF m 15 #[vR ra0, vI 34, vU] [.int 34])) rfl (hb hby d18_15) rfl (by decide) (cap := 34) (by decide) (lb rfl) (lb rfl) (lb rfl)
  obtain ⟨b2, gb2⟩ : ∃ z, z = h0.size := ⟨_, rfl⟩
  rw [← gb2] at A2 st2
  have g3 : n0 ≤ b2 := Nat.le_trans (own_osz OLD) (Nat.le_of_eq gb2.symm)
  have z4 : h0.size ≤ b2 := Nat.le_trans (Nat.le_refl _) (Nat.le_of_eq gb2.symm)
  have V2 : Arv Z h2 b2 k2 .byte (34 : Int32) (own_by ([] : List Int32)) (.int 0) := Arv.new A2 (by decide)
  refine og T2 (mkF m 23 #[vR ra0, vI 34, vR b2] [.ref ra0, .int 0, .ref b2, .int 0, .ref ra0]) (fun _ k => st2 _ (XS.astoreN X2.here hx rfl (hb hby d18_17) rfl rfl (l' := #[vR ra0, vI 34, vR b2]) rfl (qa X2 hx hby d18_18 rfl rfl rfl (qc X2 hx hby d18_19 rfl (qa X2 hx hby d18_20 rfl rfl rfl (qc X2 hx hby d18_21 rfl (qa X2 hx hby d18_22 rfl rfl rfl k))))))) ?_
  have F5 := (C'.ext E2)
  obtain ⟨cl6, Ar6, -, Sr6, Nr6, -, -⟩ := id F5
  refine og T2 (mkF m 24 #[vR ra0, vI 34, vR b2] [.int 16, .int 0, .ref b2, .int 0, .ref ra0]) (fun t k => X2.arraylength hx (by rw [e2]; exact Ar6.1) (State.isArrayOf_alike hZ.alike Ar6.2.1) (g := (mkF m 23 #[vR ra0, vI 34, vR b2] [.ref ra0, .int 0, .ref b2, .int 0, .ref ra0])) rfl rfl (hb hby d18_23) t (by rw [len_of Sr6 Nr6]; exact k)) ?_
  refine og T2 (mkF m 25 #[vR ra0, vI 34, vR b2] [.int 34, .int 16, .int 0, .ref b2, .int 0, .ref ra0]) (fun _ k => qi X2 hx hby d18_24 rfl rfl k) ?_
  have F7 := (OLD.ext E2)
  obtain ⟨_, T8, L8, X8, hQ8, st8⟩ := own_tc X2 hx hZ hown (ow hw 118) (ow hw 119) (rm19_29 l Z a0 hw  h2 n0 F7 ) (ow hw 120) (ow hw 110) e2 (g := (mkF m 25 #[vR ra0, vI 34, vR b2] [.int 34, .int 16, .int 0, .ref b2, .int 0, .ref ra0])) rfl (zs hml) (argsL := [.int 16, .int 34]) (rest := [.int 0, .ref b2, .int 0, .ref ra0]) (lenOf pd_10 rfl) rfl (hb hby d18_25) (W := 4) rfl
  obtain ⟨rfl, Nq8, eq8⟩ := hQ8
  have N8 := Fr.app N0 Nq8
  refine ot T8 (mkF m 28 #[vR ra0, vI 34, vR b2] [.int 16, .int 0, .ref b2, .int 0, .ref ra0]) st8 ?_
  obtain ⟨T9, h9, L9, X9, e9, N9, K9, Vq9, st9⟩ := own_cpB X8 hx hZ hown (ow hw 121) (ow hw 97) (ow hw 95) (ow hw 96) eq8 F5 V2 (sp := (0 : Int32)) (dp := (0 : Int32)) (nn := (16 : Int32)) rfl (by decide) (by decide) (by decide) (by decide) (show _ = _ from rfl) ((Eq.symm A') ▸ lb rfl) N8 g3 (g := (mkF m 28 #[vR ra0, vI 34, vR b2] [.int 16, .int 0, .ref b2, .int 0, .ref ra0])) rfl (zs hml) rfl (hb hby d18_28) (lb rfl) (W := 0) (lb rfl) (lb rfl)
  have V9 : Arv Z h9 b2 k2 .byte (34 : Int32) (own_by cs2) (.int 0) := (by simpa using Vq9)
  refine og T9 (mkF m 32 #[vR ra0, vI 34, vR b2] [.ref b2]) (fun _ k => st9 _ (qa X9 hx hby d18_31 rfl rfl rfl k)) ?_
  have KEEP := (((Keep.refl h0 []).ext E2).trans K9 (allS (Or.inr z4) all0))
  exact own_leaveN X9 hlk (v := some (.ref b2)) (own_nr hret) (lb rfl) (lb rfl) (by rw [e9]; exact ⟨b2, k2, rfl, N9, KEEP, z4, V9⟩) (own_ra X9 hx hret rfl rfl rfl (hb hby d18_32))
abbrev R11_117 : Room := { frames := 3, cells := 1, slots := 34, locals := 48 }
def Q11_117 (Z : State) (ra0 ra1 : Addr) (kc2 : ClassId) (cs3 : List Int32) (h0 : Heap) (n0 : Nat) (v : Option Value) (h : Heap) (L : List Loc) : Prop := (∃ (o8 : Addr) (kc9 : ClassId), v = none ∧ Fr n0 L ∧ Keep h0 h [ra0] ∧ h0.size ≤ o8 ∧ Fld Z h ra0 cN0 "coder" "B" (.int 0) ∧ Fld Z h ra0 cN0 "count" "I" (.int 15) ∧ Fld Z h ra0 cN0 "value" "[B" (.ref o8) ∧ Arv Z h o8 kc9 .byte (34 : Int32) (own_by cs3) (.int 0))
theorem rm11_117 l Z a0 (hw : HW Z a0) ra0 ra1 kc2 (cs3 : List Int32) h0 n0 (OLD : Old Z n0 h0) (A' : Exa Z h0 ra0 cN3) (B' : Fld Z h0 ra0 cN0 "coder" "B" (.int 0)) (C' : Fld Z h0 ra0 cN0 "count" "I" (.int 15)) (D' : Fld Z h0 ra0 cN0 "value" "[B" (.ref ra1)) (E' : cs3.length = 15) (F' : own_L cs3) (G' : Arv Z h0 ra1 kc2 .byte (16 : Int32) (own_by cs3) (.int 0)) (H' : n0 ≤ ra0) :
    own_CN l Z y4 jdk_68_method_9_code 3 none [] R11_117 #[.ref ra0, .int 30] h0 (Q11_117 Z ra0 ra1 kc2 cs3 h0 n0) := by
  refine own_entryN (plainFor_of_name pn_1) fun p e s m below meth c s₁ hx hby hml hown hnm hret hlk hZ hh X0 e0 => ?_
  have N0 := Fr.nil n0
  rw [ef_11_117 m ra0]
  refine og s₁ (mkF m 1 #[vR ra0, vI 30, vU] [.ref ra0]) (fun _ k => qa X0 hx hby d11_0 rfl rfl rfl k) ?_
  obtain ⟨T1, X1, e1, st1⟩ := qf X0 hx hZ hown (ow hw 45) e0 D' (g := (mkF m 1 #[vR ra0, vI 30, vU] [.ref ra0])) rfl rfl hby d11_1
  refine og T1 (mkF m 4 #[vR ra0, vI 30, vU] [.ref ra1]) st1 ?_
  obtain ⟨cl2, Ar2, -, Sr2, Nr2, -, -⟩ := id G'
  refine og T1 (mkF m 5 #[vR ra0, vI 30, vU] [.int 16]) (fun t k => X1.arraylength hx (by rw [e1]; exact Ar2.1) (State.isArrayOf_alike hZ.alike Ar2.2.1) (g := (mkF m 4 #[vR ra0, vI 30, vU] [.ref ra1])) rfl rfl (hb hby d11_4) t (by rw [len_of Sr2 Nr2]; exact k)) ?_
  refine og T1 (mkF m 6 #[vR ra0, vI 30, vU] [.ref ra0, .int 16]) (fun _ k => qa X1 hx hby d11_5 rfl rfl rfl k) ?_
  obtain ⟨T3, X3, e3, st3⟩ := qf X1 hx hZ hown (ow hw 47) e1 B' (g := (mkF m 6 #[vR ra0, vI 30, vU] [.ref ra0, .int 16])) rfl rfl hby d11_6
  refine og T3 (mkF m 10 #[vR ra0, vI 30, vU] [.int 16]) (fun _ k => st3 _ (XS.ishr X3.here hx rfl (hb hby d11_9) rfl (by rw [show ((16 : Int32) >>> ((0 : Int32) &&& 31)) = (16 : Int32) from by decide]; exact k))) ?_
  refine og T3 (mkF m 19 #[vR ra0, vI 30, vI 16] [.ref ra0, .ref ra0]) (fun _ k => XS.istoreN X3.here hx rfl (hb hby d11_10) rfl (l' := #[vR ra0, vI 30, vI 16]) rfl (qi X3 hx hby d11_11 rfl rfl (qi X3 hx hby d11_12 rfl rfl (XS.isub X3.here hx rfl (hb hby d11_13) rfl (XS.ifNo X3.here hx rfl (hb hby d11_14) rfl ((if0 _ _).trans (tlt (by decide : (0 : Int32) < (14 : Int32))).2.2.2) (qa X3 hx hby d11_17 rfl rfl rfl (qa X3 hx hby d11_18 rfl rfl rfl k))))))) ?_
  obtain ⟨T4, X4, e4, st4⟩ := qf X3 hx hZ hown (ow hw 45) e3 D' (g := (mkF m 19 #[vR ra0, vI 30, vI 16] [.ref ra0, .ref ra0])) rfl rfl hby d11_19
  refine og T4 (mkF m 24 #[vR ra0, vI 30, vI 16] [.int 30, .ref ra0, .ref ra1, .ref ra0]) (fun _ k => st4 _ (qa X4 hx hby d11_22 rfl rfl rfl (qi X4 hx hby d11_23 rfl rfl k))) ?_
  obtain ⟨_, T5, L5, X5, hQ5, st5⟩ := own_pc X4 hx hZ hown (ow hw 99) (ow hw 102) (ow hw 100) (ow hw 101) A' (rm15_118 l Z a0 hw ra0 ra1 kc2 cs3 h0 n0 OLD A' B' C' D' E' F' G') (ow hw 103) (ow hw 41) e4 (g := (mkF m 24 #[vR ra0, vI 30, vI 16] [.int 30, .ref ra0, .ref ra1, .ref ra0])) rfl (zs hml) (argsL := [.int 30]) (rest := [.ref ra1, .ref ra0]) (lenOf pd_12 rfl) rfl (hb hby d11_24) (W := 2) rfl
  obtain ⟨rfl, Nq5, eq5⟩ := hQ5
  have N5 := Fr.app N0 Nq5
  refine og T5 (mkF m 28 #[vR ra0, vI 30, vI 16] [.ref ra0, .int 34, .ref ra1, .ref ra0]) (fun _ k => st5.trans (qa X5 hx hby d11_27 rfl rfl rfl k)) ?_
  obtain ⟨T6, X6, e6, st6⟩ := qf X5 hx hZ hown (ow hw 47) eq5 B' (g := (mkF m 28 #[vR ra0, vI 30, vI 16] [.ref ra0, .int 34, .ref ra1, .ref ra0])) rfl rfl hby d11_28
  refine og T6 (mkF m 32 #[vR ra0, vI 30, vI 16] [.int 34, .ref ra1, .ref ra0]) (fun _ k => st6 _ (XS.ishl X6.here hx rfl (hb hby d11_31) rfl (by rw [show ((34 : Int32) <<< ((0 : Int32) &&& 31)) = (34 : Int32) from by decide]; exact k))) ?_
  obtain ⟨_, T7, L7, X7, hQ7, st7⟩ := own_tc X6 hx hZ hown (ow hw 114) (ow hw 115) (rm18_121 l Z a0 hw ra1 kc2 cs3 h0 n0 OLD E' F' G') (ow hw 117) (ow hw 116) e6 (g := (mkF m 32 #[vR ra0, vI 30, vI 16] [.int 34, .ref ra1, .ref ra0])) rfl (zs hml) (argsL := [.ref ra1, .int 34]) (rest := [.ref ra0]) (lenOf pd_13 rfl) rfl (hb hby d11_32) (W := 1) rfl
  obtain ⟨o8, kc9, rfl, Nq7, K7, f10, f11⟩ := hQ7
  have N7 := Fr.app N5 Nq7
  have g12 : n0 ≤ o8 := Nat.le_trans (own_osz OLD) f10
  have z13 : h0.size ≤ o8 := Nat.le_trans (Nat.le_refl _) f10
  refine ot T7 (mkF m 35 #[vR ra0, vI 30, vI 16] [.ref o8, .ref ra0]) st7 ?_
  have F14 := (A'.keep K7)
  have F15 := (D'.keep K7 nin0)
  obtain ⟨T16, h16, X16, e16, W16, st16⟩ := putF X7 hx hZ hown (host := "") (Or.inl (ow hw 45)) Via.refl rfl F15 F14 (Or.inl (ow hw 46)) (ow hw 32) (ty := (.array .byte)) (by decide) rfl rfl (g := (mkF m 35 #[vR ra0, vI 30, vI 16] [.ref o8, .ref ra0])) rfl rfl (hb hby d11_35)
  have Fw16 := F15.same W16
  have N16 := Fr.snoc X16 N7 H'
  refine og T16 (mkF m 38 #[vR ra0, vI 30, vI 16] []) st16 ?_
  have F17 := ((B'.keep K7 nin0).other W16 (Or.inr (slot_ne (Or.inl (ow hw 48)) (Or.inl (ow hw 46)) (by decide) (t := .byte) (t' := (.array .byte)) (by decide) (by decide))))
  have F18 := ((C'.keep K7 nin0).other W16 (Or.inr (slot_ne (Or.inl (ow hw 72)) (Or.inl (ow hw 46)) (by decide) (t := .int) (t' := (.array .byte)) (by decide) (by decide))))
  have F19 := (f11.other W16 (Ne.symm (own_ne_lo A'.lt f10)))
  have KEEP := (((Keep.refl h0 [ra0]).trans K7 all0).wr W16 (Or.inl (List.mem_of_getElem? (i := 0) rfl)))
  exact own_leaveN X16 hlk (v := none) (fun _ => rfl) (lb rfl) (lb rfl) (by rw [e16]; exact ⟨o8, kc9, rfl, N16, KEEP, z13, F17, F18, Fw16, F19⟩) (fun fs hr => X16.returnOut hx hret (hb hby d11_38) hr)
abbrev R14_123 : Room := { frames := 1, cells := 0, slots := 0, locals := 18 }
def Q14_123 (Z : State) (ra0 ra1 : Addr) (kc2 : ClassId) (cs3 : List Int32) (ra4 : Addr) (kc5 : ClassId) (cs6 : List Int32) (G1 : Int32) (h0 : Heap) (n0 : Nat) (v : Option Value) (h : Heap) (L : List Loc) : Prop := (v = none ∧ Fr n0 L ∧ Keep h0 h [ra4] ∧ Arv Z h ra4 kc5 .byte (34 : Int32) (own_by (cs6 ++ cs3)) (.int 0))
theorem rm14_123 l Z a0 (hw : HW Z a0) ra0 ra1 kc2 (cs3 : List Int32) ra4 kc5 (cs6 : List Int32) (G1 : Int32) h0 n0 (OLD : Old Z n0 h0) (A' : Exa Z h0 ra0 cN1) (B' : Fld Z h0 ra0 cN1 "coder" "B" (.int 0)) (C' : Fld Z h0 ra0 cN1 "value" "[B" (.ref ra1)) (D' : cs3.length = 15) (E' : own_L cs3) (F' : Arv Z h0 ra1 kc2 .byte (15 : Int32) (own_by cs3) (.int 0)) (G' : cs6.length = 15) (H' : own_L cs6) (I' : Arv Z h0 ra4 kc5 .byte (34 : Int32) (own_by cs6) (.int 0)) (O2 : Sta Z Z.heap cN1 "COMPACT_STRINGS" "Z" (.int G1)) (P5 : ¬ (G1 = (0 : Int32))) (J' : n0 ≤ ra4) :
    own_CN l Z y7 jdk_42_method_147_code 4 none [] R14_123 #[.ref ra0, .ref ra4, .int 15, .int 0] h0 (Q14_123 Z ra0 ra1 kc2 cs3 ra4 kc5 cs6 G1 h0 n0) := by
  refine own_entryN (plainFor_of_name pn_0) fun p e s m below meth c s₁ hx hby hml hown hnm hret hlk hZ hh X0 e0 => ?_
  have N0 := Fr.nil n0
  rw [ef_14_123 m ra0 ra4]
  refine og s₁ (mkF m 1 #[vR ra0, vR ra4, vI 15, vI 0] [.ref ra0]) (fun _ k => qa X0 hx hby d14_0 rfl rfl rfl k) ?_
  obtain ⟨_, T1, L1, X1, hQ1, st1⟩ := own_vc X0 hx hZ hown (ow hw 65) (ow hw 66) (ow hw 68) (ow hw 67) A' (rm10_15 l Z a0 hw ra0 G1 ((0 : Int32)) h0 n0 OLD O2 P5 B') (ow hw 69) (ow hw 2) e0 (g := (mkF m 1 #[vR ra0, vR ra4, vI 15, vI 0] [.ref ra0])) rfl (zs hml) (argsL := []) (rest := []) (lenOf pd_4 rfl) rfl (hb hby d14_1) (W := 0) rfl
  obtain ⟨rfl, Nq1, eq1⟩ := hQ1
  have N1 := Fr.app N0 Nq1
  refine og T1 (mkF m 9 #[vR ra0, vR ra4, vI 15, vI 0] [.ref ra0]) (fun _ k => st1.trans (qi X1 hx hby d14_4 rfl rfl (qn X1 hx hby d14_5 rfl rfl (tq 0) (qa X1 hx hby d14_8 rfl rfl rfl k)))) ?_
  obtain ⟨T2, X2, e2, st2⟩ := qf X1 hx hZ hown (ow hw 20) eq1 C' (g := (mkF m 9 #[vR ra0, vR ra4, vI 15, vI 0] [.ref ra0])) rfl rfl hby d14_9
  refine og T2 (mkF m 16 #[vR ra0, vR ra4, vI 15, vI 0] [.int 0, .int 15, .ref ra4, .int 0, .ref ra1]) (fun _ k => st2 _ (qc X2 hx hby d14_12 rfl (qa X2 hx hby d14_13 rfl rfl rfl (qi X2 hx hby d14_14 rfl rfl (qi X2 hx hby d14_15 rfl rfl k))))) ?_
  refine og T2 (mkF m 17 #[vR ra0, vR ra4, vI 15, vI 0] [.int 15, .ref ra4, .int 0, .ref ra1]) (fun _ k => XS.ishl X2.here hx rfl (hb hby d14_16) rfl (by rw [show ((15 : Int32) <<< ((0 : Int32) &&& 31)) = (15 : Int32) from by decide]; exact k)) ?_
  refine og T2 (mkF m 18 #[vR ra0, vR ra4, vI 15, vI 0] [.ref ra0, .int 15, .ref ra4, .int 0, .ref ra1]) (fun _ k => qa X2 hx hby d14_17 rfl rfl rfl k) ?_
  obtain ⟨T3, X3, e3, st3⟩ := qf X2 hx hZ hown (ow hw 20) e2 C' (g := (mkF m 18 #[vR ra0, vR ra4, vI 15, vI 0] [.ref ra0, .int 15, .ref ra4, .int 0, .ref ra1])) rfl rfl hby d14_18
  refine og T3 (mkF m 21 #[vR ra0, vR ra4, vI 15, vI 0] [.ref ra1, .int 15, .ref ra4, .int 0, .ref ra1]) st3 ?_
  obtain ⟨cl4, Ar4, -, Sr4, Nr4, -, -⟩ := id F'
  refine og T3 (mkF m 22 #[vR ra0, vR ra4, vI 15, vI 0] [.int 15, .int 15, .ref ra4, .int 0, .ref ra1]) (fun t k => X3.arraylength hx (by rw [e3]; exact Ar4.1) (State.isArrayOf_alike hZ.alike Ar4.2.1) (g := (mkF m 21 #[vR ra0, vR ra4, vI 15, vI 0] [.ref ra1, .int 15, .ref ra4, .int 0, .ref ra1])) rfl rfl (hb hby d14_21) t (by rw [len_of Sr4 Nr4]; exact k)) ?_
  obtain ⟨T5, h5, L5, X5, e5, N5, K5, Vq5, st5⟩ := own_cpB X3 hx hZ hown (ow hw 94) (ow hw 97) (ow hw 95) (ow hw 96) e3 F' I' (sp := (0 : Int32)) (dp := (15 : Int32)) (nn := (15 : Int32)) rfl (by decide) (by decide) (by decide) (by decide) (show _ = _ from G') ((Eq.symm D') ▸ lb rfl) N1 J' (g := (mkF m 22 #[vR ra0, vR ra4, vI 15, vI 0] [.int 15, .int 15, .ref ra4, .int 0, .ref ra1])) rfl (zs hml) rfl (hb hby d14_22) (lb rfl) (W := 0) (lb rfl) (lb rfl)
  have V5 : Arv Z h5 ra4 kc5 .byte (34 : Int32) (own_by (cs6 ++ cs3)) (.int 0) := Vq5
  refine og T5 (mkF m 43 #[vR ra0, vR ra4, vI 15, vI 0] []) (fun _ k => st5 _ (XS.goto X5.here hx rfl (pc0 := 25) (pc' := 43) rfl (hb hby d14_25) (by decide) (by decide) k)) ?_
  have KEEP := ((Keep.refl h0 [ra4]).trans K5 (allS (Or.inl (List.mem_of_getElem? (i := 0) rfl)) all0))
  exact own_leaveN X5 hlk (v := none) (fun _ => rfl) (lb rfl) (lb rfl) (by rw [e5]; exact ⟨rfl, N5, KEEP, V5⟩) (fun fs hr => X5.returnOut hx hret (hb hby d14_43) hr)
abbrev R12_122 : Room := { frames := 2, cells := 0, slots := 0, locals := 33 }
def Q12_122 (Z : State) (ra0 ra1 : Addr) (kc2 : ClassId) (cs3 : List Int32) (ra4 ra5 : Addr) (kc6 : ClassId) (cs7 : List Int32) (G1 : Int32) (h0 : Heap) (n0 : Nat) (v : Option Value) (h : Heap) (L : List Loc) : Prop := (v = none ∧ Fr n0 L ∧ Keep h0 h [ra1] ∧ Arv Z h ra1 kc2 .byte (34 : Int32) (own_by (cs3 ++ cs7)) (.int 0))
theorem rm12_122 l Z a0 (hw : HW Z a0) ra0 ra1 kc2 (cs3 : List Int32) ra4 ra5 kc6 (cs7 : List Int32) (G1 : Int32) h0 n0 (OLD : Old Z n0 h0) (A' : Exa Z h0 ra0 cN3) (B' : Fld Z h0 ra0 cN0 "coder" "B" (.int 0)) (C' : Fld Z h0 ra0 cN0 "count" "I" (.int 15)) (D' : Fld Z h0 ra0 cN0 "value" "[B" (.ref ra1)) (E' : cs3.length = 15) (F' : own_L cs3) (G' : Arv Z h0 ra1 kc2 .byte (34 : Int32) (own_by cs3) (.int 0)) (H' : Exa Z h0 ra4 cN1) (I' : Fld Z h0 ra4 cN1 "coder" "B" (.int 0)) (J' : Fld Z h0 ra4 cN1 "value" "[B" (.ref ra5)) (K' : cs7.length = 15) (L' : own_L cs7) (M' : Arv Z h0 ra5 kc6 .byte (15 : Int32) (own_by cs7) (.int 0)) (O2 : Sta Z Z.heap cN1 "COMPACT_STRINGS" "Z" (.int G1)) (P5 : ¬ (G1 = (0 : Int32))) (N' : n0 ≤ ra1) :
    own_CN l Z y8 jdk_68_method_73_code 3 none [] R12_122 #[.ref ra0, .int 15, .ref ra4] h0 (Q12_122 Z ra0 ra1 kc2 cs3 ra4 ra5 kc6 cs7 G1 h0 n0) := by
  refine own_entryN (plainFor_of_name pn_1) fun p e s m below meth c s₁ hx hby hml hown hnm hret hlk hZ hh X0 e0 => ?_
  have N0 := Fr.nil n0
  rw [ef_12_122 m ra0 ra4]
  refine og s₁ (mkF m 2 #[vR ra0, vI 15, vR ra4] [.ref ra4, .ref ra0]) (fun _ k => qa X0 hx hby d12_0 rfl rfl rfl (qa X0 hx hby d12_1 rfl rfl rfl k)) ?_
  obtain ⟨_, T1, L1, X1, hQ1, st1⟩ := own_pc X0 hx hZ hown (ow hw 83) (ow hw 86) (ow hw 84) (ow hw 85) A' (rm13_14 l Z a0 hw ra0 ra4 G1 ((0 : Int32)) ((0 : Int32)) h0 n0 OLD O2 P5 B' I' H' (by decide : (0 : Int32) = (0 : Int32))) (ow hw 87) (ow hw 41) e0 (g := (mkF m 2 #[vR ra0, vI 15, vR ra4] [.ref ra4, .ref ra0])) rfl (zs hml) (argsL := [.ref ra4]) (rest := []) (lenOf pd_5 rfl) rfl (hb hby d12_2) (W := 0) rfl
  obtain ⟨rfl, Nq1, eq1⟩ := hQ1
  have N1 := Fr.app N0 Nq1
  refine og T1 (mkF m 7 #[vR ra0, vI 15, vR ra4] [.ref ra0, .ref ra4]) (fun _ k => st1.trans (qa X1 hx hby d12_5 rfl rfl rfl (qa X1 hx hby d12_6 rfl rfl rfl k))) ?_
  obtain ⟨T2, X2, e2, st2⟩ := qf X1 hx hZ hown (ow hw 45) eq1 D' (g := (mkF m 7 #[vR ra0, vI 15, vR ra4] [.ref ra0, .ref ra4])) rfl rfl hby d12_7
  refine og T2 (mkF m 12 #[vR ra0, vI 15, vR ra4] [.ref ra0, .int 15, .ref ra1, .ref ra4]) (fun _ k => st2 _ (qi X2 hx hby d12_10 rfl rfl (qa X2 hx hby d12_11 rfl rfl rfl k))) ?_
  obtain ⟨T3, X3, e3, st3⟩ := qf X2 hx hZ hown (ow hw 47) e2 B' (g := (mkF m 12 #[vR ra0, vI 15, vR ra4] [.ref ra0, .int 15, .ref ra1, .ref ra4])) rfl rfl hby d12_12
  refine og T3 (mkF m 15 #[vR ra0, vI 15, vR ra4] [.int 0, .int 15, .ref ra1, .ref ra4]) st3 ?_
  obtain ⟨_, T4, L4, X4, hQ4, st4⟩ := own_vc X3 hx hZ hown (ow hw 89) (ow hw 90) (ow hw 92) (ow hw 91) H' (rm14_123 l Z a0 hw ra4 ra5 kc6 cs7 ra1 kc2 cs3 G1 h0 n0 OLD H' I' J' K' L' M' E' F' G' O2 P5 N') (ow hw 93) (ow hw 2) e3 (g := (mkF m 15 #[vR ra0, vI 15, vR ra4] [.int 0, .int 15, .ref ra1, .ref ra4])) rfl (zs hml) (argsL := [.ref ra1, .int 15, .int 0]) (rest := []) (lenOf pd_6 rfl) rfl (hb hby d12_15) (W := 0) rfl
  obtain ⟨rfl, Nq4, K4, f5⟩ := hQ4
  have N4 := Fr.app N1 Nq4
  refine ot T4 (mkF m 18 #[vR ra0, vI 15, vR ra4] []) st4 ?_
  have KEEP := ((Keep.refl h0 [ra1]).trans K4 (allS (Or.inl (List.mem_of_getElem? (i := 0) rfl)) all0))
  exact own_leaveN X4 hlk (v := none) (fun _ => rfl) (lb rfl) (lb rfl) (by exact ⟨rfl, N4, KEEP, f5⟩) (fun fs hr => X4.returnOut hx hret (hb hby d12_18) hr)
abbrev R8_116 : Room := { frames := 4, cells := 1, slots := 34, locals := 62 }
def Q8_116 (Z : State) (ra0 ra1 : Addr) (kc2 : ClassId) (cs3 : List Int32) (ra4 ra5 : Addr) (kc6 : ClassId) (cs7 : List Int32) (G1 : Int32) (h0 : Heap) (n0 : Nat) (v : Option Value) (h : Heap) (L : List Loc) : Prop := (∃ (o4 : Addr) (kc5 : ClassId), v = some (.ref ra0) ∧ Fr n0 L ∧ Keep h0 h [ra0] ∧ h0.size ≤ o4 ∧ Fld Z h ra0 cN0 "coder" "B" (.int 0) ∧ Fld Z h ra0 cN0 "count" "I" (.int 30) ∧ Fld Z h ra0 cN0 "value" "[B" (.ref o4) ∧ Arv Z h o4 kc5 .byte (34 : Int32) (own_by (cs3 ++ cs7)) (.int 0))
theorem rm8_116 l Z a0 (hw : HW Z a0) ra0 ra1 kc2 (cs3 : List Int32) ra4 ra5 kc6 (cs7 : List Int32) (G1 : Int32) h0 n0 (OLD : Old Z n0 h0) (A' : Exa Z h0 ra0 cN3) (B' : Fld Z h0 ra0 cN0 "coder" "B" (.int 0)) (C' : Fld Z h0 ra0 cN0 "count" "I" (.int 15)) (D' : Fld Z h0 ra0 cN0 "value" "[B" (.ref ra1)) (E' : cs3.length = 15) (F' : own_L cs3) (G' : Arv Z h0 ra1 kc2 .byte (16 : Int32) (own_by cs3) (.int 0)) (H' : Exa Z h0 ra4 cN1) (I' : Fld Z h0 ra4 cN1 "coder" "B" (.int 0)) (J' : Fld Z h0 ra4 cN1 "value" "[B" (.ref ra5)) (K' : cs7.length = 15) (L' : own_L cs7) (M' : Arv Z h0 ra5 kc6 .byte (15 : Int32) (own_by cs7) (.int 0)) (O2 : Sta Z Z.heap cN1 "COMPACT_STRINGS" "Z" (.int G1)) (P5 : ¬ (G1 = (0 : Int32))) (N' : n0 ≤ ra0) (ne_ra4_ra0 : ra4 ≠ ra0) (ne_ra5_ra0 : ra5 ≠ ra0) :
    own_CN l Z y9 jdk_68_method_22_code 3 (some (.object cN0)) [] R8_116 #[.ref ra0, .ref ra4] h0 (Q8_116 Z ra0 ra1 kc2 cs3 ra4 ra5 kc6 cs7 G1 h0 n0) := by
  refine own_entryN (plainFor_of_name pn_1) fun p e s m below meth c s₁ hx hby hml hown hnm hret hlk hZ hh X0 e0 => ?_
  have N0 := Fr.nil n0
  rw [ef_8_11 m ra0 ra4]
  refine og s₁ (mkF m 10 #[vR ra0, vR ra4, vU] [.ref ra4]) (fun _ k => qa X0 hx hby d8_0 rfl rfl rfl (XS.ifnonnullYes X0.here hx rfl (pc0 := 1) (pc' := 9) rfl (hb hby d8_1) rfl (by decide) (by decide) (qa X0 hx hby d8_9 rfl rfl rfl k))) ?_
  obtain ⟨T1, X1, e1, st1⟩ := own_lenA X0 hx hZ hown (ow hw 60) hw H' J' I' M' K' L' e0 (O2.ext OLD.2) P5 (g := (mkF m 10 #[vR ra0, vR ra4, vU] [.ref ra4])) rfl (zs hml) (rest := []) rfl (hb hby d8_10) (W := 0) rfl
  refine og T1 (mkF m 16 #[vR ra0, vR ra4, vI 15] [.ref ra0, .ref ra0]) (fun _ k => st1 _ (XS.istoreN X1.here hx rfl (hb hby d8_13) rfl (l' := #[vR ra0, vR ra4, vI 15]) rfl (qa X1 hx hby d8_14 rfl rfl rfl (qa X1 hx hby d8_15 rfl rfl rfl k)))) ?_
  obtain ⟨T2, X2, e2, st2⟩ := qf X1 hx hZ hown (ow hw 71) e1 C' (g := (mkF m 16 #[vR ra0, vR ra4, vI 15] [.ref ra0, .ref ra0])) rfl rfl hby d8_16
  refine og T2 (mkF m 21 #[vR ra0, vR ra4, vI 15] [.int 30, .ref ra0]) (fun _ k => st2 _ (qi X2 hx hby d8_19 rfl rfl (qp X2 hx hby d8_20 rfl rfl k))) ?_
  obtain ⟨_, T3, L3, X3, hQ3, st3⟩ := own_pc X2 hx hZ hown (ow hw 73) (ow hw 76) (ow hw 74) (ow hw 75) A' (rm11_117 l Z a0 hw ra0 ra1 kc2 cs3 h0 n0 OLD A' B' C' D' E' F' G' N') (ow hw 77) (ow hw 41) e2 (g := (mkF m 21 #[vR ra0, vR ra4, vI 15] [.int 30, .ref ra0])) rfl (zs hml) (argsL := [.int 30]) (rest := []) (lenOf pd_2 rfl) rfl (hb hby d8_21) (W := 0) rfl
  obtain ⟨o4, kc5, rfl, Nq3, K3, f6, f7, f8, f9, f10⟩ := hQ3
  have N3 := Fr.app N0 Nq3
  have g11 : n0 ≤ o4 := Nat.le_trans (own_osz OLD) f6
  have z12 : h0.size ≤ o4 := Nat.le_trans (Nat.le_refl _) f6
  refine og T3 (mkF m 26 #[vR ra0, vR ra4, vI 15] [.ref ra0, .ref ra0]) (fun _ k => st3.trans (qa X3 hx hby d8_24 rfl rfl rfl (qa X3 hx hby d8_25 rfl rfl rfl k))) ?_
  obtain ⟨T13, X13, e13, st13⟩ := qf X3 hx hZ hown (ow hw 71) rfl f8 (g := (mkF m 26 #[vR ra0, vR ra4, vI 15] [.ref ra0, .ref ra0])) rfl rfl hby d8_26
  refine og T13 (mkF m 30 #[vR ra0, vR ra4, vI 15] [.ref ra4, .int 15, .ref ra0]) (fun _ k => st13 _ (qa X13 hx hby d8_29 rfl rfl rfl k)) ?_
  have F14 := (A'.keep K3)
  have F15 := (H'.keep K3)
  have F16 := (I'.keep K3 (ninS ne_ra4_ra0 nin0))
  have F17 := (J'.keep K3 (ninS ne_ra4_ra0 nin0))
  have F18 := (M'.keep K3 (ninS ne_ra5_ra0 nin0))
  have F19 := (OLD.keep K3 (allS N' all0))
  obtain ⟨_, T20, L20, X20, hQ20, st20⟩ := own_pc X13 hx hZ hown (ow hw 78) (ow hw 81) (ow hw 79) (ow hw 80) F14 (rm12_122 l Z a0 hw ra0 o4 kc5 cs3 ra4 ra5 kc6 cs7 G1 T3.heap n0 F19 F14 f7 f8 f9 E' F' f10 F15 F16 F17 K' L' F18 O2 P5 g11) (ow hw 82) (ow hw 41) e13 (g := (mkF m 30 #[vR ra0, vR ra4, vI 15] [.ref ra4, .int 15, .ref ra0])) rfl (zs hml) (argsL := [.int 15, .ref ra4]) (rest := []) (lenOf pd_7 rfl) rfl (hb hby d8_30) (W := 0) rfl
  obtain ⟨rfl, Nq20, K20, f21⟩ := hQ20
  have N20 := Fr.app N3 Nq20
  refine og T20 (mkF m 35 #[vR ra0, vR ra4, vI 15] [.ref ra0, .ref ra0]) (fun _ k => st20.trans (qa X20 hx hby d8_33 rfl rfl rfl (XS.dup X20.here hx rfl (hb hby d8_34) rfl rfl k))) ?_
  have F22 := (f8.keep K20 (ninS (own_ne_lo A'.lt f6) nin0))
  obtain ⟨T23, X23, e23, st23⟩ := qf X20 hx hZ hown (ow hw 71) rfl F22 (g := (mkF m 35 #[vR ra0, vR ra4, vI 15] [.ref ra0, .ref ra0])) rfl rfl hby d8_35
  refine og T23 (mkF m 40 #[vR ra0, vR ra4, vI 15] [.int 30, .ref ra0]) (fun _ k => st23 _ (qi X23 hx hby d8_38 rfl rfl (qp X23 hx hby d8_39 rfl rfl k))) ?_
  have F24 := (F14.keep K20)
  obtain ⟨T25, h25, X25, e25, W25, st25⟩ := putF X23 hx hZ hown (host := "") (Or.inl (ow hw 71)) Via.refl e23 F22 F24 (Or.inl (ow hw 72)) (ow hw 32) (ty := .int) (by decide) rfl rfl (g := (mkF m 40 #[vR ra0, vR ra4, vI 15] [.int 30, .ref ra0])) rfl rfl (hb hby d8_40)
  have Fw25 := F22.same W25
  have N25 := Fr.snoc X25 N20 N'
  refine og T25 (mkF m 44 #[vR ra0, vR ra4, vI 15] [.ref ra0]) (fun _ k => st25 _ (qa X25 hx hby d8_43 rfl rfl rfl k)) ?_
  have F26 := ((f7.keep K20 (ninS (own_ne_lo A'.lt f6) nin0)).other W25 (Or.inr (slot_ne (Or.inl (ow hw 48)) (Or.inl (ow hw 72)) (by decide) (t := .byte) (t' := .int) (by decide) (by decide))))
  have F27 := ((f9.keep K20 (ninS (own_ne_lo A'.lt f6) nin0)).other W25 (Or.inr (slot_ne (Or.inl (ow hw 46)) (Or.inl (ow hw 72)) (by decide) (t := (.array .byte)) (t' := .int) (by decide) (by decide))))
  have F28 := (f21.other W25 (Ne.symm (own_ne_lo A'.lt f6)))
  have KEEP := ((((Keep.refl h0 [ra0]).trans K3 (allS (Or.inl (List.mem_of_getElem? (i := 0) rfl)) all0)).trans K20 (allS (Or.inr z12) all0)).wr W25 (Or.inl (List.mem_of_getElem? (i := 0) rfl)))
  exact own_leaveN X25 hlk (v := some (.ref ra0)) (own_nr hret) (lb rfl) (lb rfl) (by rw [e25]; exact ⟨o4, kc5, rfl, N25, KEEP, z12, F26, Fw25, F27, F28⟩) (own_ra X25 hx hret rfl rfl rfl (hb hby d8_44))
abbrev R7_115 : Room := { frames := 5, cells := 1, slots := 34, locals := 76 }
def Q7_115 (Z : State) (ra0 ra1 : Addr) (kc2 : ClassId) (cs3 : List Int32) (ra4 ra5 : Addr) (kc6 : ClassId) (cs7 : List Int32) (G1 : Int32) (h0 : Heap) (n0 : Nat) (v : Option Value) (h : Heap) (L : List Loc) : Prop := (∃ (o3 : Addr) (kc4 : ClassId), v = some (.ref ra0) ∧ Fr n0 L ∧ Keep h0 h [ra0] ∧ h0.size ≤ o3 ∧ Fld Z h ra0 cN0 "coder" "B" (.int 0) ∧ Fld Z h ra0 cN0 "count" "I" (.int 30) ∧ Fld Z h ra0 cN0 "value" "[B" (.ref o3) ∧ Arv Z h o3 kc4 .byte (34 : Int32) (own_by (cs3 ++ cs7)) (.int 0))
theorem rm7_115 l Z a0 (hw : HW Z a0) ra0 ra1 kc2 (cs3 : List Int32) ra4 ra5 kc6 (cs7 : List Int32) (G1 : Int32) h0 n0 (OLD : Old Z n0 h0) (A' : Exa Z h0 ra0 cN3) (B' : Fld Z h0 ra0 cN0 "coder" "B" (.int 0)) (C' : Fld Z h0 ra0 cN0 "count" "I" (.int 15)) (D' : Fld Z h0 ra0 cN0 "value" "[B" (.ref ra1)) (E' : cs3.length = 15) (F' : own_L cs3) (G' : Arv Z h0 ra1 kc2 .byte (16 : Int32) (own_by cs3) (.int 0)) (H' : Exa Z h0 ra4 cN1) (I' : Fld Z h0 ra4 cN1 "coder" "B" (.int 0)) (J' : Fld Z h0 ra4 cN1 "value" "[B" (.ref ra5)) (K' : cs7.length = 15) (L' : own_L cs7) (M' : Arv Z h0 ra5 kc6 .byte (15 : Int32) (own_by cs7) (.int 0)) (O2 : Sta Z Z.heap cN1 "COMPACT_STRINGS" "Z" (.int G1)) (P5 : ¬ (G1 = (0 : Int32))) (N' : n0 ≤ ra0) (ne_ra4_ra0 : ra4 ≠ ra0) (ne_ra5_ra0 : ra5 ≠ ra0) :
    own_CN l Z y10 jdk_67_method_7_code 2 (some (.object cN3)) [] R7_115 #[.ref ra0, .ref ra4] h0 (Q7_115 Z ra0 ra1 kc2 cs3 ra4 ra5 kc6 cs7 G1 h0 n0) := by
  refine own_entryN (plainFor_of_name pn_2) fun p e s m below meth c s₁ hx hby hml hown hnm hret hlk hZ hh X0 e0 => ?_
  have N0 := Fr.nil n0
  rw [ef_1_5 m ra0 ra4]
  refine og s₁ (mkF m 2 #[vR ra0, vR ra4] [.ref ra4, .ref ra0]) (fun _ k => qa X0 hx hby d7_0 rfl rfl rfl (qa X0 hx hby d7_1 rfl rfl rfl k)) ?_
  obtain ⟨_, _, ⟨T2, L2, k2, n2⟩, -, X2, ⟨Lc2, hQ2, l2, y2, z2⟩, st2⟩ := superBack X0 hx hZ (y := y9) hown (ow hw 55) (own_same (z := y4) (ow hw 76) (ow hw 56) rfl (by decide)) (ow hw 56) (ow hw 57) (by decide) (backOf (W := 0) (rm8_116 l Z a0 hw ra0 ra1 kc2 cs3 ra4 ra5 kc6 cs7 G1 h0 n0 OLD A' B' C' D' E' F' G' H' I' J' K' L' M' O2 P5 N' ne_ra4_ra0 ne_ra5_ra0) hZ (ow hw 59) (ow hw 41) (lb rfl) (lb rfl)) e0 (Ins.self A') (g := (mkF m 2 #[vR ra0, vR ra4] [.ref ra4, .ref ra0])) rfl (zs hml) (ow hw 59) (argsL := [.ref ra4]) (rest := []) (lenOf pd_8 rfl) rfl (lb rfl) (hb hby d7_2) (fun _ _ => ⟨rfl, e0, (lb rfl), (lb rfl)⟩)
  dsimp only [Pt.U, Pt.locs, Pt.cells, Pt.slots] at X2 l2 y2 z2 st2 hQ2
  subst l2 y2 z2
  obtain ⟨o3, kc4, rfl, Nq2, K2, f5, f6, f7, f8, f9⟩ := hQ2
  have N2 := Fr.app N0 Nq2
  have g10 : n0 ≤ o3 := Nat.le_trans (own_osz OLD) f5
  have z11 : h0.size ≤ o3 := Nat.le_trans (Nat.le_refl _) f5
  refine og T2 (mkF m 7 #[vR ra0, vR ra4] [.ref ra0]) (fun _ k => st2.trans (XS.pop X2.here hx rfl (hb hby d7_5) rfl rfl (qa X2 hx hby d7_6 rfl rfl rfl k))) ?_
  have KEEP := ((Keep.refl h0 [ra0]).trans K2 (allS (Or.inl (List.mem_of_getElem? (i := 0) rfl)) all0))
  exact own_leaveN X2 hlk (v := some (.ref ra0)) (own_nr hret) (lb rfl) (lb rfl) (by exact ⟨o3, kc4, rfl, N2, KEEP, z11, f6, f7, f8, f9⟩) (own_ra X2 hx hret rfl rfl rfl (hb hby d7_7))
abbrev R29_129 : Room := { frames := 0, cells := 0, slots := 0, locals := 0 }
def Q29_129 (Z : State)  (h0 : Heap) (n0 : Nat) (v : Option Value) (h : Heap) (L : List Loc) : Prop := (v = none ∧ Fr n0 L ∧ h = h0)
theorem rm29_129 l Z a0 (hw : HW Z a0)  h0 n0 (OLD : Old Z n0 h0) :
    own_CN l Z y20 jdk_65_method_131_code 2 none [] R29_129 #[.int 0, .int 30] h0 (Q29_129 Z  h0 n0) := by
  refine own_entryN (plainFor_of_name pn_4) fun p e s m below meth c s₁ hx hby hml hown hnm hret hlk hZ hh X0 e0 => ?_
  have N0 := Fr.nil n0
  rw [ef_29_129 m ]
  refine og s₁ (mkF m 37 #[vI 0, vI 30] []) (fun _ k => qi X0 hx hby d29_0 rfl rfl (qi X0 hx hby d29_1 rfl rfl (XS.icmpYes X0.here hx rfl (pc0 := 2) (pc' := 37) rfl (hb hby d29_2) rfl (flt (by decide : ¬ ((30 : Int32) < (0 : Int32)))).2.1 (by decide) (by decide) k))) ?_
  exact own_leaveN X0 hlk (v := none) (fun _ => rfl) (lb rfl) (lb rfl) (by rw [e0]; exact ⟨rfl, N0, rfl⟩) (fun fs hr => X0.returnOut hx hret (hb hby d29_37) hr)
abbrev R19_130 : Room := { frames := 0, cells := 0, slots := 0, locals := 0 }
def Q19_130 (Z : State)  (h0 : Heap) (n0 : Nat) (v : Option Value) (h : Heap) (L : List Loc) : Prop := (v = some (.int 30) ∧ Fr n0 L ∧ h = h0)
theorem rm19_130 l Z a0 (hw : HW Z a0)  h0 n0 (OLD : Old Z n0 h0) :
    own_CN l Z y14 jdk_29_method_69_code 2 (some .int) [] R19_130 #[.int 34, .int 30] h0 (Q19_130 Z  h0 n0) := by
  refine own_entryN (Jvm.Free.JP.mathPlain rfl (by decide +kernel)) fun p e s m below meth c s₁ hx hby hml hown hnm hret hlk hZ hh X0 e0 => ?_
  have N0 := Fr.nil n0
  rw [ef_19_130 m ]
  refine og s₁ (mkF m 10 #[vI 34, vI 30] [.int 30]) (fun _ k => qi X0 hx hby d19_0 rfl rfl (qi X0 hx hby d19_1 rfl rfl (XS.icmpYes X0.here hx rfl (pc0 := 2) (pc' := 9) rfl (hb hby d19_2) rfl (tlt (by decide : (30 : Int32) < (34 : Int32))).2.2.1 (by decide) (by decide) (qi X0 hx hby d19_9 rfl rfl k)))) ?_
  exact own_leaveN X0 hlk (v := some (.int 30)) (own_nr hret) (lb rfl) (lb rfl) (by rw [e0]; exact ⟨rfl, N0, rfl⟩) (fun fs hr => retI X0 hx hret (hb hby d19_10) hr)
abbrev R28_128 : Room := { frames := 1, cells := 1, slots := 30, locals := 18 }
def Q28_128 (Z : State) (ra0 : Addr) (kc1 : ClassId) (cs2 : List Int32) (h0 : Heap) (n0 : Nat) (v : Option Value) (h : Heap) (L : List Loc) : Prop := (∃ (b2 : Addr) (k2 : ClassId), v = some (.ref b2) ∧ Fr n0 L ∧ Keep h0 h [] ∧ h0.size ≤ b2 ∧ Arv Z h b2 k2 .byte (30 : Int32) (own_by cs2) (.int 0))
theorem rm28_128 l Z a0 (hw : HW Z a0) ra0 kc1 (cs2 : List Int32) h0 n0 (OLD : Old Z n0 h0) (A' : cs2.length = 30) (B' : own_L cs2) (C' : Arv Z h0 ra0 kc1 .byte (34 : Int32) (own_by cs2) (.int 0)) :
    own_CN l Z y21 jdk_65_method_133_code 5 (some (.array .byte)) [] R28_128 #[.ref ra0, .int 0, .int 30] h0 (Q28_128 Z ra0 kc1 cs2 h0 n0) := by
  refine own_entryN (plainFor_of_name pn_4) fun p e s m below meth c s₁ hx hby hml hown hnm hret hlk hZ hh X0 e0 => ?_
  have N0 := Fr.nil n0
  rw [ef_28_128 m ra0]
  refine og s₁ (mkF m 2 #[vR ra0, vI 0, vI 30, vU, vU] [.int 30, .int 0]) (fun _ k => qi X0 hx hby d28_0 rfl rfl (qi X0 hx hby d28_1 rfl rfl k)) ?_
  obtain ⟨_, T1, L1, X1, hQ1, st1⟩ := own_tc X0 hx hZ hown (ow hw 158) (ow hw 159) (rm29_129 l Z a0 hw  h0 n0 OLD ) (ow hw 160) (ow hw 116) e0 (g := (mkF m 2 #[vR ra0, vI 0, vI 30, vU, vU] [.int 30, .int 0])) rfl (zs hml) (argsL := [.int 0, .int 30]) (rest := []) (lenOf pd_17 rfl) rfl (hb hby d28_2) (W := 0) rfl
  obtain ⟨rfl, Nq1, eq1⟩ := hQ1
  have N1 := Fr.app N0 Nq1
  refine og T1 (mkF m 10 #[vR ra0, vI 0, vI 30, vI 30, vU] [.int 30]) (fun _ k => st1.trans (qi X1 hx hby d28_5 rfl rfl (qi X1 hx hby d28_6 rfl rfl (XS.isub X1.here hx rfl (hb hby d28_7) rfl (XS.istoreN X1.here hx rfl (hb hby d28_8) rfl (l' := #[vR ra0, vI 0, vI 30, vI 30, vU]) rfl (qi X1 hx hby d28_9 rfl rfl k)))))) ?_
  obtain ⟨T2, h2, k2, X2, e2, E2, A2, st2⟩ := newP X1 hx hZ (ow hw 15) eq1 (g := (mkF m 10 #[vR ra0, vI 0, vI 30, vI 30, vU] [.int 30])) rfl (hb hby d28_10) rfl (by decide) (cap := 30) (by decide) (lb rfl) (lb rfl) (lb rfl)
  obtain ⟨b2, gb2⟩ : ∃ z, z = h0.size := ⟨_, rfl⟩
  rw [← gb2] at A2 st2
  have g3 : n0 ≤ b2 := Nat.le_trans (own_osz OLD) (Nat.le_of_eq gb2.symm)
  have z4 : h0.size ≤ b2 := Nat.le_trans (Nat.le_refl _) (Nat.le_of_eq gb2.symm)
  have V2 : Arv Z h2 b2 k2 .byte (30 : Int32) (own_by ([] : List Int32)) (.int 0) := Arv.new A2 (by decide)
  refine og T2 (mkF m 20 #[vR ra0, vI 0, vI 30, vI 30, vR b2] [.ref ra0, .int 0, .ref b2, .int 0, .ref ra0]) (fun _ k => st2 _ (XS.astore X2.here hx rfl (hb hby d28_12) rfl rfl (l' := #[vR ra0, vI 0, vI 30, vI 30, vR b2]) rfl (qa X2 hx hby d28_14 rfl rfl rfl (qi X2 hx hby d28_15 rfl rfl (XS.aload X2.here hx rfl (hb hby d28_16) rfl rfl (qc X2 hx hby d28_18 rfl (qa X2 hx hby d28_19 rfl rfl rfl k))))))) ?_
  have F5 := (C'.ext E2)
  obtain ⟨cl6, Ar6, -, Sr6, Nr6, -, -⟩ := id F5
  refine og T2 (mkF m 21 #[vR ra0, vI 0, vI 30, vI 30, vR b2] [.int 34, .int 0, .ref b2, .int 0, .ref ra0]) (fun t k => X2.arraylength hx (by rw [e2]; exact Ar6.1) (State.isArrayOf_alike hZ.alike Ar6.2.1) (g := (mkF m 20 #[vR ra0, vI 0, vI 30, vI 30, vR b2] [.ref ra0, .int 0, .ref b2, .int 0, .ref ra0])) rfl rfl (hb hby d28_20) t (by rw [len_of Sr6 Nr6]; exact k)) ?_
  refine og T2 (mkF m 24 #[vR ra0, vI 0, vI 30, vI 30, vR b2] [.int 30, .int 34, .int 0, .ref b2, .int 0, .ref ra0]) (fun _ k => qi X2 hx hby d28_21 rfl rfl (XS.isub X2.here hx rfl (hb hby d28_22) rfl (qi X2 hx hby d28_23 rfl rfl k))) ?_
  have F7 := (OLD.ext E2)
  obtain ⟨_, T8, L8, X8, hQ8, st8⟩ := own_tc X2 hx hZ hown (ow hw 118) (ow hw 119) (rm19_130 l Z a0 hw  h2 n0 F7 ) (ow hw 120) (ow hw 110) e2 (g := (mkF m 24 #[vR ra0, vI 0, vI 30, vI 30, vR b2] [.int 30, .int 34, .int 0, .ref b2, .int 0, .ref ra0])) rfl (zs hml) (argsL := [.int 34, .int 30]) (rest := [.int 0, .ref b2, .int 0, .ref ra0]) (lenOf pd_10 rfl) rfl (hb hby d28_24) (W := 4) rfl
  obtain ⟨rfl, Nq8, eq8⟩ := hQ8
  have N8 := Fr.app N1 Nq8
  refine ot T8 (mkF m 27 #[vR ra0, vI 0, vI 30, vI 30, vR b2] [.int 30, .int 0, .ref b2, .int 0, .ref ra0]) st8 ?_
  obtain ⟨T9, h9, L9, X9, e9, N9, K9, Vq9, st9⟩ := own_cpB X8 hx hZ hown (ow hw 121) (ow hw 97) (ow hw 95) (ow hw 96) eq8 F5 V2 (sp := (0 : Int32)) (dp := (0 : Int32)) (nn := (30 : Int32)) rfl (by decide) (by decide) (by decide) (by decide) (show _ = _ from rfl) ((Eq.symm A') ▸ lb rfl) N8 g3 (g := (mkF m 27 #[vR ra0, vI 0, vI 30, vI 30, vR b2] [.int 30, .int 0, .ref b2, .int 0, .ref ra0])) rfl (zs hml) rfl (hb hby d28_27) (lb rfl) (W := 0) (lb rfl) (lb rfl)
  have V9 : Arv Z h9 b2 k2 .byte (30 : Int32) (own_by cs2) (.int 0) := (by simpa using Vq9)
  refine og T9 (mkF m 32 #[vR ra0, vI 0, vI 30, vI 30, vR b2] [.ref b2]) (fun _ k => st9 _ (XS.aload X9.here hx rfl (hb hby d28_30) rfl rfl k)) ?_
  have KEEP := (((Keep.refl h0 []).ext E2).trans K9 (allS (Or.inr z4) all0))
  exact own_leaveN X9 hlk (v := some (.ref b2)) (own_nr hret) (lb rfl) (lb rfl) (by rw [e9]; exact ⟨b2, k2, rfl, N9, KEEP, z4, V9⟩) (own_ra X9 hx hret rfl rfl rfl (hb hby d28_32))
abbrev R27_127 : Room := { frames := 2, cells := 1, slots := 30, locals := 34 }
def Q27_127 (Z : State) (ra0 : Addr) (kc1 : ClassId) (cs2 : List Int32) (h0 : Heap) (n0 : Nat) (v : Option Value) (h : Heap) (L : List Loc) : Prop := (∃ (o3 : Addr) (kc4 : ClassId), v = some (.ref o3) ∧ Fr n0 L ∧ Keep h0 h [] ∧ h0.size ≤ o3 ∧ Arv Z h o3 kc4 .byte (30 : Int32) (own_by cs2) (.int 0))
theorem rm27_127 l Z a0 (hw : HW Z a0) ra0 kc1 (cs2 : List Int32) h0 n0 (OLD : Old Z n0 h0) (A' : cs2.length = 30) (B' : own_L cs2) (C' : Arv Z h0 ra0 kc1 .byte (34 : Int32) (own_by cs2) (.int 0)) :
    own_CN l Z y22 jdk_65_method_132_code 3 (some (.array .byte)) [] R27_127 #[.ref ra0, .int 0, .int 30] h0 (Q27_127 Z ra0 kc1 cs2 h0 n0) := by
  refine own_entryN (plainFor_of_name pn_4) fun p e s m below meth c s₁ hx hby hml hown hnm hret hlk hZ hh X0 e0 => ?_
  have N0 := Fr.nil n0
  rw [ef_27_127 m ra0]
  refine og s₁ (mkF m 6 #[vR ra0, vI 0, vI 30] [.ref ra0, .int 30]) (fun _ k => qi X0 hx hby d27_0 rfl rfl (XS.ifNo X0.here hx rfl (hb hby d27_1) rfl ((if0 _ _).trans (tq 0)) (qi X0 hx hby d27_4 rfl rfl (qa X0 hx hby d27_5 rfl rfl rfl k)))) ?_
  obtain ⟨cl1, Ar1, -, Sr1, Nr1, -, -⟩ := id C'
  refine og s₁ (mkF m 7 #[vR ra0, vI 0, vI 30] [.int 34, .int 30]) (fun t k => X0.arraylength hx (by rw [e0]; exact Ar1.1) (State.isArrayOf_alike hZ.alike Ar1.2.1) (g := (mkF m 6 #[vR ra0, vI 0, vI 30] [.ref ra0, .int 30])) rfl rfl (hb hby d27_6) t (by rw [len_of Sr1 Nr1]; exact k)) ?_
  refine og s₁ (mkF m 13 #[vR ra0, vI 0, vI 30] [.int 30, .int 0, .ref ra0]) (fun _ k => qn X0 hx hby d27_7 rfl rfl (feq (by decide : ¬ ((30 : Int32) = (34 : Int32)))).1 (qa X0 hx hby d27_10 rfl rfl rfl (qi X0 hx hby d27_11 rfl rfl (qi X0 hx hby d27_12 rfl rfl k)))) ?_
  obtain ⟨_, T2, L2, X2, hQ2, st2⟩ := own_tc X0 hx hZ hown (ow hw 155) (ow hw 156) (rm28_128 l Z a0 hw ra0 kc1 cs2 h0 n0 OLD A' B' C') (ow hw 157) (ow hw 116) e0 (g := (mkF m 13 #[vR ra0, vI 0, vI 30] [.int 30, .int 0, .ref ra0])) rfl (zs hml) (argsL := [.ref ra0, .int 0, .int 30]) (rest := []) (lenOf pd_18 rfl) rfl (hb hby d27_13) (W := 0) rfl
  obtain ⟨o3, kc4, rfl, Nq2, K2, f5, f6⟩ := hQ2
  have N2 := Fr.app N0 Nq2
  have g7 : n0 ≤ o3 := Nat.le_trans (own_osz OLD) f5
  have z8 : h0.size ≤ o3 := Nat.le_trans (Nat.le_refl _) f5
  refine ot T2 (mkF m 16 #[vR ra0, vI 0, vI 30] [.ref o3]) st2 ?_
  have KEEP := ((Keep.refl h0 []).trans K2 all0)
  exact own_leaveN X2 hlk (v := some (.ref o3)) (own_nr hret) (lb rfl) (lb rfl) (by exact ⟨o3, kc4, rfl, N2, KEEP, z8, f6⟩) (own_ra X2 hx hret rfl rfl rfl (hb hby d27_16))
abbrev R22_126 : Room := { frames := 3, cells := 1, slots := 30, locals := 49 }
def Q22_126 (Z : State) (ra0 ra1 ra2 : Addr) (kc3 : ClassId) (cs4 : List Int32) (G1 : Int32) (h0 : Heap) (n0 : Nat) (v : Option Value) (h : Heap) (L : List Loc) : Prop := (∃ (o11 : Addr) (kc12 : ClassId), (0 : Int32) = (0 : Int32) ∧ v = none ∧ Fr n0 L ∧ Keep h0 h [ra0] ∧ h0.size ≤ o11 ∧ Fld Z h ra0 cN1 "coder" "B" (.int 0) ∧ Fld Z h ra0 cN1 "value" "[B" (.ref o11) ∧ Arv Z h o11 kc12 .byte (30 : Int32) (own_by cs4) (.int 0))
theorem rm22_126 l Z a0 (hw : HW Z a0) ra0 ra1 ra2 kc3 (cs4 : List Int32) (G1 : Int32) h0 n0 (OLD : Old Z n0 h0) (A' : Exa Z h0 ra0 cN1) (B' : Fld Z h0 ra0 cN1 "coder" "B" (.int 0)) (C' : Fld Z h0 ra0 cN1 "value" "[B" .null) (D' : Exa Z h0 ra1 cN3) (E' : Fld Z h0 ra1 cN0 "coder" "B" (.int 0)) (F' : Fld Z h0 ra1 cN0 "count" "I" (.int 30)) (G' : Fld Z h0 ra1 cN0 "value" "[B" (.ref ra2)) (H' : cs4.length = 30) (I' : own_L cs4) (J' : Arv Z h0 ra2 kc3 .byte (34 : Int32) (own_by cs4) (.int 0)) (O2 : Sta Z Z.heap cN1 "COMPACT_STRINGS" "Z" (.int G1)) (P5 : ¬ (G1 = (0 : Int32))) (K' : n0 ≤ ra0) (ne_ra2_ra0 : ra2 ≠ ra0) :
    own_CN l Z y23 jdk_42_method_150_code 5 none [] R22_126 #[.ref ra0, .ref ra1, .null] h0 (Q22_126 Z ra0 ra1 ra2 kc3 cs4 G1 h0 n0) := by
  refine own_entryN (plainFor_of_name pn_0) fun p e s m below meth c s₁ hx hby hml hown hnm hret hlk hZ hh X0 e0 => ?_
  have N0 := Fr.nil n0
  rw [ef_22_34 m ra0 ra1]
  refine og s₁ (mkF m 1 #[vR ra0, vR ra1, vN, vU, vU] [.ref ra0]) (fun _ k => qa X0 hx hby d22_0 rfl rfl rfl k) ?_
  obtain ⟨T1, X1, e1, st1⟩ := initO X0 hx hZ hown (ow hw 11) (ow hw 12) (ow hw 13) e0 (g := (mkF m 1 #[vR ra0, vR ra1, vN, vU, vU] [.ref ra0])) rfl (zs hml) rfl (hb hby d22_1) (by decide) (W := 0) (lb rfl) (by decide)
  refine og T1 (mkF m 5 #[vR ra0, vR ra1, vN, vU, vU] [.ref ra1]) (fun _ k => st1 _ (qa X1 hx hby d22_4 rfl rfl rfl k)) ?_
  obtain ⟨_, T2, L2, X2, hQ2, st2⟩ := own_vc X1 hx hZ hown (ow hw 134) (ow hw 135) (ow hw 137) (ow hw 136) D' (rm23_35 l Z a0 hw ra1 ra2 h0 n0 OLD G') (ow hw 138) (ow hw 41) e1 (g := (mkF m 5 #[vR ra0, vR ra1, vN, vU, vU] [.ref ra1])) rfl (zs hml) (argsL := []) (rest := []) (lenOf pd_14 rfl) rfl (hb hby d22_5) (W := 0) rfl
  obtain ⟨rfl, Nq2, eq2⟩ := hQ2
  have N2 := Fr.app N0 Nq2
  refine og T2 (mkF m 10 #[vR ra0, vR ra1, vN, vR ra2, vU] [.ref ra1]) (fun _ k => st2.trans (XS.astoreN X2.here hx rfl (hb hby d22_8) rfl rfl (l' := #[vR ra0, vR ra1, vN, vR ra2, vU]) rfl (qa X2 hx hby d22_9 rfl rfl rfl k))) ?_
  obtain ⟨cq4, kq4, q4a, q4b, q4c⟩ := isOf hZ eq2 D'
  obtain ⟨_, _, ⟨T4, L4, k4, n4⟩, -, X4, ⟨Lc4, hQ4, l4, y4, z4⟩, st4⟩ := X2.virtualBack hx (y := y17) (z := y18) hown (mvT hZ (ow hw 139)) (mvT hZ (ow hw 140)) (own_nf (args := #[]) (z := y4) (mvT hZ (ow hw 76)) rfl) (mvT hZ (ow hw 142)) (mvT hZ (ow hw 143)) (by decide) (backOf (W := 0) (rm24_36 l Z a0 hw ra1 ((30 : Int32)) h0 n0 OLD F' D') hZ (ow hw 144) (ow hw 33) (lb rfl) (lb rfl)) q4a q4c (g := (mkF m 10 #[vR ra0, vR ra1, vN, vR ra2, vU] [.ref ra1])) rfl (zs hml) (Steps.refl _) (argsL := []) (rest := []) (lenOf pd_15 rfl) rfl (lb rfl) (hb hby d22_10) (fun _ _ => ⟨rfl, eq2, (lb rfl), (lb rfl)⟩)
  dsimp only [Pt.U, Pt.locs, Pt.cells, Pt.slots] at X4 l4 y4 z4 st4 hQ4
  subst l4 y4 z4
  obtain ⟨rfl, Nq4, eq4⟩ := hQ4
  have N4 := Fr.app N2 Nq4
  refine og T4 (mkF m 16 #[vR ra0, vR ra1, vN, vR ra2, vI 30] [.ref ra1]) (fun _ k => st4.trans (XS.istore X4.here hx rfl (hb hby d22_13) rfl (l' := #[vR ra0, vR ra1, vN, vR ra2, vI 30]) rfl (qa X4 hx hby d22_15 rfl rfl rfl k))) ?_
  obtain ⟨_, T5, L5, X5, hQ5, st5⟩ := own_vc X4 hx hZ hown (ow hw 147) (ow hw 148) (ow hw 150) (ow hw 149) D' (rm26_38 l Z a0 hw ra1 G1 ((0 : Int32)) h0 n0 OLD O2 P5 E') (ow hw 151) (ow hw 41) eq4 (g := (mkF m 16 #[vR ra0, vR ra1, vN, vR ra2, vI 30] [.ref ra1])) rfl (zs hml) (argsL := []) (rest := []) (lenOf pd_16 rfl) rfl (hb hby d22_16) (W := 0) rfl
  rcases hQ5 with hQ5 | hQ5
  · obtain ⟨hc6, rfl, Nq5, eq5⟩ := hQ5
    have N5 := Fr.app N4 Nq5
    refine og T5 (mkF m 24 #[vR ra0, vR ra1, vN, vR ra2, vI 30] [.int 0, .ref ra0]) (fun _ k => st5.trans (XS.ifNo X5.here hx rfl (hb hby d22_19) rfl ((if0 _ _).trans (feq (by decide : ¬ ((1 : Int32) = (0 : Int32)))).1) (qa X5 hx hby d22_22 rfl rfl rfl (qc X5 hx hby d22_23 rfl k)))) ?_
    obtain ⟨T7, h7, X7, e7, W7, st7⟩ := putFN X5 hx hZ hown (ow hw 21) Via.refl eq5 B' A' (Or.inr ⟨(ow hw 17), rfl, hnm⟩) (ow hw 1) (ty := .byte) (v' := (.int (nar .byte (0 : Int32)))) (by decide) rfl (fits_nar_byte _) (g := (mkF m 24 #[vR ra0, vR ra1, vN, vR ra2, vI 30] [.int 0, .ref ra0])) rfl rfl (hb hby d22_24)
    rw [show nar .byte (0 : Int32) = (0 : Int32) from rfl] at W7
    have Fw7 := B'.same W7
    have N7 := Fr.snoc X7 N5 K'
    refine og T7 (mkF m 32 #[vR ra0, vR ra1, vN, vR ra2, vI 30] [.int 30, .int 0, .ref ra2, .ref ra0]) (fun _ k => st7 _ (qa X7 hx hby d22_27 rfl rfl rfl (qa X7 hx hby d22_28 rfl rfl rfl (qc X7 hx hby d22_29 rfl (XS.iload X7.here hx rfl (hb hby d22_30) rfl k))))) ?_
    have F8 := (J'.other W7 ne_ra2_ra0)
    have F9 := (OLD.wr W7 K')
    obtain ⟨_, T10, L10, X10, hQ10, st10⟩ := own_tc X7 hx hZ hown (ow hw 152) (ow hw 153) (rm27_127 l Z a0 hw ra2 kc3 cs4 h7 n0 F9 H' I' F8) (ow hw 154) (ow hw 116) e7 (g := (mkF m 32 #[vR ra0, vR ra1, vN, vR ra2, vI 30] [.int 30, .int 0, .ref ra2, .ref ra0])) rfl (zs hml) (argsL := [.ref ra2, .int 0, .int 30]) (rest := [.ref ra0]) (lenOf pd_18 rfl) rfl (hb hby d22_32) (W := 1) rfl
    obtain ⟨o11, kc12, rfl, Nq10, K10, f13, f14⟩ := hQ10
    have N10 := Fr.app N7 Nq10
    have g15 : n0 ≤ o11 := Nat.le_trans (own_osz F9) f13
    have F17 := (Nat.le_trans (Nat.le_refl _) (Nat.le_of_eq W7.size.symm))
    have z16 : h0.size ≤ o11 := Nat.le_trans F17 f13
    refine ot T10 (mkF m 35 #[vR ra0, vR ra1, vN, vR ra2, vI 30] [.ref o11, .ref ra0]) st10 ?_
    have F18 := ((A'.wr W7).keep K10)
    have F19 := ((C'.other W7 (Or.inr (slot_ne (Or.inr (ow hw 16)) (Or.inr (ow hw 17)) (by decide) (t := (.array .byte)) (t' := .byte) (by decide) (by decide)))).keep K10 nin0)
    obtain ⟨T20, h20, X20, e20, W20, st20⟩ := putF X10 hx hZ hown (host := "") (Or.inl (ow hw 20)) Via.refl rfl F19 F18 (Or.inr ⟨(ow hw 16), rfl, hnm⟩) (ow hw 1) (ty := (.array .byte)) (by decide) rfl rfl (g := (mkF m 35 #[vR ra0, vR ra1, vN, vR ra2, vI 30] [.ref o11, .ref ra0])) rfl rfl (hb hby d22_35)
    have Fw20 := F19.same W20
    have N20 := Fr.snoc X20 N10 K'
    refine og T20 (mkF m 97 #[vR ra0, vR ra1, vN, vR ra2, vI 30] []) (fun _ k => st20 _ (XS.goto X20.here hx rfl (pc0 := 38) (pc' := 97) rfl (hb hby d22_38) (by decide) (by decide) k)) ?_
    have F21 := ((Fw7.keep K10 nin0).other W20 (Or.inr (slot_ne (Or.inr (ow hw 17)) (Or.inr (ow hw 16)) (by decide) (t := .byte) (t' := (.array .byte)) (by decide) (by decide))))
    have F22 := (f14.other W20 (Ne.symm (own_ne_lo (Nat.lt_of_lt_of_le A'.lt (Nat.le_of_eq W7.size.symm)) f13)))
    have KEEP := ((((Keep.refl h0 [ra0]).wr W7 (Or.inl (List.mem_of_getElem? (i := 0) rfl))).trans K10 all0).wr W20 (Or.inl (List.mem_of_getElem? (i := 0) rfl)))
    exact own_leaveN X20 hlk (v := none) (fun _ => rfl) (lb rfl) (lb rfl) (by rw [e20]; exact ⟨o11, kc12, hc6, rfl, N20, KEEP, z16, F21, Fw20, F22⟩) (fun fs hr => X20.returnOut hx hret (hb hby d22_97) hr)
  · exfalso
    obtain ⟨hd0, -⟩ := hQ5
    exact absurd hd0 (fun q => q (by decide : (0 : Int32) = (0 : Int32)))
abbrev R21_125 : Room := { frames := 4, cells := 1, slots := 30, locals := 65 }
def Q21_125 (Z : State) (ra0 ra1 ra2 : Addr) (kc3 : ClassId) (cs4 : List Int32) (G1 : Int32) (h0 : Heap) (n0 : Nat) (v : Option Value) (h : Heap) (L : List Loc) : Prop := (∃ (o2 : Addr) (kc3 : ClassId), (0 : Int32) = (0 : Int32) ∧ v = none ∧ Fr n0 L ∧ Keep h0 h [ra0] ∧ h0.size ≤ o2 ∧ Fld Z h ra0 cN1 "coder" "B" (.int 0) ∧ Fld Z h ra0 cN1 "value" "[B" (.ref o2) ∧ Arv Z h o2 kc3 .byte (30 : Int32) (own_by cs4) (.int 0))
theorem rm21_125 l Z a0 (hw : HW Z a0) ra0 ra1 ra2 kc3 (cs4 : List Int32) (G1 : Int32) h0 n0 (OLD : Old Z n0 h0) (A' : Exa Z h0 ra0 cN1) (B' : Fld Z h0 ra0 cN1 "coder" "B" (.int 0)) (C' : Fld Z h0 ra0 cN1 "value" "[B" .null) (D' : Exa Z h0 ra1 cN3) (E' : Fld Z h0 ra1 cN0 "coder" "B" (.int 0)) (F' : Fld Z h0 ra1 cN0 "count" "I" (.int 30)) (G' : Fld Z h0 ra1 cN0 "value" "[B" (.ref ra2)) (H' : cs4.length = 30) (I' : own_L cs4) (J' : Arv Z h0 ra2 kc3 .byte (34 : Int32) (own_by cs4) (.int 0)) (O2 : Sta Z Z.heap cN1 "COMPACT_STRINGS" "Z" (.int G1)) (P5 : ¬ (G1 = (0 : Int32))) (K' : n0 ≤ ra0) (ne_ra2_ra0 : ra2 ≠ ra0) :
    own_CN l Z y24 jdk_42_method_53_code 2 none [] R21_125 #[.ref ra0, .ref ra1] h0 (Q21_125 Z ra0 ra1 ra2 kc3 cs4 G1 h0 n0) := by
  refine own_entryN (plainFor_of_name pn_0) fun p e s m below meth c s₁ hx hby hml hown hnm hret hlk hZ hh X0 e0 => ?_
  have N0 := Fr.nil n0
  rw [ef_1_5 m ra0 ra1]
  refine og s₁ (mkF m 3 #[vR ra0, vR ra1] [.null, .ref ra1, .ref ra0]) (fun _ k => qa X0 hx hby d21_0 rfl rfl rfl (qa X0 hx hby d21_1 rfl rfl rfl (XS.aconstNull X0.here hx rfl (hb hby d21_2) k))) ?_
  obtain ⟨_, T1, L1, X1, hQ1, st1⟩ := own_sc X0 hx hZ rfl hown (ow hw 131) (ow hw 132) (rm22_126 l Z a0 hw ra0 ra1 ra2 kc3 cs4 G1 h0 n0 OLD A' B' C' D' E' F' G' H' I' J' O2 P5 K' ne_ra2_ra0) (ow hw 133) (ow hw 2) e0 (g := (mkF m 3 #[vR ra0, vR ra1] [.null, .ref ra1, .ref ra0])) rfl (zs hml) (argsL := [.ref ra1, .null]) (rest := []) (lenOf pd_19 rfl) rfl (hb hby d21_3) (W := 0) rfl
  obtain ⟨o2, kc3, hc4, rfl, Nq1, K1, f5, f6, f7, f8⟩ := hQ1
  have N1 := Fr.app N0 Nq1
  have g9 : n0 ≤ o2 := Nat.le_trans (own_osz OLD) f5
  have z10 : h0.size ≤ o2 := Nat.le_trans (Nat.le_refl _) f5
  refine ot T1 (mkF m 6 #[vR ra0, vR ra1] []) st1 ?_
  have KEEP := ((Keep.refl h0 [ra0]).trans K1 (allS (Or.inl (List.mem_of_getElem? (i := 0) rfl)) all0))
  exact own_leaveN X1 hlk (v := none) (fun _ => rfl) (lb rfl) (lb rfl) (by exact ⟨o2, kc3, hc4, rfl, N1, KEEP, z10, f6, f7, f8⟩) (fun fs hr => X1.returnOut hx hret (hb hby d21_6) hr)
abbrev R20_124 : Room := { frames := 5, cells := 2, slots := 34, locals := 79 }
def Q20_124 (Z : State) (ra0 ra1 : Addr) (kc2 : ClassId) (cs3 : List Int32) (G1 : Int32) (h0 : Heap) (n0 : Nat) (v : Option Value) (h : Heap) (L : List Loc) : Prop := (∃ (b1 o11 : Addr) (kc12 : ClassId), (0 : Int32) = (0 : Int32) ∧ v = some (.ref b1) ∧ Fr n0 L ∧ Keep h0 h [] ∧ h0.size ≤ b1 ∧ h0.size ≤ o11 ∧ Exa Z h b1 cN1 ∧ Fld Z h b1 cN1 "coder" "B" (.int 0) ∧ Fld Z h b1 cN1 "value" "[B" (.ref o11) ∧ Arv Z h o11 kc12 .byte (30 : Int32) (own_by cs3) (.int 0))
theorem rm20_124 l Z a0 (hw : HW Z a0) ra0 ra1 kc2 (cs3 : List Int32) (G1 : Int32) h0 n0 (OLD : Old Z n0 h0) (A' : Exa Z h0 ra0 cN3) (B' : Fld Z h0 ra0 cN0 "coder" "B" (.int 0)) (C' : Fld Z h0 ra0 cN0 "count" "I" (.int 30)) (D' : Fld Z h0 ra0 cN0 "value" "[B" (.ref ra1)) (E' : cs3.length = 30) (F' : own_L cs3) (G' : Arv Z h0 ra1 kc2 .byte (34 : Int32) (own_by cs3) (.int 0)) (O2 : Sta Z Z.heap cN1 "COMPACT_STRINGS" "Z" (.int G1)) (P5 : ¬ (G1 = (0 : Int32))) :
    own_CN l Z y25 jdk_67_method_42_code 1 (some (.object cN1)) [] R20_124 #[.ref ra0] h0 (Q20_124 Z ra0 ra1 kc2 cs3 G1 h0 n0) := by
  refine own_entryN (plainFor_of_name pn_2) fun p e s m below meth c s₁ hx hby hml hown hnm hret hlk hZ hh X0 e0 => ?_
  have N0 := Fr.nil n0
  rw [ef_5_7 m ra0]
  obtain ⟨T1, h1, X1, e1, E1, A1, D1, U1, st1⟩ := newO X0 hx hZ hown (ow hw 127) (ow hw 1) (ow hw 2) e0 (g := (mkF m 0 #[vR ra0] [])) rfl (hb hby d20_0) (lb rfl) (lb rfl)
  obtain ⟨b1, gb1⟩ : ∃ z, z = h0.size := ⟨_, rfl⟩
  rw [← gb1] at A1 D1 U1 st1
  have g2 : n0 ≤ b1 := Nat.le_trans (own_osz OLD) (Nat.le_of_eq gb1.symm)
  have z3 : h0.size ≤ b1 := Nat.le_trans (Nat.le_refl _) (Nat.le_of_eq gb1.symm)
  refine og T1 (mkF m 5 #[vR ra0] [.ref ra0, .ref b1, .ref b1]) (fun _ k => st1 _ (XS.dup X1.here hx rfl (hb hby d20_3) rfl rfl (qa X1 hx hby d20_4 rfl rfl rfl k))) ?_
  have F4 := (A'.ext E1)
  have F5 := (B'.ext E1)
  have F6 := (C'.ext E1)
  have F7 := (D'.ext E1)
  have F8 := (G'.ext E1)
  have F9 := (OLD.ext E1)
  obtain ⟨_, T10, L10, X10, hQ10, st10⟩ := own_sc X1 hx hZ rfl hown (ow hw 128) (ow hw 129) (rm21_125 l Z a0 hw b1 ra0 ra1 kc2 cs3 G1 h1 n0 F9 A1 (D1 (Or.inr (ow hw 17)) (ty := .byte) (by decide)) (D1 (Or.inr (ow hw 16)) (ty := (.array .byte)) (by decide)) F4 F5 F6 F7 E' F' F8 O2 P5 g2 (own_ne_lo G'.lt (Nat.le_of_eq gb1.symm))) (ow hw 130) (ow hw 2) e1 (g := (mkF m 5 #[vR ra0] [.ref ra0, .ref b1, .ref b1])) rfl (zs hml) (argsL := [.ref ra0]) (rest := [.ref b1]) (lenOf pd_20 rfl) rfl (hb hby d20_5) (W := 1) rfl
  obtain ⟨o11, kc12, hc13, rfl, Nq10, K10, f14, f15, f16, f17⟩ := hQ10
  have N10 := Fr.app N0 Nq10
  have g18 : n0 ≤ o11 := Nat.le_trans (own_osz F9) f14
  have F20 := (Nat.le_trans (Nat.le_refl _) E1.1)
  have z19 : h0.size ≤ o11 := Nat.le_trans F20 f14
  refine ot T10 (mkF m 8 #[vR ra0] [.ref b1]) st10 ?_
  have F21 := (A1.keep K10)
  have KEEP := (((Keep.refl h0 []).ext E1).trans K10 (allS (Or.inr z3) all0))
  exact own_leaveN X10 hlk (v := some (.ref b1)) (own_nr hret) (lb rfl) (lb rfl) (by exact ⟨b1, o11, kc12, hc13, rfl, N10, KEEP, z3, z19, F21, f15, f16, f17⟩) (own_ra X10 hx hret rfl rfl rfl (hb hby d20_8))
abbrev R4_109 : Room := { frames := 6, cells := 13, slots := 2991, locals := 94 }
def Q4_109 (Z : State) (ra0 ra1 : Addr) (kc2 : ClassId) (cs3 : List Int32) (kw0 : Addr) (G1 : Int32) (us up : Value) (h0 : Heap) (n0 : Nat) (v : Option Value) (h : Heap) (L : List Loc) : Prop := (∃ (b1 o92 o93 : Addr) (kc94 : ClassId), (0 : Int32) = (0 : Int32) ∧ v = some (.ref b1) ∧ Fr n0 L ∧ Keep h0 h [] ∧ h0.size ≤ b1 ∧ h0.size ≤ o92 ∧ h0.size ≤ o93 ∧ Exa Z h b1 cN2 ∧ Unt h b1 ∧ Fld Z h b1 cN5 "cause" "Ljava/lang/Throwable;" (.ref b1) ∧ Fld Z h b1 cN5 "detailMessage" "Ljava/lang/String;" (.ref o92) ∧ Fld Z h b1 cN2 "reason" "Lcom/example/webhooks_to_ledger/webhookstoledger/HoldReason;" (.ref kw0) ∧ Fld Z h b1 cN5 "suppressedExceptions" "Ljava/util/List;" up ∧ Exa Z h o92 cN1 ∧ Fld Z h o92 cN1 "coder" "B" (.int 0) ∧ Fld Z h o92 cN1 "value" "[B" (.ref o93) ∧ Arv Z h o93 kc94 .byte (30 : Int32) (own_by ((cL0 ++ cs3) ++ cL1)) (.int 0))
theorem rm4_109 l Z a0 (hw : HW Z a0) ra0 ra1 kc2 (cs3 : List Int32) kw0 (G1 : Int32) (us : Value) (up : Value) h0 n0 (OLD : Old Z n0 h0) (A' : Exa Z h0 ra0 cN1) (B' : Fld Z h0 ra0 cN1 "coder" "B" (.int 0)) (C' : Fld Z h0 ra0 cN1 "value" "[B" (.ref ra1)) (D' : cs3.length = 3) (E' : own_L cs3) (F' : Arv Z h0 ra1 kc2 .byte (3 : Int32) (own_by cs3) (.int 0)) (SK0 : Sta Z Z.heap cN4 "UNMAPPED_TYPE" "Lcom/example/webhooks_to_ledger/webhookstoledger/HoldReason;" (.ref kw0)) (EK0 : Exa Z Z.heap kw0 cN4) (O2 : Sta Z Z.heap cN1 "COMPACT_STRINGS" "Z" (.int G1)) (P5 : ¬ (G1 = (0 : Int32))) (Sus : Sta Z Z.heap cN5 "UNASSIGNED_STACK" "[Ljava/lang/StackTraceElement;" us) (rf_us : us.isRef = true) (Sup : Sta Z Z.heap cN5 "SUPPRESSED_SENTINEL" "Ljava/util/List;" up) (rf_up : up.isRef = true) (hl : l.stackTraces = true) (rus : us.isRef = true) :
    own_CW l Z true y30 prog_14_method_3_code 1 (some (.object cN2)) [] R4_109 #[.ref ra0] h0 [] (Q4_109 Z ra0 ra1 kc2 cs3 kw0 G1 us up h0 n0) := by
  refine own_entryW (plainFor_of_name pn_8) fun p e s m below meth c s₁ hx hby hml hown hnm hret hlk hZ hh hCH hSf hKn X0 e0 => ?_
  have N0 := Fr.nil n0
  have hS0 : s.Since s.vm h0.size := own_since s _
  have hk0 : h0.size ≤ h0.size := Nat.le_refl _
  have CH0 : CHr Z own_EL s.vm h0 s.vm h0 := CHr.refl hCH
  rw [ef_5_7 m ra0]
  obtain ⟨T1, h1, X1, e1, E1, A1, D1, U1, st1⟩ := newO X0 hx hZ hown (ow hw 26) (ow hw 27) (ow hw 24) e0 (g := (mkF m 0 #[vR ra0] [])) rfl (hb hby d4_0) (lb rfl) (lb rfl)
  obtain ⟨b1, gb1⟩ : ∃ z, z = h0.size := ⟨_, rfl⟩
  rw [← gb1] at A1 D1 U1 st1
  have g2 : n0 ≤ b1 := Nat.le_trans (own_osz OLD) (Nat.le_of_eq gb1.symm)
  have z3 : h0.size ≤ b1 := Nat.le_trans (Nat.le_refl _) (Nat.le_of_eq gb1.symm)
  have ch4 := CHr.ext E1 CH0.1
  have CH5 := CHr.trans CH0 ch4
  have Uu1 : Unt h1 b1 := U1
  refine og T1 (mkF m 4 #[vR ra0] [.ref b1, .ref b1]) (fun _ k => st1 _ (XS.dup X1.here hx rfl (hb hby d4_3) rfl rfl k)) ?_
  have F6 := (OLD.ext E1)
  obtain ⟨T7, X7, e7, st7⟩ := getS2 X1 hx hZ hown (host := "") (Or.inl (ow hw 28)) Via.refl e1 (SK0.ext F6.2) (g := (mkF m 4 #[vR ra0] [.ref b1, .ref b1])) rfl (hb hby d4_4)
  refine og T7 (mkF m 7 #[vR ra0] [.ref kw0, .ref b1, .ref b1]) st7 ?_
  obtain ⟨T8, h8, X8, e8, E8, A8, D8, U8, st8⟩ := newO X7 hx hZ hown (ow hw 31) (ow hw 32) (ow hw 33) e7 (g := (mkF m 7 #[vR ra0] [.ref kw0, .ref b1, .ref b1])) rfl (hb hby d4_7) (lb rfl) (lb rfl)
  obtain ⟨b8, gb8⟩ : ∃ z, z = h1.size := ⟨_, rfl⟩
  rw [← gb8] at A8 D8 U8 st8
  have g9 : n0 ≤ b8 := Nat.le_trans (own_osz F6) (Nat.le_of_eq gb8.symm)
  have F11 := (Nat.le_trans (Nat.le_refl _) E1.1)
  have z10 : h0.size ≤ b8 := Nat.le_trans F11 (Nat.le_of_eq gb8.symm)
  have ch12 := CHr.ext E8 CH5.1
  have CH13 := CHr.trans CH5 ch12
  refine og T8 (mkF m 11 #[vR ra0] [.ref b8, .ref b8, .ref kw0, .ref b1, .ref b1]) (fun _ k => st8 _ (XS.dup X8.here hx rfl (hb hby d4_10) rfl rfl k)) ?_
  have F14 := (F6.ext E8)
  obtain ⟨_, T15, L15, X15, hQ15, st15⟩ := own_sc X8 hx hZ rfl hown (ow hw 34) (ow hw 35) (rm5_7 l Z a0 hw b8 G1 h8 n0 F14 A8 (D8 (Or.inl (ow hw 48)) (ty := .byte) (by decide)) (D8 (Or.inl (ow hw 72)) (ty := .int) (by decide)) (D8 (Or.inl (ow hw 46)) (ty := (.array .byte)) (by decide)) O2 P5 g9) (ow hw 36) (ow hw 33) e8 (g := (mkF m 11 #[vR ra0] [.ref b8, .ref b8, .ref kw0, .ref b1, .ref b1])) rfl (zs hml) (argsL := []) (rest := [.ref b8, .ref kw0, .ref b1, .ref b1]) (lenOf pd_3 rfl) rfl (hb hby d4_11) (W := 4) rfl
  obtain ⟨o16, kc17, rfl, Nq15, K15, f18, f19, f20, f21, f22⟩ := hQ15
  have N15 := Fr.app N0 Nq15
  have g23 : n0 ≤ o16 := Nat.le_trans (own_osz F14) f18
  have F25 := (Nat.le_trans F11 E8.1)
  have z24 : h0.size ≤ o16 := Nat.le_trans F25 f18
  have ch26 := CHr.keep K15 (allS (Safe.exa hZ.alike A8 (by decide) (by decide)) all0) CH13.1
  have CH27 := CHr.trans CH13 ch26
  have sf28 := Safe.keep K15 (allS (Safe.exa hZ.alike A8 (by decide) (by decide)) all0) CH13.1 (Safe.new f18)
  refine ot T15 (mkF m 14 #[vR ra0] [.ref b8, .ref kw0, .ref b1, .ref b1]) st15 ?_
  have F30 := (Nat.le_trans (Nat.le_trans (Nat.le_trans hk0 E1.1) E8.1) K15.1)
  have F31 := (Nat.le_trans F25 K15.1)
  obtain ⟨l29, T29, h29, k29, lb29, lk29, X29, e29, E29, hS29, hk29, hZ29, hown29, Ex29, Fc29, Fv29, Av29, la29, lz29, ch29, Lt29, sf29, st29⟩ := ldcCH X15 hx hZ hown (ow hw 49) (own_wS hw) rfl hS0 F30 (own_EW hw) (by decide) CH27.1 (vs := [.int 101, .int 118, .int 101, .int 110, .int 116, .int 32, .int 116, .int 121, .int 112, .int 101, .int 32, .int 34]) (z := (12 : Int32)) (by decide) (by decide) (by decide) (g := (mkF m 14 #[vR ra0] [.ref b8, .ref kw0, .ref b1, .ref b1])) rfl (hb hby d4_14) (n := 48) (by decide) (by decide) (lb rfl) (lb rfl)
  have CH32 := CHr.trans CH27 ch29
  have Ay29 : Arv Z h29 lb29 lk29 .byte (12 : Int32) (own_by cL0) (.int 0) := Av29
  refine og T29 (mkF m 16 #[vR ra0] [.ref l29, .ref b8, .ref kw0, .ref b1, .ref b1]) st29 ?_
  have F33 := ((A8.keep K15).ext E29)
  have F34 := (f19.ext E29)
  have F35 := (f20.ext E29)
  have F36 := (f21.ext E29)
  have F37 := (f22.ext E29)
  have hp38 : own_L cL0 := own_hpl _ rfl
  have F39 := ((F14.keep K15 (allS g9 all0)).ext E29)
  obtain ⟨_, T40, L40, X40, hQ40, st40⟩ := own_vc X29 hx hZ29 hown29 (ow hw 50) (ow hw 51) (ow hw 53) (ow hw 52) F33 (rm7_10 l Z a0 hw b8 o16 kc17 l29 lb29 lk29 cL0 G1 h29 n0 F39 F33 F34 F35 F36 F37 Ex29 Fc29 Fv29 rfl hp38 Ay29 O2 P5 g23 (own_ne_lo A8.lt f18) g9) (ow hw 54) (ow hw 33) e29 (g := (mkF m 16 #[vR ra0] [.ref l29, .ref b8, .ref kw0, .ref b1, .ref b1])) rfl (zs hml) (argsL := [.ref l29]) (rest := [.ref kw0, .ref b1, .ref b1]) (lenOf pd_9 rfl) rfl (hb hby d4_16) (W := 3) rfl
  obtain ⟨rfl, Nq40, K40, f41, f42, f43, f44⟩ := hQ40
  have N40 := Fr.app N15 Nq40
  have ch45 := CHr.keep K40 (allS (CHr.safe ch29 f22.lt sf28) (allS (Safe.exa hZ29.alike F33 (by decide) (by decide)) all0)) CH32.1
  have CH46 := CHr.trans CH32 ch45
  refine og T40 (mkF m 20 #[vR ra0] [.ref ra0, .ref b8, .ref kw0, .ref b1, .ref b1]) (fun _ k => st40.trans (qa X40 hx hby d4_19 rfl rfl rfl k)) ?_
  have F47 := (F33.keep K40)
  have F48 := ((((A'.ext E1).ext E8).keep K15).ext E29)
  have F49 := (F48.keep K40)
  have F50 := ((((B'.ext E1).ext E8).keep K15 (ninS (own_ne_lo (Nat.lt_of_lt_of_le A'.lt E1.1) (Nat.le_of_eq gb8.symm)) nin0)).ext E29)
  have F51 := (F50.keep K40 (ninS (own_ne_lo (Nat.lt_of_lt_of_le (Nat.lt_of_lt_of_le A'.lt E1.1) E8.1) f18) (ninS (own_ne_lo (Nat.lt_of_lt_of_le A'.lt E1.1) (Nat.le_of_eq gb8.symm)) nin0)))
  have F52 := ((((C'.ext E1).ext E8).keep K15 (ninS (own_ne_lo (Nat.lt_of_lt_of_le A'.lt E1.1) (Nat.le_of_eq gb8.symm)) nin0)).ext E29)
  have F53 := (F52.keep K40 (ninS (own_ne_lo (Nat.lt_of_lt_of_le (Nat.lt_of_lt_of_le A'.lt E1.1) E8.1) f18) (ninS (own_ne_lo (Nat.lt_of_lt_of_le A'.lt E1.1) (Nat.le_of_eq gb8.symm)) nin0)))
  have F54 := ((((F'.ext E1).ext E8).keep K15 (ninS (own_ne_lo (Nat.lt_of_lt_of_le F'.lt E1.1) (Nat.le_of_eq gb8.symm)) nin0)).ext E29)
  have F55 := (F54.keep K40 (ninS (own_ne_lo (Nat.lt_of_lt_of_le (Nat.lt_of_lt_of_le F'.lt E1.1) E8.1) f18) (ninS (own_ne_lo (Nat.lt_of_lt_of_le F'.lt E1.1) (Nat.le_of_eq gb8.symm)) nin0)))
  have F56 := (F39.keep K40 (allS g23 (allS g9 all0)))
  obtain ⟨_, T57, L57, X57, hQ57, st57⟩ := own_vc X40 hx hZ29 hown29 (ow hw 50) (ow hw 51) (ow hw 53) (ow hw 52) F47 (rm7_110 l Z a0 hw b8 o16 kc17 cL0 ra0 ra1 kc2 cs3 G1 T40.heap n0 F56 F47 f42 f43 f44 rfl hp38 f41 F49 F51 F53 D' E' F55 O2 P5 g23 (own_ne_lo A8.lt f18) g9) (ow hw 54) (ow hw 33) rfl (g := (mkF m 20 #[vR ra0] [.ref ra0, .ref b8, .ref kw0, .ref b1, .ref b1])) rfl (zs hml) (argsL := [.ref ra0]) (rest := [.ref kw0, .ref b1, .ref b1]) (lenOf pd_9 rfl) rfl (hb hby d4_20) (W := 3) rfl
  obtain ⟨rfl, Nq57, K57, f58, f59, f60, f61⟩ := hQ57
  have N57 := Fr.app N40 Nq57
  have ch62 := CHr.keep K57 (allS (CHr.safe ch45 (Nat.lt_of_lt_of_le f22.lt E29.1) (CHr.safe ch29 f22.lt sf28)) (allS (Safe.exa hZ29.alike F47 (by decide) (by decide)) all0)) CH46.1
  have CH63 := CHr.trans CH46 ch62
  refine ot T57 (mkF m 23 #[vR ra0] [.ref b8, .ref kw0, .ref b1, .ref b1]) st57 ?_
  have F65 := (Nat.le_trans (Nat.le_trans hk29 K40.1) K57.1)
  have F66 := (Nat.le_trans (Nat.le_trans (Nat.le_trans F31 E29.1) K40.1) K57.1)
  obtain ⟨l64, T64, h64, k64, lb64, lk64, X64, e64, E64, hS64, hk64, hZ64, hown64, Ex64, Fc64, Fv64, Av64, la64, lz64, ch64, Lt64, sf64, st64⟩ := ldcCH X57 hx hZ29 hown29 (ow hw 98) (own_wS hw) rfl hS29 F65 (own_EW hw) (by decide) CH63.1 (vs := [.int 34, .int 32, .int 105, .int 115, .int 32, .int 110, .int 111, .int 116, .int 32, .int 109, .int 97, .int 112, .int 112, .int 101, .int 100]) (z := (15 : Int32)) (by decide) (by decide) (by decide) (g := (mkF m 23 #[vR ra0] [.ref b8, .ref kw0, .ref b1, .ref b1])) rfl (hb hby d4_23) (n := 60) (by decide) (by decide) (lb rfl) (lb rfl)
  have CH67 := CHr.trans CH63 ch64
  have Ay64 : Arv Z h64 lb64 lk64 .byte (15 : Int32) (own_by cL1) (.int 0) := Av64
  refine og T64 (mkF m 25 #[vR ra0] [.ref l64, .ref b8, .ref kw0, .ref b1, .ref b1]) st64 ?_
  have F68 := ((F47.keep K57).ext E64)
  have F69 := (f59.ext E64)
  have F70 := (f60.ext E64)
  have F71 := (f61.ext E64)
  have F72 := (f58.ext E64)
  have hp73 : own_L cL1 := own_hpl _ rfl
  have F74 := ((F56.keep K57 (allS g23 (allS g9 all0))).ext E64)
  obtain ⟨_, T75, L75, X75, hQ75, st75⟩ := own_vc X64 hx hZ64 hown64 (ow hw 50) (ow hw 51) (ow hw 53) (ow hw 52) F68 (rm7_115 l Z a0 hw b8 o16 kc17 ((cL0 ++ cs3)) l64 lb64 lk64 cL1 G1 h64 n0 F74 F68 F69 F70 F71 (own_la rfl D') (own_happ hp38 E') F72 Ex64 Fc64 Fv64 rfl hp73 Ay64 O2 P5 g9 (ne_exa Ex64 F68 (by decide)) (Ne.symm (own_ne_arv F68 (ow hw 32) Ay64))) (ow hw 54) (ow hw 33) e64 (g := (mkF m 25 #[vR ra0] [.ref l64, .ref b8, .ref kw0, .ref b1, .ref b1])) rfl (zs hml) (argsL := [.ref l64]) (rest := [.ref kw0, .ref b1, .ref b1]) (lenOf pd_9 rfl) rfl (hb hby d4_25) (W := 3) rfl
  obtain ⟨o76, kc77, rfl, Nq75, K75, f78, f79, f80, f81, f82⟩ := hQ75
  have N75 := Fr.app N57 Nq75
  have g83 : n0 ≤ o76 := Nat.le_trans (own_osz F74) f78
  have F85 := (Nat.le_trans F66 E64.1)
  have z84 : h0.size ≤ o76 := Nat.le_trans F85 f78
  have ch86 := CHr.keep K75 (allS (Safe.exa hZ64.alike F68 (by decide) (by decide)) all0) CH67.1
  have CH87 := CHr.trans CH67 ch86
  have sf88 := Safe.keep K75 (allS (Safe.exa hZ64.alike F68 (by decide) (by decide)) all0) CH67.1 (Safe.new f78)
  refine ot T75 (mkF m 28 #[vR ra0] [.ref b8, .ref kw0, .ref b1, .ref b1]) st75 ?_
  have F89 := (F68.keep K75)
  have F90 := (F74.keep K75 (allS g9 all0))
  obtain ⟨_, T91, L91, X91, hQ91, st91⟩ := own_vc X75 hx hZ64 hown64 (ow hw 122) (ow hw 123) (ow hw 125) (ow hw 124) F89 (rm20_124 l Z a0 hw b8 o76 kc77 (((cL0 ++ cs3) ++ cL1)) G1 T75.heap n0 F90 F89 f79 f80 f81 (own_la (own_la rfl D') rfl) (own_happ (own_happ hp38 E') hp73) f82 O2 P5) (ow hw 126) (ow hw 33) rfl (g := (mkF m 28 #[vR ra0] [.ref b8, .ref kw0, .ref b1, .ref b1])) rfl (zs hml) (argsL := []) (rest := [.ref kw0, .ref b1, .ref b1]) (lenOf pd_21 rfl) rfl (hb hby d4_28) (W := 3) rfl
  obtain ⟨o92, o93, kc94, hc95, rfl, Nq91, K91, f96, f97, f98, f99, f100, f101⟩ := hQ91
  have N91 := Fr.app N75 Nq91
  have g102 : n0 ≤ o92 := Nat.le_trans (own_osz F90) f96
  have F104 := (Nat.le_trans F85 K75.1)
  have z103 : h0.size ≤ o92 := Nat.le_trans F104 f96
  have g105 : n0 ≤ o93 := Nat.le_trans (own_osz F90) f97
  have z106 : h0.size ≤ o93 := Nat.le_trans F104 f97
  have ch107 := CHr.keep K91 all0 CH87.1
  have CH108 := CHr.trans CH87 ch107
  have sf109 := Safe.keep K91 all0 CH87.1 (Safe.new f96)
  have sf110 := Safe.keep K91 all0 CH87.1 (Safe.new f97)
  refine ot T91 (mkF m 31 #[vR ra0] [.ref o92, .ref kw0, .ref b1, .ref b1]) st91 ?_
  have F111 := ((((Uu1.ext E8).keep K15 (ninS (own_ne_lo A1.lt (Nat.le_of_eq gb8.symm)) nin0)).ext E29).keep K40 (ninS (own_ne_lo (Nat.lt_of_lt_of_le A1.lt E8.1) f18) (ninS (own_ne_lo A1.lt (Nat.le_of_eq gb8.symm)) nin0)))
  have F112 := ((((F111.keep K57 (ninS (own_ne_lo (Nat.lt_of_lt_of_le A1.lt E8.1) f18) (ninS (own_ne_lo A1.lt (Nat.le_of_eq gb8.symm)) nin0))).ext E64).keep K75 (ninS (own_ne_lo A1.lt (Nat.le_of_eq gb8.symm)) nin0)).keep K91 nin0)
  have F113 := ((((A1.ext E8).keep K15).ext E29).keep K40)
  have F114 := ((((F113.keep K57).ext E64).keep K75).keep K91)
  have F115 := (((((D1 (Or.inl (ow hw 208)) (ty := (.object "java/lang/Object")) (by decide)).ext E8).keep K15 (ninS (own_ne_lo A1.lt (Nat.le_of_eq gb8.symm)) nin0)).ext E29).keep K40 (ninS (own_ne_lo (Nat.lt_of_lt_of_le A1.lt E8.1) f18) (ninS (own_ne_lo A1.lt (Nat.le_of_eq gb8.symm)) nin0)))
  have F116 := ((((F115.keep K57 (ninS (own_ne_lo (Nat.lt_of_lt_of_le A1.lt E8.1) f18) (ninS (own_ne_lo A1.lt (Nat.le_of_eq gb8.symm)) nin0))).ext E64).keep K75 (ninS (own_ne_lo A1.lt (Nat.le_of_eq gb8.symm)) nin0)).keep K91 nin0)
  have F117 := (((((D1 (Or.inl (ow hw 177)) (ty := (.object cN5)) (by decide)).ext E8).keep K15 (ninS (own_ne_lo A1.lt (Nat.le_of_eq gb8.symm)) nin0)).ext E29).keep K40 (ninS (own_ne_lo (Nat.lt_of_lt_of_le A1.lt E8.1) f18) (ninS (own_ne_lo A1.lt (Nat.le_of_eq gb8.symm)) nin0)))
  have F118 := ((((F117.keep K57 (ninS (own_ne_lo (Nat.lt_of_lt_of_le A1.lt E8.1) f18) (ninS (own_ne_lo A1.lt (Nat.le_of_eq gb8.symm)) nin0))).ext E64).keep K75 (ninS (own_ne_lo A1.lt (Nat.le_of_eq gb8.symm)) nin0)).keep K91 nin0)
  have F119 := (((((D1 (Or.inl (ow hw 209)) (ty := .int) (by decide)).ext E8).keep K15 (ninS (own_ne_lo A1.lt (Nat.le_of_eq gb8.symm)) nin0)).ext E29).keep K40 (ninS (own_ne_lo (Nat.lt_of_lt_of_le A1.lt E8.1) f18) (ninS (own_ne_lo A1.lt (Nat.le_of_eq gb8.symm)) nin0)))
  have F120 := ((((F119.keep K57 (ninS (own_ne_lo (Nat.lt_of_lt_of_le A1.lt E8.1) f18) (ninS (own_ne_lo A1.lt (Nat.le_of_eq gb8.symm)) nin0))).ext E64).keep K75 (ninS (own_ne_lo A1.lt (Nat.le_of_eq gb8.symm)) nin0)).keep K91 nin0)
  have F121 := (((((D1 (Or.inl (ow hw 207)) (ty := (.object cN1)) (by decide)).ext E8).keep K15 (ninS (own_ne_lo A1.lt (Nat.le_of_eq gb8.symm)) nin0)).ext E29).keep K40 (ninS (own_ne_lo (Nat.lt_of_lt_of_le A1.lt E8.1) f18) (ninS (own_ne_lo A1.lt (Nat.le_of_eq gb8.symm)) nin0)))
  have F122 := ((((F121.keep K57 (ninS (own_ne_lo (Nat.lt_of_lt_of_le A1.lt E8.1) f18) (ninS (own_ne_lo A1.lt (Nat.le_of_eq gb8.symm)) nin0))).ext E64).keep K75 (ninS (own_ne_lo A1.lt (Nat.le_of_eq gb8.symm)) nin0)).keep K91 nin0)
  have F123 := (((((D1 (Or.inr (ow hw 220)) (ty := (.object cN4)) (by decide)).ext E8).keep K15 (ninS (own_ne_lo A1.lt (Nat.le_of_eq gb8.symm)) nin0)).ext E29).keep K40 (ninS (own_ne_lo (Nat.lt_of_lt_of_le A1.lt E8.1) f18) (ninS (own_ne_lo A1.lt (Nat.le_of_eq gb8.symm)) nin0)))
  have F124 := ((((F123.keep K57 (ninS (own_ne_lo (Nat.lt_of_lt_of_le A1.lt E8.1) f18) (ninS (own_ne_lo A1.lt (Nat.le_of_eq gb8.symm)) nin0))).ext E64).keep K75 (ninS (own_ne_lo A1.lt (Nat.le_of_eq gb8.symm)) nin0)).keep K91 nin0)
  have F125 := (((((D1 (Or.inl (ow hw 180)) (ty := (.array (.object cN6))) (by decide)).ext E8).keep K15 (ninS (own_ne_lo A1.lt (Nat.le_of_eq gb8.symm)) nin0)).ext E29).keep K40 (ninS (own_ne_lo (Nat.lt_of_lt_of_le A1.lt E8.1) f18) (ninS (own_ne_lo A1.lt (Nat.le_of_eq gb8.symm)) nin0)))
  have F126 := ((((F125.keep K57 (ninS (own_ne_lo (Nat.lt_of_lt_of_le A1.lt E8.1) f18) (ninS (own_ne_lo A1.lt (Nat.le_of_eq gb8.symm)) nin0))).ext E64).keep K75 (ninS (own_ne_lo A1.lt (Nat.le_of_eq gb8.symm)) nin0)).keep K91 nin0)
  have F127 := (((((D1 (Or.inl (ow hw 183)) (ty := (.object "java/util/List")) (by decide)).ext E8).keep K15 (ninS (own_ne_lo A1.lt (Nat.le_of_eq gb8.symm)) nin0)).ext E29).keep K40 (ninS (own_ne_lo (Nat.lt_of_lt_of_le A1.lt E8.1) f18) (ninS (own_ne_lo A1.lt (Nat.le_of_eq gb8.symm)) nin0)))
  have F128 := ((((F127.keep K57 (ninS (own_ne_lo (Nat.lt_of_lt_of_le A1.lt E8.1) f18) (ninS (own_ne_lo A1.lt (Nat.le_of_eq gb8.symm)) nin0))).ext E64).keep K75 (ninS (own_ne_lo A1.lt (Nat.le_of_eq gb8.symm)) nin0)).keep K91 nin0)
  have F129 := (F90.keep K91 all0)
  obtain ⟨_, _, ⟨T130, L130, k130, n130⟩, -, X130, hs130, hg130, ⟨Lc130, hQ130, l130, y130, z130, ch130⟩, st130⟩ := X91.specialBackS hx (y := y29) rfl hown64 (mvT hZ64 (ow hw 161)) (mvT hZ64 (ow hw 162)) (mvT hZ64 (ow hw 163)) (by decide) (own_backSH (W := 1) (rm30_48 l Z a0 hw b1 o92 kw0 us up T91.heap n0 F129 EK0 F112 F114 F116 F118 F120 F122 F124 F126 F128 g2 Sus rf_us Sup rf_up hl rus) hZ64 (ow hw 163) (ow hw 24) (lb rfl) (lb rfl) (own_EW hw) CH108.1 all0 (fun _ => ⟨Vm.MethodsKnown.alikeC hS64.1.alike (hKn rfl).1, Vm.FramesKnown.alikeC hS64.1.alike (hKn rfl).2⟩)) (g := (mkF m 31 #[vR ra0] [.ref o92, .ref kw0, .ref b1, .ref b1])) rfl (zs hml) (Steps.refl _) (a := b1) (argsL := [.ref kw0, .ref o92]) (rest := [.ref b1]) (lenOf pd_23 rfl) rfl (lb rfl) (hb hby d4_31) (fun _ _ => ⟨rfl, rfl, (lb rfl), (lb rfl)⟩)
  dsimp only [Pt.U, Pt.locs, Pt.cells, Pt.slots] at X130 l130 y130 z130 st130 hQ130 hs130 hg130 ch130
  subst l130 y130 z130
  replace X130 := own_reb X130
  have F131 := (Nat.le_trans (Nat.le_trans hk64 K75.1) K91.1)
  obtain ⟨hZ130, hS130, hown130⟩ := own_after hZ64 hS64 rfl F131 hs130 hg130 hown64
  obtain ⟨rfl, Nq130, K130, f132, f133, f134, f135, f136⟩ := hQ130
  have N130 := Fr.app N91 Nq130
  have CH137 := CHr.trans CH108 ch130
  refine ot T130 (mkF m 34 #[vR ra0] [.ref b1]) st130 ?_
  have F138 := (F114.keep K130)
  have F139 := (f98.keep K130)
  have F140 := (f99.keep K130 (ninS (Ne.symm (own_ne_lo (Nat.lt_of_lt_of_le (Nat.lt_of_lt_of_le (Nat.lt_of_lt_of_le (Nat.lt_of_lt_of_le (Nat.lt_of_lt_of_le (Nat.lt_of_lt_of_le (Nat.lt_of_lt_of_le A1.lt E8.1) K15.1) E29.1) K40.1) K57.1) E64.1) K75.1) f96)) nin0))
  have F141 := (f100.keep K130 (ninS (Ne.symm (own_ne_lo (Nat.lt_of_lt_of_le (Nat.lt_of_lt_of_le (Nat.lt_of_lt_of_le (Nat.lt_of_lt_of_le (Nat.lt_of_lt_of_le (Nat.lt_of_lt_of_le (Nat.lt_of_lt_of_le A1.lt E8.1) K15.1) E29.1) K40.1) K57.1) E64.1) K75.1) f96)) nin0))
  have F142 := (f101.keep K130 (ninS (Ne.symm (own_ne_lo (Nat.lt_of_lt_of_le (Nat.lt_of_lt_of_le (Nat.lt_of_lt_of_le (Nat.lt_of_lt_of_le (Nat.lt_of_lt_of_le (Nat.lt_of_lt_of_le (Nat.lt_of_lt_of_le A1.lt E8.1) K15.1) E29.1) K40.1) K57.1) E64.1) K75.1) f97)) nin0))
  have K143 := (((((Keep.refl h0 []).ext E1).ext E8).trans K15 (allS (Or.inr z10) all0)).ext E29)
  have K144 := ((((K143.trans K40 (allS (Or.inr z24) (allS (Or.inr z10) all0))).trans K57 (allS (Or.inr z24) (allS (Or.inr z10) all0))).ext E64).trans K75 (allS (Or.inr z10) all0))
  have KEEP := ((K144.trans K91 all0).trans K130 (allS (Or.inr z3) all0))
  exact own_leaveW (s := s) (vm0 := T130.vm) X130 hS130 (Nat.le_refl _) hZ130 (own_EW hw) rfl CH137 hh hlk (v := some (.ref b1)) (own_nr hret) (lb rfl) (lb rfl) (by exact ⟨b1, o92, o93, kc94, hc95, rfl, N130, KEEP, z3, z103, z106, F138, f132, f133, f134, f135, f136, F139, F140, F141, F142⟩) (own_ra X130 hx hret rfl rfl rfl (hb hby d4_34))
abbrev R39_131 : Room := { frames := 4, cells := 0, slots := 0, locals := 53 }
def Q39_131 (Z : State) (ra0 ra1 : Addr) (kc2 : ClassId) (ci3 ci4 ci5 : Int32) (G3 : Value) (G1 : Int32) (h0 : Heap) (n0 : Nat) (v : Option Value) (h : Heap) (L : List Loc) : Prop := (v = some (.int 1) ∧ Fr n0 L ∧ h = h0)
theorem rm39_131 l Z a0 (hw : HW Z a0) ra0 ra1 kc2 (ci3 : Int32) (ci4 : Int32) (ci5 : Int32) (G3 : Value) (G1 : Int32) h0 n0 (OLD : Old Z n0 h0) (A' : Exa Z h0 ra0 cN1) (B' : Fld Z h0 ra0 cN1 "coder" "B" (.int 0)) (C' : Fld Z h0 ra0 cN1 "value" "[B" (.ref ra1)) (hl_ci3 : ¬ ci3 < 0 ∧ ¬ (255 : Int32) < ci3) (hl_ci4 : ¬ ci4 < 0 ∧ ¬ (255 : Int32) < ci4) (hl_ci5 : ¬ ci5 < 0 ∧ ¬ (255 : Int32) < ci5) (D' : Arv Z h0 ra1 kc2 .byte (30 : Int32) (own_by ([101, 118, 101, 110, 116, 32, 116, 121, 112, 101, 32, 34, ci3, ci4, ci5, 34, 32, 105, 115, 32, 110, 111, 116, 32, 109, 97, 112, 112, 101, 100] : List Int32)) (.int 0)) (O4 : Sta Z Z.heap "jdk/internal/util/Preconditions" "SIOOBE_FORMATTER" "Ljava/util/function/BiFunction;" G3) (rG3 : G3.isRef = true) (O2 : Sta Z Z.heap cN1 "COMPACT_STRINGS" "Z" (.int G1)) (P5 : ¬ (G1 = (0 : Int32))) :
    own_CN l Z y36 method_3_code 1 (some .boolean) [] R39_131 #[.ref ra0] h0 (Q39_131 Z ra0 ra1 kc2 ci3 ci4 ci5 G3 G1 h0 n0) := by
  refine own_entryN (plainFor_of_name pn_9) fun p e s m below meth c s₁ hx hby hml hown hnm hret hlk hZ hh X0 e0 => ?_
  have N0 := Fr.nil n0
  rw [ef_5_7 m ra0]
  refine og s₁ (mkF m 2 #[vR ra0] [.int 0, .ref ra0]) (fun _ k => qa X0 hx hby d39_0 rfl rfl rfl (qc X0 hx hby d39_1 rfl k)) ?_
  have hp1 : ∀ c ∈ ([101, 118, 101, 110, 116, 32, 116, 121, 112, 101, 32, 34, ci3, ci4, ci5, 34, 32, 105, 115, 32, 110, 111, 116, 32, 109, 97, 112, 112, 101, 100] : List Int32), ¬ c < 0 ∧ ¬ (255 : Int32) < c := by
    intro c hc
    simp only [List.mem_cons, List.not_mem_nil, or_false] at hc
    rcases hc with rfl | rfl | rfl | rfl | rfl | rfl | rfl | rfl | rfl | rfl | rfl | rfl | rfl | rfl | rfl | rfl | rfl | rfl | rfl | rfl | rfl | rfl | rfl | rfl | rfl | rfl | rfl | rfl | rfl | rfl
    · exact ⟨by decide, by decide⟩
    · exact ⟨by decide, by decide⟩
    · exact ⟨by decide, by decide⟩
    · exact ⟨by decide, by decide⟩
    · exact ⟨by decide, by decide⟩
    · exact ⟨by decide, by decide⟩
    · exact ⟨by decide, by decide⟩
    · exact ⟨by decide, by decide⟩
    · exact ⟨by decide, by decide⟩
    · exact ⟨by decide, by decide⟩
    · exact ⟨by decide, by decide⟩
    · exact ⟨by decide, by decide⟩
    · exact hl_ci3
    · exact hl_ci4
    · exact hl_ci5
    · exact ⟨by decide, by decide⟩
    · exact ⟨by decide, by decide⟩
    · exact ⟨by decide, by decide⟩
    · exact ⟨by decide, by decide⟩
    · exact ⟨by decide, by decide⟩
    · exact ⟨by decide, by decide⟩
    · exact ⟨by decide, by decide⟩
    · exact ⟨by decide, by decide⟩
    · exact ⟨by decide, by decide⟩
    · exact ⟨by decide, by decide⟩
    · exact ⟨by decide, by decide⟩
    · exact ⟨by decide, by decide⟩
    · exact ⟨by decide, by decide⟩
    · exact ⟨by decide, by decide⟩
    · exact ⟨by decide, by decide⟩
  obtain ⟨T2, X2, e2, st2⟩ := own_chA X0 hx hZ hown (ow hw 244) hw A' C' B' D' rfl hp1 e0 (O2.ext OLD.2) P5 (O4.ext OLD.2) rG3 (i := 0) (lb rfl) (g := (mkF m 2 #[vR ra0] [.int 0, .ref ra0])) rfl (zs hml) (rest := []) rfl (hb hby d39_2) (W := 0) rfl
  refine og T2 (mkF m 12 #[vR ra0] [.int 1, .ref ra0]) (fun _ k => st2 _ (qb X2 hx hby d39_5 rfl (qn X2 hx hby d39_7 rfl rfl (tq 101) (qa X2 hx hby d39_10 rfl rfl rfl (qc X2 hx hby d39_11 rfl k))))) ?_
  obtain ⟨T3, X3, e3, st3⟩ := own_chA X2 hx hZ hown (ow hw 244) hw A' C' B' D' rfl hp1 e2 (O2.ext OLD.2) P5 (O4.ext OLD.2) rG3 (i := 1) (lb rfl) (g := (mkF m 12 #[vR ra0] [.int 1, .ref ra0])) rfl (zs hml) (rest := []) rfl (hb hby d39_12) (W := 0) rfl
  refine og T3 (mkF m 22 #[vR ra0] [.int 2, .ref ra0]) (fun _ k => st3 _ (qb X3 hx hby d39_15 rfl (qn X3 hx hby d39_17 rfl rfl (tq 118) (qa X3 hx hby d39_20 rfl rfl rfl (qc X3 hx hby d39_21 rfl k))))) ?_
  obtain ⟨T4, X4, e4, st4⟩ := own_chA X3 hx hZ hown (ow hw 244) hw A' C' B' D' rfl hp1 e3 (O2.ext OLD.2) P5 (O4.ext OLD.2) rG3 (i := 2) (lb rfl) (g := (mkF m 22 #[vR ra0] [.int 2, .ref ra0])) rfl (zs hml) (rest := []) rfl (hb hby d39_22) (W := 0) rfl
  refine og T4 (mkF m 32 #[vR ra0] [.int 3, .ref ra0]) (fun _ k => st4 _ (qb X4 hx hby d39_25 rfl (qn X4 hx hby d39_27 rfl rfl (tq 101) (qa X4 hx hby d39_30 rfl rfl rfl (qc X4 hx hby d39_31 rfl k))))) ?_
  obtain ⟨T5, X5, e5, st5⟩ := own_chA X4 hx hZ hown (ow hw 244) hw A' C' B' D' rfl hp1 e4 (O2.ext OLD.2) P5 (O4.ext OLD.2) rG3 (i := 3) (lb rfl) (g := (mkF m 32 #[vR ra0] [.int 3, .ref ra0])) rfl (zs hml) (rest := []) rfl (hb hby d39_32) (W := 0) rfl
  refine og T5 (mkF m 42 #[vR ra0] [.int 4, .ref ra0]) (fun _ k => st5 _ (qb X5 hx hby d39_35 rfl (qn X5 hx hby d39_37 rfl rfl (tq 110) (qa X5 hx hby d39_40 rfl rfl rfl (qc X5 hx hby d39_41 rfl k))))) ?_
  obtain ⟨T6, X6, e6, st6⟩ := own_chA X5 hx hZ hown (ow hw 244) hw A' C' B' D' rfl hp1 e5 (O2.ext OLD.2) P5 (O4.ext OLD.2) rG3 (i := 4) (lb rfl) (g := (mkF m 42 #[vR ra0] [.int 4, .ref ra0])) rfl (zs hml) (rest := []) rfl (hb hby d39_42) (W := 0) rfl
  refine og T6 (mkF m 52 #[vR ra0] [.int 5, .ref ra0]) (fun _ k => st6 _ (qb X6 hx hby d39_45 rfl (qn X6 hx hby d39_47 rfl rfl (tq 116) (qa X6 hx hby d39_50 rfl rfl rfl (qc X6 hx hby d39_51 rfl k))))) ?_
  obtain ⟨T7, X7, e7, st7⟩ := own_chA X6 hx hZ hown (ow hw 244) hw A' C' B' D' rfl hp1 e6 (O2.ext OLD.2) P5 (O4.ext OLD.2) rG3 (i := 5) (lb rfl) (g := (mkF m 52 #[vR ra0] [.int 5, .ref ra0])) rfl (zs hml) (rest := []) rfl (hb hby d39_52) (W := 0) rfl
  refine og T7 (mkF m 63 #[vR ra0] [.int 6, .ref ra0]) (fun _ k => st7 _ (qb X7 hx hby d39_55 rfl (qn X7 hx hby d39_57 rfl rfl (tq 32) (qa X7 hx hby d39_60 rfl rfl rfl (qb X7 hx hby d39_61 rfl k))))) ?_
  obtain ⟨T8, X8, e8, st8⟩ := own_chA X7 hx hZ hown (ow hw 244) hw A' C' B' D' rfl hp1 e7 (O2.ext OLD.2) P5 (O4.ext OLD.2) rG3 (i := 6) (lb rfl) (g := (mkF m 63 #[vR ra0] [.int 6, .ref ra0])) rfl (zs hml) (rest := []) rfl (hb hby d39_63) (W := 0) rfl
  refine og T8 (mkF m 74 #[vR ra0] [.int 7, .ref ra0]) (fun _ k => st8 _ (qb X8 hx hby d39_66 rfl (qn X8 hx hby d39_68 rfl rfl (tq 116) (qa X8 hx hby d39_71 rfl rfl rfl (qb X8 hx hby d39_72 rfl k))))) ?_
  obtain ⟨T9, X9, e9, st9⟩ := own_chA X8 hx hZ hown (ow hw 244) hw A' C' B' D' rfl hp1 e8 (O2.ext OLD.2) P5 (O4.ext OLD.2) rG3 (i := 7) (lb rfl) (g := (mkF m 74 #[vR ra0] [.int 7, .ref ra0])) rfl (zs hml) (rest := []) rfl (hb hby d39_74) (W := 0) rfl
  refine og T9 (mkF m 85 #[vR ra0] [.int 8, .ref ra0]) (fun _ k => st9 _ (qb X9 hx hby d39_77 rfl (qn X9 hx hby d39_79 rfl rfl (tq 121) (qa X9 hx hby d39_82 rfl rfl rfl (qb X9 hx hby d39_83 rfl k))))) ?_
  obtain ⟨T10, X10, e10, st10⟩ := own_chA X9 hx hZ hown (ow hw 244) hw A' C' B' D' rfl hp1 e9 (O2.ext OLD.2) P5 (O4.ext OLD.2) rG3 (i := 8) (lb rfl) (g := (mkF m 85 #[vR ra0] [.int 8, .ref ra0])) rfl (zs hml) (rest := []) rfl (hb hby d39_85) (W := 0) rfl
  refine og T10 (mkF m 96 #[vR ra0] [.int 9, .ref ra0]) (fun _ k => st10 _ (qb X10 hx hby d39_88 rfl (qn X10 hx hby d39_90 rfl rfl (tq 112) (qa X10 hx hby d39_93 rfl rfl rfl (qb X10 hx hby d39_94 rfl k))))) ?_
  obtain ⟨T11, X11, e11, st11⟩ := own_chA X10 hx hZ hown (ow hw 244) hw A' C' B' D' rfl hp1 e10 (O2.ext OLD.2) P5 (O4.ext OLD.2) rG3 (i := 9) (lb rfl) (g := (mkF m 96 #[vR ra0] [.int 9, .ref ra0])) rfl (zs hml) (rest := []) rfl (hb hby d39_96) (W := 0) rfl
  refine og T11 (mkF m 107 #[vR ra0] [.int 10, .ref ra0]) (fun _ k => st11 _ (qb X11 hx hby d39_99 rfl (qn X11 hx hby d39_101 rfl rfl (tq 101) (qa X11 hx hby d39_104 rfl rfl rfl (qb X11 hx hby d39_105 rfl k))))) ?_
  obtain ⟨T12, X12, e12, st12⟩ := own_chA X11 hx hZ hown (ow hw 244) hw A' C' B' D' rfl hp1 e11 (O2.ext OLD.2) P5 (O4.ext OLD.2) rG3 (i := 10) (lb rfl) (g := (mkF m 107 #[vR ra0] [.int 10, .ref ra0])) rfl (zs hml) (rest := []) rfl (hb hby d39_107) (W := 0) rfl
  refine og T12 (mkF m 118 #[vR ra0] [.int 11, .ref ra0]) (fun _ k => st12 _ (qb X12 hx hby d39_110 rfl (qn X12 hx hby d39_112 rfl rfl (tq 32) (qa X12 hx hby d39_115 rfl rfl rfl (qb X12 hx hby d39_116 rfl k))))) ?_
  obtain ⟨T13, X13, e13, st13⟩ := own_chA X12 hx hZ hown (ow hw 244) hw A' C' B' D' rfl hp1 e12 (O2.ext OLD.2) P5 (O4.ext OLD.2) rG3 (i := 11) (lb rfl) (g := (mkF m 118 #[vR ra0] [.int 11, .ref ra0])) rfl (zs hml) (rest := []) rfl (hb hby d39_118) (W := 0) rfl
  refine og T13 (mkF m 131 #[vR ra0] [.int 1]) (fun _ k => st13 _ (qb X13 hx hby d39_121 rfl (qn X13 hx hby d39_123 rfl rfl (tq 34) (qc X13 hx hby d39_126 rfl (XS.goto X13.here hx rfl (pc0 := 127) (pc' := 131) rfl (hb hby d39_127) (by decide) (by decide) k))))) ?_
  exact own_leaveN X13 hlk (v := some (.int (nar .boolean (1 : Int32)))) (own_nr hret) (lb rfl) (lb rfl) (by rw [e13]; exact ⟨rfl, N0, rfl⟩) (fun fs hr => retN X13 hx (t := .boolean) hret (by simp) (hb hby d39_131) hr)
abbrev R45_132 : Room := { frames := 4, cells := 0, slots := 0, locals := 53 }
def Q45_132 (Z : State) (ra0 ra1 : Addr) (kc2 : ClassId) (ci3 ci4 ci5 : Int32) (G3 : Value) (G1 : Int32) (h0 : Heap) (n0 : Nat) (v : Option Value) (h : Heap) (L : List Loc) : Prop := (v = some (.int 1) ∧ Fr n0 L ∧ h = h0)
theorem rm45_132 l Z a0 (hw : HW Z a0) ra0 ra1 kc2 (ci3 : Int32) (ci4 : Int32) (ci5 : Int32) (G3 : Value) (G1 : Int32) h0 n0 (OLD : Old Z n0 h0) (A' : Exa Z h0 ra0 cN1) (B' : Fld Z h0 ra0 cN1 "coder" "B" (.int 0)) (C' : Fld Z h0 ra0 cN1 "value" "[B" (.ref ra1)) (hl_ci3 : ¬ ci3 < 0 ∧ ¬ (255 : Int32) < ci3) (hl_ci4 : ¬ ci4 < 0 ∧ ¬ (255 : Int32) < ci4) (hl_ci5 : ¬ ci5 < 0 ∧ ¬ (255 : Int32) < ci5) (D' : Arv Z h0 ra1 kc2 .byte (30 : Int32) (own_by ([101, 118, 101, 110, 116, 32, 116, 121, 112, 101, 32, 34, ci3, ci4, ci5, 34, 32, 105, 115, 32, 110, 111, 116, 32, 109, 97, 112, 112, 101, 100] : List Int32)) (.int 0)) (O4 : Sta Z Z.heap "jdk/internal/util/Preconditions" "SIOOBE_FORMATTER" "Ljava/util/function/BiFunction;" G3) (rG3 : G3.isRef = true) (O2 : Sta Z Z.heap cN1 "COMPACT_STRINGS" "Z" (.int G1)) (P5 : ¬ (G1 = (0 : Int32))) :
    own_CN l Z y37 method_4_code 2 (some .boolean) [] R45_132 #[.ref ra0, .int 15] h0 (Q45_132 Z ra0 ra1 kc2 ci3 ci4 ci5 G3 G1 h0 n0) := by
  refine own_entryN (plainFor_of_name pn_9) fun p e s m below meth c s₁ hx hby hml hown hnm hret hlk hZ hh X0 e0 => ?_
  have N0 := Fr.nil n0
  rw [ef_45_132 m ra0]
  refine og s₁ (mkF m 2 #[vR ra0, vI 15] [.int 15, .ref ra0]) (fun _ k => qa X0 hx hby d45_0 rfl rfl rfl (qi X0 hx hby d45_1 rfl rfl k)) ?_
  have hp1 : ∀ c ∈ ([101, 118, 101, 110, 116, 32, 116, 121, 112, 101, 32, 34, ci3, ci4, ci5, 34, 32, 105, 115, 32, 110, 111, 116, 32, 109, 97, 112, 112, 101, 100] : List Int32), ¬ c < 0 ∧ ¬ (255 : Int32) < c := by
    intro c hc
    simp only [List.mem_cons, List.not_mem_nil, or_false] at hc
    rcases hc with rfl | rfl | rfl | rfl | rfl | rfl | rfl | rfl | rfl | rfl | rfl | rfl | rfl | rfl | rfl | rfl | rfl | rfl | rfl | rfl | rfl | rfl | rfl | rfl | rfl | rfl | rfl | rfl | rfl | rfl
    · exact ⟨by decide, by decide⟩
    · exact ⟨by decide, by decide⟩
    · exact ⟨by decide, by decide⟩
    · exact ⟨by decide, by decide⟩
    · exact ⟨by decide, by decide⟩
    · exact ⟨by decide, by decide⟩
    · exact ⟨by decide, by decide⟩
    · exact ⟨by decide, by decide⟩
    · exact ⟨by decide, by decide⟩
    · exact ⟨by decide, by decide⟩
    · exact ⟨by decide, by decide⟩
    · exact ⟨by decide, by decide⟩
    · exact hl_ci3
    · exact hl_ci4
    · exact hl_ci5
    · exact ⟨by decide, by decide⟩
    · exact ⟨by decide, by decide⟩
    · exact ⟨by decide, by decide⟩
    · exact ⟨by decide, by decide⟩
    · exact ⟨by decide, by decide⟩
    · exact ⟨by decide, by decide⟩
    · exact ⟨by decide, by decide⟩
    · exact ⟨by decide, by decide⟩
    · exact ⟨by decide, by decide⟩
    · exact ⟨by decide, by decide⟩
    · exact ⟨by decide, by decide⟩
    · exact ⟨by decide, by decide⟩
    · exact ⟨by decide, by decide⟩
    · exact ⟨by decide, by decide⟩
    · exact ⟨by decide, by decide⟩
  obtain ⟨T2, X2, e2, st2⟩ := own_chA X0 hx hZ hown (ow hw 244) hw A' C' B' D' rfl hp1 e0 (O2.ext OLD.2) P5 (O4.ext OLD.2) rG3 (i := 15) (lb rfl) (g := (mkF m 2 #[vR ra0, vI 15] [.int 15, .ref ra0])) rfl (zs hml) (rest := []) rfl (hb hby d45_2) (W := 0) rfl
  refine og T2 (mkF m 14 #[vR ra0, vI 15] [.int 16, .ref ra0]) (fun _ k => st2 _ (qb X2 hx hby d45_5 rfl (qn X2 hx hby d45_7 rfl rfl (tq 34) (qa X2 hx hby d45_10 rfl rfl rfl (qi X2 hx hby d45_11 rfl rfl (qc X2 hx hby d45_12 rfl (qp X2 hx hby d45_13 rfl rfl k))))))) ?_
  obtain ⟨T3, X3, e3, st3⟩ := own_chA X2 hx hZ hown (ow hw 244) hw A' C' B' D' rfl hp1 e2 (O2.ext OLD.2) P5 (O4.ext OLD.2) rG3 (i := 16) (lb rfl) (g := (mkF m 14 #[vR ra0, vI 15] [.int 16, .ref ra0])) rfl (zs hml) (rest := []) rfl (hb hby d45_14) (W := 0) rfl
  refine og T3 (mkF m 26 #[vR ra0, vI 15] [.int 17, .ref ra0]) (fun _ k => st3 _ (qb X3 hx hby d45_17 rfl (qn X3 hx hby d45_19 rfl rfl (tq 32) (qa X3 hx hby d45_22 rfl rfl rfl (qi X3 hx hby d45_23 rfl rfl (qc X3 hx hby d45_24 rfl (qp X3 hx hby d45_25 rfl rfl k))))))) ?_
  obtain ⟨T4, X4, e4, st4⟩ := own_chA X3 hx hZ hown (ow hw 244) hw A' C' B' D' rfl hp1 e3 (O2.ext OLD.2) P5 (O4.ext OLD.2) rG3 (i := 17) (lb rfl) (g := (mkF m 26 #[vR ra0, vI 15] [.int 17, .ref ra0])) rfl (zs hml) (rest := []) rfl (hb hby d45_26) (W := 0) rfl
  refine og T4 (mkF m 38 #[vR ra0, vI 15] [.int 18, .ref ra0]) (fun _ k => st4 _ (qb X4 hx hby d45_29 rfl (qn X4 hx hby d45_31 rfl rfl (tq 105) (qa X4 hx hby d45_34 rfl rfl rfl (qi X4 hx hby d45_35 rfl rfl (qc X4 hx hby d45_36 rfl (qp X4 hx hby d45_37 rfl rfl k))))))) ?_
  obtain ⟨T5, X5, e5, st5⟩ := own_chA X4 hx hZ hown (ow hw 244) hw A' C' B' D' rfl hp1 e4 (O2.ext OLD.2) P5 (O4.ext OLD.2) rG3 (i := 18) (lb rfl) (g := (mkF m 38 #[vR ra0, vI 15] [.int 18, .ref ra0])) rfl (zs hml) (rest := []) rfl (hb hby d45_38) (W := 0) rfl
  refine og T5 (mkF m 50 #[vR ra0, vI 15] [.int 19, .ref ra0]) (fun _ k => st5 _ (qb X5 hx hby d45_41 rfl (qn X5 hx hby d45_43 rfl rfl (tq 115) (qa X5 hx hby d45_46 rfl rfl rfl (qi X5 hx hby d45_47 rfl rfl (qc X5 hx hby d45_48 rfl (qp X5 hx hby d45_49 rfl rfl k))))))) ?_
  obtain ⟨T6, X6, e6, st6⟩ := own_chA X5 hx hZ hown (ow hw 244) hw A' C' B' D' rfl hp1 e5 (O2.ext OLD.2) P5 (O4.ext OLD.2) rG3 (i := 19) (lb rfl) (g := (mkF m 50 #[vR ra0, vI 15] [.int 19, .ref ra0])) rfl (zs hml) (rest := []) rfl (hb hby d45_50) (W := 0) rfl
  refine og T6 (mkF m 62 #[vR ra0, vI 15] [.int 20, .ref ra0]) (fun _ k => st6 _ (qb X6 hx hby d45_53 rfl (qn X6 hx hby d45_55 rfl rfl (tq 32) (qa X6 hx hby d45_58 rfl rfl rfl (qi X6 hx hby d45_59 rfl rfl (qc X6 hx hby d45_60 rfl (qp X6 hx hby d45_61 rfl rfl k))))))) ?_
  obtain ⟨T7, X7, e7, st7⟩ := own_chA X6 hx hZ hown (ow hw 244) hw A' C' B' D' rfl hp1 e6 (O2.ext OLD.2) P5 (O4.ext OLD.2) rG3 (i := 20) (lb rfl) (g := (mkF m 62 #[vR ra0, vI 15] [.int 20, .ref ra0])) rfl (zs hml) (rest := []) rfl (hb hby d45_62) (W := 0) rfl
  refine og T7 (mkF m 75 #[vR ra0, vI 15] [.int 21, .ref ra0]) (fun _ k => st7 _ (qb X7 hx hby d45_65 rfl (qn X7 hx hby d45_67 rfl rfl (tq 110) (qa X7 hx hby d45_70 rfl rfl rfl (qi X7 hx hby d45_71 rfl rfl (qb X7 hx hby d45_72 rfl (qp X7 hx hby d45_74 rfl rfl k))))))) ?_
  obtain ⟨T8, X8, e8, st8⟩ := own_chA X7 hx hZ hown (ow hw 244) hw A' C' B' D' rfl hp1 e7 (O2.ext OLD.2) P5 (O4.ext OLD.2) rG3 (i := 21) (lb rfl) (g := (mkF m 75 #[vR ra0, vI 15] [.int 21, .ref ra0])) rfl (zs hml) (rest := []) rfl (hb hby d45_75) (W := 0) rfl
  refine og T8 (mkF m 88 #[vR ra0, vI 15] [.int 22, .ref ra0]) (fun _ k => st8 _ (qb X8 hx hby d45_78 rfl (qn X8 hx hby d45_80 rfl rfl (tq 111) (qa X8 hx hby d45_83 rfl rfl rfl (qi X8 hx hby d45_84 rfl rfl (qb X8 hx hby d45_85 rfl (qp X8 hx hby d45_87 rfl rfl k))))))) ?_
  obtain ⟨T9, X9, e9, st9⟩ := own_chA X8 hx hZ hown (ow hw 244) hw A' C' B' D' rfl hp1 e8 (O2.ext OLD.2) P5 (O4.ext OLD.2) rG3 (i := 22) (lb rfl) (g := (mkF m 88 #[vR ra0, vI 15] [.int 22, .ref ra0])) rfl (zs hml) (rest := []) rfl (hb hby d45_88) (W := 0) rfl
  refine og T9 (mkF m 101 #[vR ra0, vI 15] [.int 23, .ref ra0]) (fun _ k => st9 _ (qb X9 hx hby d45_91 rfl (qn X9 hx hby d45_93 rfl rfl (tq 116) (qa X9 hx hby d45_96 rfl rfl rfl (qi X9 hx hby d45_97 rfl rfl (qb X9 hx hby d45_98 rfl (qp X9 hx hby d45_100 rfl rfl k))))))) ?_
  obtain ⟨T10, X10, e10, st10⟩ := own_chA X9 hx hZ hown (ow hw 244) hw A' C' B' D' rfl hp1 e9 (O2.ext OLD.2) P5 (O4.ext OLD.2) rG3 (i := 23) (lb rfl) (g := (mkF m 101 #[vR ra0, vI 15] [.int 23, .ref ra0])) rfl (zs hml) (rest := []) rfl (hb hby d45_101) (W := 0) rfl
  refine og T10 (mkF m 114 #[vR ra0, vI 15] [.int 24, .ref ra0]) (fun _ k => st10 _ (qb X10 hx hby d45_104 rfl (qn X10 hx hby d45_106 rfl rfl (tq 32) (qa X10 hx hby d45_109 rfl rfl rfl (qi X10 hx hby d45_110 rfl rfl (qb X10 hx hby d45_111 rfl (qp X10 hx hby d45_113 rfl rfl k))))))) ?_
  obtain ⟨T11, X11, e11, st11⟩ := own_chA X10 hx hZ hown (ow hw 244) hw A' C' B' D' rfl hp1 e10 (O2.ext OLD.2) P5 (O4.ext OLD.2) rG3 (i := 24) (lb rfl) (g := (mkF m 114 #[vR ra0, vI 15] [.int 24, .ref ra0])) rfl (zs hml) (rest := []) rfl (hb hby d45_114) (W := 0) rfl
  refine og T11 (mkF m 127 #[vR ra0, vI 15] [.int 25, .ref ra0]) (fun _ k => st11 _ (qb X11 hx hby d45_117 rfl (qn X11 hx hby d45_119 rfl rfl (tq 109) (qa X11 hx hby d45_122 rfl rfl rfl (qi X11 hx hby d45_123 rfl rfl (qb X11 hx hby d45_124 rfl (qp X11 hx hby d45_126 rfl rfl k))))))) ?_
  obtain ⟨T12, X12, e12, st12⟩ := own_chA X11 hx hZ hown (ow hw 244) hw A' C' B' D' rfl hp1 e11 (O2.ext OLD.2) P5 (O4.ext OLD.2) rG3 (i := 25) (lb rfl) (g := (mkF m 127 #[vR ra0, vI 15] [.int 25, .ref ra0])) rfl (zs hml) (rest := []) rfl (hb hby d45_127) (W := 0) rfl
  refine og T12 (mkF m 140 #[vR ra0, vI 15] [.int 26, .ref ra0]) (fun _ k => st12 _ (qb X12 hx hby d45_130 rfl (qn X12 hx hby d45_132 rfl rfl (tq 97) (qa X12 hx hby d45_135 rfl rfl rfl (qi X12 hx hby d45_136 rfl rfl (qb X12 hx hby d45_137 rfl (qp X12 hx hby d45_139 rfl rfl k))))))) ?_
  obtain ⟨T13, X13, e13, st13⟩ := own_chA X12 hx hZ hown (ow hw 244) hw A' C' B' D' rfl hp1 e12 (O2.ext OLD.2) P5 (O4.ext OLD.2) rG3 (i := 26) (lb rfl) (g := (mkF m 140 #[vR ra0, vI 15] [.int 26, .ref ra0])) rfl (zs hml) (rest := []) rfl (hb hby d45_140) (W := 0) rfl
  refine og T13 (mkF m 153 #[vR ra0, vI 15] [.int 27, .ref ra0]) (fun _ k => st13 _ (qb X13 hx hby d45_143 rfl (qn X13 hx hby d45_145 rfl rfl (tq 112) (qa X13 hx hby d45_148 rfl rfl rfl (qi X13 hx hby d45_149 rfl rfl (qb X13 hx hby d45_150 rfl (qp X13 hx hby d45_152 rfl rfl k))))))) ?_
  obtain ⟨T14, X14, e14, st14⟩ := own_chA X13 hx hZ hown (ow hw 244) hw A' C' B' D' rfl hp1 e13 (O2.ext OLD.2) P5 (O4.ext OLD.2) rG3 (i := 27) (lb rfl) (g := (mkF m 153 #[vR ra0, vI 15] [.int 27, .ref ra0])) rfl (zs hml) (rest := []) rfl (hb hby d45_153) (W := 0) rfl
  refine og T14 (mkF m 166 #[vR ra0, vI 15] [.int 28, .ref ra0]) (fun _ k => st14 _ (qb X14 hx hby d45_156 rfl (qn X14 hx hby d45_158 rfl rfl (tq 112) (qa X14 hx hby d45_161 rfl rfl rfl (qi X14 hx hby d45_162 rfl rfl (qb X14 hx hby d45_163 rfl (qp X14 hx hby d45_165 rfl rfl k))))))) ?_
  obtain ⟨T15, X15, e15, st15⟩ := own_chA X14 hx hZ hown (ow hw 244) hw A' C' B' D' rfl hp1 e14 (O2.ext OLD.2) P5 (O4.ext OLD.2) rG3 (i := 28) (lb rfl) (g := (mkF m 166 #[vR ra0, vI 15] [.int 28, .ref ra0])) rfl (zs hml) (rest := []) rfl (hb hby d45_166) (W := 0) rfl
  refine og T15 (mkF m 179 #[vR ra0, vI 15] [.int 29, .ref ra0]) (fun _ k => st15 _ (qb X15 hx hby d45_169 rfl (qn X15 hx hby d45_171 rfl rfl (tq 101) (qa X15 hx hby d45_174 rfl rfl rfl (qi X15 hx hby d45_175 rfl rfl (qb X15 hx hby d45_176 rfl (qp X15 hx hby d45_178 rfl rfl k))))))) ?_
  obtain ⟨T16, X16, e16, st16⟩ := own_chA X15 hx hZ hown (ow hw 244) hw A' C' B' D' rfl hp1 e15 (O2.ext OLD.2) P5 (O4.ext OLD.2) rG3 (i := 29) (lb rfl) (g := (mkF m 179 #[vR ra0, vI 15] [.int 29, .ref ra0])) rfl (zs hml) (rest := []) rfl (hb hby d45_179) (W := 0) rfl
  refine og T16 (mkF m 192 #[vR ra0, vI 15] [.int 1]) (fun _ k => st16 _ (qb X16 hx hby d45_182 rfl (qn X16 hx hby d45_184 rfl rfl (tq 100) (qc X16 hx hby d45_187 rfl (XS.goto X16.here hx rfl (pc0 := 188) (pc' := 192) rfl (hb hby d45_188) (by decide) (by decide) k))))) ?_
  exact own_leaveN X16 hlk (v := some (.int (nar .boolean (1 : Int32)))) (own_nr hret) (lb rfl) (lb rfl) (by rw [e16]; exact ⟨rfl, N0, rfl⟩) (fun fs hr => retN X16 hx (t := .boolean) hret (by simp) (hb hby d45_192) hr)
def Qlaw (Z : State) (pi0 pi1 : Int32) (pi2 pi3 : Int32) (kw0 : Addr) (G1 : Int32) (us up G3 : Value) (h0 : Heap) (n0 : Nat) (v : Option Value) (h : Heap) (L : List Loc) : Prop := (v = some (.int 1) ∧ Fr n0 L)
theorem rmlaw l Z a0 (hw : HW Z a0) (pi0 : Int32) (pi1 : Int32) (pi2 : Int32) (pi3 : Int32) kw0 (G1 : Int32) (us : Value) (up : Value) (G3 : Value) h0 n0 (OLD : Old Z n0 h0) (SK0 : Sta Z Z.heap cN4 "UNMAPPED_TYPE" "Lcom/example/webhooks_to_ledger/webhookstoledger/HoldReason;" (.ref kw0)) (EK0 : Exa Z Z.heap kw0 cN4) (O2 : Sta Z Z.heap cN1 "COMPACT_STRINGS" "Z" (.int G1)) (P5 : ¬ (G1 = (0 : Int32))) (Sus : Sta Z Z.heap cN5 "UNASSIGNED_STACK" "[Ljava/lang/StackTraceElement;" us) (rf_us : us.isRef = true) (Sup : Sta Z Z.heap cN5 "SUPPRESSED_SENTINEL" "Ljava/util/List;" up) (rf_up : up.isRef = true) (hl : l.stackTraces = true) (rus : us.isRef = true) (O4 : Sta Z Z.heap "jdk/internal/util/Preconditions" "SIOOBE_FORMATTER" "Ljava/util/function/BiFunction;" G3) (rG3 : G3.isRef = true) :
    own_CW l Z true x code maxLocals ret tables_1 room_1 #[.int pi0, .int pi1, .int pi2, .int pi3] h0 [] (Qlaw Z pi0 pi1 pi2 pi3 kw0 G1 us up G3 h0 n0) := by
  refine own_entryW (plainFor_of_name pn_9) fun p e s m below meth c s₁ hx hby hml hown hnm hret hlk hZ hh hCH hSf hKn X0 e0 => ?_
  have N0 := Fr.nil n0
  have hS0 : s.Since s.vm h0.size := own_since s _
  have hk0 : h0.size ≤ h0.size := Nat.le_refl _
  have CH0 : CHr Z own_EL s.vm h0 s.vm h0 := CHr.refl hCH
  rw [ef_law m pi0 pi1 pi2 pi3]
  refine og s₁ (mkF m 10 #[vI pi0, vI pi1, vI pi2, vI pi3, vI (pi0 &&& (3 : Int32)), vU, vU, vU, vU, vU, vU] [(.int (pi1 &&& (255 : Int32)))]) (fun _ k => XS.iloadN X0.here hx rfl (hb hby at_0) rfl (XS.iconst X0.here hx rfl (hb hby at_1) (XS.iand X0.here hx rfl (hb hby at_2) rfl (XS.istore X0.here hx rfl (hb hby at_3) rfl (l' := #[vI pi0, vI pi1, vI pi2, vI pi3, vI (pi0 &&& (3 : Int32)), vU, vU, vU, vU, vU, vU]) rfl (XS.iloadN X0.here hx rfl (hb hby at_5) rfl (XS.sipush X0.here hx rfl (hb hby at_6) (XS.iand X0.here hx rfl (hb hby at_9) rfl k))))))) ?_
  refine og s₁ (mkF m 11 #[vI pi0, vI pi1, vI pi2, vI pi3, vI (pi0 &&& (3 : Int32)), vU, vU, vU, vU, vU, vU] [(.int (pi1 &&& (255 : Int32)))]) (fun _ k => XS.i2c X0.here hx rfl (hb hby at_10) rfl (by rw [i2c_mask]; exact k)) ?_
  refine og s₁ (mkF m 18 #[vI pi0, vI pi1, vI pi2, vI pi3, vI (pi0 &&& (3 : Int32)), vI (pi1 &&& (255 : Int32)), vU, vU, vU, vU, vU] [(.int (pi2 &&& (255 : Int32)))]) (fun _ k => XS.istore X0.here hx rfl (hb hby at_11) rfl (l' := #[vI pi0, vI pi1, vI pi2, vI pi3, vI (pi0 &&& (3 : Int32)), vI (pi1 &&& (255 : Int32)), vU, vU, vU, vU, vU]) rfl (XS.iloadN X0.here hx rfl (hb hby at_13) rfl (XS.sipush X0.here hx rfl (hb hby at_14) (XS.iand X0.here hx rfl (hb hby at_17) rfl k)))) ?_
  refine og s₁ (mkF m 19 #[vI pi0, vI pi1, vI pi2, vI pi3, vI (pi0 &&& (3 : Int32)), vI (pi1 &&& (255 : Int32)), vU, vU, vU, vU, vU] [(.int (pi2 &&& (255 : Int32)))]) (fun _ k => XS.i2c X0.here hx rfl (hb hby at_18) rfl (by rw [i2c_mask]; exact k)) ?_
  refine og s₁ (mkF m 26 #[vI pi0, vI pi1, vI pi2, vI pi3, vI (pi0 &&& (3 : Int32)), vI (pi1 &&& (255 : Int32)), vI (pi2 &&& (255 : Int32)), vU, vU, vU, vU] [(.int (pi3 &&& (255 : Int32)))]) (fun _ k => XS.istore X0.here hx rfl (hb hby at_19) rfl (l' := #[vI pi0, vI pi1, vI pi2, vI pi3, vI (pi0 &&& (3 : Int32)), vI (pi1 &&& (255 : Int32)), vI (pi2 &&& (255 : Int32)), vU, vU, vU, vU]) rfl (XS.iloadN X0.here hx rfl (hb hby at_21) rfl (XS.sipush X0.here hx rfl (hb hby at_22) (XS.iand X0.here hx rfl (hb hby at_25) rfl k)))) ?_
  refine og s₁ (mkF m 27 #[vI pi0, vI pi1, vI pi2, vI pi3, vI (pi0 &&& (3 : Int32)), vI (pi1 &&& (255 : Int32)), vI (pi2 &&& (255 : Int32)), vU, vU, vU, vU] [(.int (pi3 &&& (255 : Int32)))]) (fun _ k => XS.i2c X0.here hx rfl (hb hby at_26) rfl (by rw [i2c_mask]; exact k)) ?_
  refine og s₁ (mkF m 29 #[vI pi0, vI pi1, vI pi2, vI pi3, vI (pi0 &&& (3 : Int32)), vI (pi1 &&& (255 : Int32)), vI (pi2 &&& (255 : Int32)), vI (pi3 &&& (255 : Int32)), vU, vU, vU] []) (fun _ k => XS.istore X0.here hx rfl (hb hby at_27) rfl (l' := #[vI pi0, vI pi1, vI pi2, vI pi3, vI (pi0 &&& (3 : Int32)), vI (pi1 &&& (255 : Int32)), vI (pi2 &&& (255 : Int32)), vI (pi3 &&& (255 : Int32)), vU, vU, vU]) rfl k) ?_
  rcases own_and3 (pi0) with hm | hm | hm | hm
  · rw [hm]
    refine og s₁ (mkF m 34 #[vI pi0, vI pi1, vI pi2, vI pi3, vI 0, vI (pi1 &&& (255 : Int32)), vI (pi2 &&& (255 : Int32)), vI (pi3 &&& (255 : Int32)), vU, vU, vU] []) (fun _ k => XS.iload X0.here hx rfl (hb hby at_29) rfl (XS.ifNo X0.here hx rfl (hb hby at_31) rfl ((if0 _ _).trans (tq 0)) k)) ?_
    obtain ⟨T1, h1, X1, e1, E1, A1, D1, U1, st1⟩ := newO X0 hx hZ hown (ow hw 0) (ow hw 1) (ow hw 2) e0 (g := (mkF m 34 #[vI pi0, vI pi1, vI pi2, vI pi3, vI 0, vI (pi1 &&& (255 : Int32)), vI (pi2 &&& (255 : Int32)), vI (pi3 &&& (255 : Int32)), vU, vU, vU] [])) rfl (hb hby at_34) (lb rfl) (lb rfl)
    obtain ⟨b1, gb1⟩ : ∃ z, z = h0.size := ⟨_, rfl⟩
    rw [← gb1] at A1 D1 U1 st1
    have g2 : n0 ≤ b1 := Nat.le_trans (own_osz OLD) (Nat.le_of_eq gb1.symm)
    have z3 : h0.size ≤ b1 := Nat.le_trans (Nat.le_refl _) (Nat.le_of_eq gb1.symm)
    have ch4 := CHr.ext E1 CH0.1
    have CH5 := CHr.trans CH0 ch4
    have sf6 := own_safe_new CH0.1 E1 (Nat.le_of_eq gb1.symm)
    refine og T1 (mkF m 39 #[vI pi0, vI pi1, vI pi2, vI pi3, vI 0, vI (pi1 &&& (255 : Int32)), vI (pi2 &&& (255 : Int32)), vI (pi3 &&& (255 : Int32)), vU, vU, vU] [.int 0, .ref b1, .ref b1]) (fun _ k => st1 _ (XS.dup X1.here hx rfl (hb hby at_37) rfl rfl (XS.iconst X1.here hx rfl (hb hby at_38) k))) ?_
    obtain ⟨T7, h7, k7, X7, e7, E7, A7, st7⟩ := newP X1 hx hZ (ow hw 3) e1 (g := (mkF m 39 #[vI pi0, vI pi1, vI pi2, vI pi3, vI 0, vI (pi1 &&& (255 : Int32)), vI (pi2 &&& (255 : Int32)), vI (pi3 &&& (255 : Int32)), vU, vU, vU] [.int 0, .ref b1, .ref b1])) rfl (hb hby at_39) rfl (by decide) (cap := 0) (by decide) (lb rfl) (lb rfl) (lb rfl)
    obtain ⟨b7, gb7⟩ : ∃ z, z = h1.size := ⟨_, rfl⟩
    rw [← gb7] at A7 st7
    have F9 := (OLD.ext E1)
    have g8 : n0 ≤ b7 := Nat.le_trans (own_osz F9) (Nat.le_of_eq gb7.symm)
    have F11 := (Nat.le_trans (Nat.le_refl _) E1.1)
    have z10 : h0.size ≤ b7 := Nat.le_trans F11 (Nat.le_of_eq gb7.symm)
    have ch12 := CHr.ext E7 CH5.1
    have CH13 := CHr.trans CH5 ch12
    have V7 : Arv Z h7 b7 k7 .char (0 : Int32) [] (.int 0) := (Arv.new A7 (by decide)).pad (pad_rep [] (.int 0) 0)
    refine og T7 (mkF m 41 #[vI pi0, vI pi1, vI pi2, vI pi3, vI 0, vI (pi1 &&& (255 : Int32)), vI (pi2 &&& (255 : Int32)), vI (pi3 &&& (255 : Int32)), vU, vU, vU] [.ref b7, .ref b1, .ref b1]) st7 ?_
    have F14 := (A1.ext E7)
    have F15 := ((D1 (Or.inr (ow hw 17)) (ty := .byte) (by decide)).ext E7)
    have F16 := ((D1 (Or.inr (ow hw 16)) (ty := (.array .byte)) (by decide)).ext E7)
    have F17 := (F9.ext E7)
    have F18 := (Nat.lt_of_lt_of_le A1.lt E7.1)
    obtain ⟨_, _, ⟨T19, L19, k19, n19⟩, -, X19, hs19, hg19, ⟨Lc19, hQ19, l19, y19, z19, ch19⟩, st19⟩ := X7.specialBackS hx (y := y1) rfl hown (mvT hZ (ow hw 4)) (mvT hZ (ow hw 5)) (mvT hZ (ow hw 6)) (by decide) (own_backSH (W := 1) (rm1_5 l Z a0 hw b1 b7 k7 h7 n0 F17 F14 F15 F16 V7 g2) hZ (ow hw 6) (ow hw 2) (lb rfl) (lb rfl) (own_EW hw) CH13.1 (allS ⟨F18, (CHr.safe ch12 A1.lt sf6)⟩ all0) nofun) (g := (mkF m 41 #[vI pi0, vI pi1, vI pi2, vI pi3, vI 0, vI (pi1 &&& (255 : Int32)), vI (pi2 &&& (255 : Int32)), vI (pi3 &&& (255 : Int32)), vU, vU, vU] [.ref b7, .ref b1, .ref b1])) rfl (zs hml) (Steps.refl _) (a := b1) (argsL := [.ref b7]) (rest := [.ref b1]) (lenOf pd_1 rfl) rfl (lb rfl) (hb hby at_41) (fun _ _ => ⟨rfl, e7, (lb rfl), (lb rfl)⟩)
    dsimp only [Pt.U, Pt.locs, Pt.cells, Pt.slots] at X19 l19 y19 z19 st19 hQ19 hs19 hg19 ch19
    subst l19 y19 z19
    replace X19 := own_reb X19
    have F20 := (Nat.le_trans (Nat.le_trans hk0 E1.1) E7.1)
    obtain ⟨hZ19, hS19, hown19⟩ := own_after hZ hS0 e7 F20 hs19 hg19 hown
    obtain ⟨o21, kc22, rfl, Nq19, K19, f23, f24, f25, f26⟩ := hQ19
    have N19 := Fr.app N0 Nq19
    have CH27 := CHr.trans CH13 ch19
    refine og T19 (mkF m 125 #[vI pi0, vI pi1, vI pi2, vI pi3, vI 0, vI (pi1 &&& (255 : Int32)), vI (pi2 &&& (255 : Int32)), vI (pi3 &&& (255 : Int32)), vR b1, vU, vU] [.ref b1]) (fun _ k => st19.trans (XS.astore X19.here hx rfl (hb hby at_44) rfl rfl (l' := #[vI pi0, vI pi1, vI pi2, vI pi3, vI 0, vI (pi1 &&& (255 : Int32)), vI (pi2 &&& (255 : Int32)), vI (pi3 &&& (255 : Int32)), vR b1, vU, vU]) rfl (XS.goto X19.here hx rfl (pc0 := 46) (pc' := 123) rfl (hb hby at_46) (by decide) (by decide) (XS.aload X19.here hx rfl (hb hby at_123) rfl rfl k)))) ?_
    have F28 := (F14.keep K19)
    have F29 := (F17.keep K19 (allS g2 all0))
    obtain ⟨_, _, ⟨T30, L30, k30, n30⟩, -, X30, hs30, hg30, ⟨Lc30, hQ30, l30, y30, z30, ch30⟩, st30⟩ := callSS X19 hx (y := y30) hown19 (mvT hZ19 (ow hw 22)) (mvT hZ19 (ow hw 23)) (mvT hZ19 (ow hw 24)) (mvT hZ19 (ow hw 25)) (by decide) (own_backSH (W := 0) (rm4_9 l Z a0 hw b1 o21 kc22 kw0 G1 us up T19.heap n0 F29 F28 f24 f25 f26 SK0 EK0 O2 P5 Sus rf_us Sup rf_up hl rus) hZ19 (ow hw 25) (ow hw 24) (lb rfl) (lb rfl) (own_EW hw) CH27.1 all0 (fun _ => ⟨Vm.MethodsKnown.alikeC hS19.1.alike (hKn rfl).1, Vm.FramesKnown.alikeC hS19.1.alike (hKn rfl).2⟩)) (g := (mkF m 125 #[vI pi0, vI pi1, vI pi2, vI pi3, vI 0, vI (pi1 &&& (255 : Int32)), vI (pi2 &&& (255 : Int32)), vI (pi3 &&& (255 : Int32)), vR b1, vU, vU] [.ref b1])) rfl (zs hml) (argsL := [.ref b1]) (rest := []) (lenOf pd_24 rfl) rfl (lb rfl) (hb hby at_125) (fun _ _ => ⟨rfl, rfl, (lb rfl), (lb rfl)⟩)
    dsimp only [Pt.U, Pt.locs, Pt.cells, Pt.slots] at X30 l30 y30 z30 st30 hQ30 hs30 hg30 ch30
    subst l30 y30 z30
    replace X30 := own_reb X30
    obtain ⟨hZ30, hS30, hown30⟩ := own_after hZ19 hS19 rfl (Nat.le_refl _) hs30 hg30 hown19
    obtain ⟨o31, o32, o33, kc34, hc35, rfl, Nq30, K30, f36, f37, f38, f39, f40, f41, f42, f43, f44, f45, f46, f47, f48⟩ := hQ30
    have N30 := Fr.app N19 Nq30
    have g49 : n0 ≤ o31 := Nat.le_trans (own_osz F29) f36
    have F51 := (Nat.le_trans (Nat.le_trans F11 E7.1) K19.1)
    have z50 : h0.size ≤ o31 := Nat.le_trans F51 f36
    have g52 : n0 ≤ o32 := Nat.le_trans (own_osz F29) f37
    have z53 : h0.size ≤ o32 := Nat.le_trans F51 f37
    have g54 : n0 ≤ o33 := Nat.le_trans (own_osz F29) f38
    have z55 : h0.size ≤ o33 := Nat.le_trans F51 f38
    have CH56 := CHr.trans CH27 ch30
    refine og T30 (mkF m 139 #[vI pi0, vI pi1, vI pi2, vI pi3, vI 0, vI (pi1 &&& (255 : Int32)), vI (pi2 &&& (255 : Int32)), vI (pi3 &&& (255 : Int32)), vR b1, vR o31, vU] [.ref o31]) (fun _ k => st30.trans (XS.astore X30.here hx rfl (hb hby at_128) rfl rfl (l' := #[vI pi0, vI pi1, vI pi2, vI pi3, vI 0, vI (pi1 &&& (255 : Int32)), vI (pi2 &&& (255 : Int32)), vI (pi3 &&& (255 : Int32)), vR b1, vR o31, vU]) rfl (XS.aload X30.here hx rfl (hb hby at_130) rfl rfl (XS.ifnonnullYes X30.here hx rfl (pc0 := 132) (pc' := 137) rfl (hb hby at_132) rfl (by decide) (by decide) (XS.aload X30.here hx rfl (hb hby at_137) rfl rfl k))))) ?_
    have F57 := (F29.keep K30 all0)
    obtain ⟨_, T58, L58, X58, hQ58, st58⟩ := own_vc X30 hx hZ30 hown30 (ow hw 221) (ow hw 222) (ow hw 224) (ow hw 223) f39 (rm36_50 l Z a0 hw o31 kw0 T30.heap n0 F57 f43) (ow hw 225) (ow hw 24) rfl (g := (mkF m 139 #[vI pi0, vI pi1, vI pi2, vI pi3, vI 0, vI (pi1 &&& (255 : Int32)), vI (pi2 &&& (255 : Int32)), vI (pi3 &&& (255 : Int32)), vR b1, vR o31, vU] [.ref o31])) rfl (zs hml) (argsL := []) (rest := []) (lenOf pd_25 rfl) rfl (hb hby at_139) (W := 0) rfl
    obtain ⟨rfl, Nq58, eq58⟩ := hQ58
    have N58 := Fr.app N30 Nq58
    refine ot T58 (mkF m 142 #[vI pi0, vI pi1, vI pi2, vI pi3, vI 0, vI (pi1 &&& (255 : Int32)), vI (pi2 &&& (255 : Int32)), vI (pi3 &&& (255 : Int32)), vR b1, vR o31, vU] [.ref kw0]) st58 ?_
    obtain ⟨T59, X59, e59, st59⟩ := getS2 X58 hx hZ30 hown30 (host := "") (Or.inl (ow hw 226)) Via.refl eq58 (SK0.ext F57.2) (g := (mkF m 142 #[vI pi0, vI pi1, vI pi2, vI pi3, vI 0, vI (pi1 &&& (255 : Int32)), vI (pi2 &&& (255 : Int32)), vI (pi3 &&& (255 : Int32)), vR b1, vR o31, vU] [.ref kw0])) rfl (hb hby at_142)
    refine og T59 (mkF m 152 #[vI pi0, vI pi1, vI pi2, vI pi3, vI 0, vI (pi1 &&& (255 : Int32)), vI (pi2 &&& (255 : Int32)), vI (pi3 &&& (255 : Int32)), vR b1, vR o31, vU] [.ref o31]) (fun _ k => st59 _ (Jvm.RoadKit.acmp (g := (mkF m 145 #[vI pi0, vI pi1, vI pi2, vI pi3, vI 0, vI (pi1 &&& (255 : Int32)), vI (pi2 &&& (255 : Int32)), vI (pi3 &&& (255 : Int32)), vR b1, vR o31, vU] [.ref kw0, .ref kw0])) X59 hx rfl rfl rfl (pc0 := 145) (pc' := 150) (same := true) rfl (hb hby at_145) rfl (decide_eq_true rfl) (by decide) (by decide) (XS.aload X59.here hx rfl (hb hby at_150) rfl rfl k))) ?_
    obtain ⟨cq60, kq60, q60a, q60b, q60c⟩ := isOf hZ30 e59 f39
    obtain ⟨_, _, ⟨T60, L60, k60, n60⟩, -, X60, ⟨hv60, eq60, l60, y60, z60⟩, st60⟩ := X59.virtualBackUp hx (x := y32) (y := y33) hown30 (mvT hZ30 (ow hw 227)) (mvT hZ30 (ow hw 228)) (mvT hZ30 (ow hw 229)) (by decide) (mvT hZ30 (ow hw 231)) (mvT hZ30 (ow hw 230)) (gcBackPure (rm := { frames := 0, cells := 0, slots := 0, locals := 0 }) (W := 0) hZ30 (ow hw 232) (ow hw 230) (ow hw 173) (ow hw 176) f40 f41 rfl (lb rfl) (lb rfl)) q60a q60c (g := (mkF m 152 #[vI pi0, vI pi1, vI pi2, vI pi3, vI 0, vI (pi1 &&& (255 : Int32)), vI (pi2 &&& (255 : Int32)), vI (pi3 &&& (255 : Int32)), vR b1, vR o31, vU] [.ref o31])) rfl (zs hml) (Steps.refl _) (argsL := []) (rest := []) (lenOf pd_26 rfl) rfl (lb rfl) (hb hby at_152) (fun _ _ => ⟨rfl, e59, (lb rfl), (lb rfl)⟩)
    dsimp only [Pt.U, Pt.locs, Pt.cells, Pt.slots] at X60 l60 y60 z60 st60 hv60 eq60
    subst l60 y60 z60
    rw [gcv_self] at hv60
    subst hv60
    refine og T60 (mkF m 162 #[vI pi0, vI pi1, vI pi2, vI pi3, vI 0, vI (pi1 &&& (255 : Int32)), vI (pi2 &&& (255 : Int32)), vI (pi3 &&& (255 : Int32)), vR b1, vR o31, vU] [.ref o31]) (fun _ k => st60.trans (XS.ifnullYes X60.here hx rfl (pc0 := 155) (pc' := 160) rfl (hb hby at_155) rfl (by decide) (by decide) (XS.aload X60.here hx rfl (hb hby at_160) rfl rfl k))) ?_
    obtain ⟨cq62, kq62, q62a, q62b, q62c⟩ := isOf hZ30 eq60 f39
    obtain ⟨_, _, ⟨T62, L62, k62, n62⟩, -, X62, ⟨Lc62, hQ62, l62, y62, z62⟩, st62⟩ := X60.virtualBackUp hx (x := y35) (y := y34) hown30 (mvT hZ30 (ow hw 233)) (mvT hZ30 (ow hw 234)) (mvT hZ30 (ow hw 235)) (by decide) (mvT hZ30 (ow hw 237)) (mvT hZ30 (ow hw 236)) (backOf (W := 0) (rm38_51 l Z a0 hw o31 o32 T30.heap n0 F57 f42) hZ30 (ow hw 238) (ow hw 173) (lb rfl) (lb rfl)) q62a q62c (g := (mkF m 162 #[vI pi0, vI pi1, vI pi2, vI pi3, vI 0, vI (pi1 &&& (255 : Int32)), vI (pi2 &&& (255 : Int32)), vI (pi3 &&& (255 : Int32)), vR b1, vR o31, vU] [.ref o31])) rfl (zs hml) (Steps.refl _) (argsL := []) (rest := []) (lenOf pd_21 rfl) rfl (lb rfl) (hb hby at_162) (fun _ _ => ⟨rfl, eq60, (lb rfl), (lb rfl)⟩)
    dsimp only [Pt.U, Pt.locs, Pt.cells, Pt.slots] at X62 l62 y62 z62 st62 hQ62
    subst l62 y62 z62
    obtain ⟨rfl, Nq62, eq62⟩ := hQ62
    have N62 := Fr.app N58 Nq62
    refine og T62 (mkF m 174 #[vI pi0, vI pi1, vI pi2, vI pi3, vI 0, vI (pi1 &&& (255 : Int32)), vI (pi2 &&& (255 : Int32)), vI (pi3 &&& (255 : Int32)), vR b1, vR o31, vR o32] [.ref o32]) (fun _ k => st62.trans (XS.astore X62.here hx rfl (hb hby at_165) rfl rfl (l' := #[vI pi0, vI pi1, vI pi2, vI pi3, vI 0, vI (pi1 &&& (255 : Int32)), vI (pi2 &&& (255 : Int32)), vI (pi3 &&& (255 : Int32)), vR b1, vR o31, vR o32]) rfl (XS.aload X62.here hx rfl (hb hby at_167) rfl rfl (XS.ifnullNo X62.here hx rfl (hb hby at_169) rfl (XS.aload X62.here hx rfl (hb hby at_172) rfl rfl k))))) ?_
    have hp63 : own_L cL0 := own_hpl _ rfl
    have hp64 : own_L cL1 := own_hpl _ rfl
    obtain ⟨T65, X65, e65, st65⟩ := own_lenA X62 hx hZ30 hown30 (ow hw 239) hw f45 f47 f46 f48 (own_la rfl rfl) (own_happ hp63 hp64) eq62 (O2.ext F57.2) P5 (g := (mkF m 174 #[vI pi0, vI pi1, vI pi2, vI pi3, vI 0, vI (pi1 &&& (255 : Int32)), vI (pi2 &&& (255 : Int32)), vI (pi3 &&& (255 : Int32)), vR b1, vR o31, vR o32] [.ref o32])) rfl (zs hml) (rest := []) rfl (hb hby at_174) (W := 0) rfl
    refine og T65 (mkF m 189 #[vI pi0, vI pi1, vI pi2, vI pi3, vI 0, vI (pi1 &&& (255 : Int32)), vI (pi2 &&& (255 : Int32)), vI (pi3 &&& (255 : Int32)), vR b1, vR o31, vR o32] [.ref o32]) (fun _ k => st65 _ (XS.bipush X65.here hx rfl (hb hby at_177) (XS.iload X65.here hx rfl (hb hby at_179) rfl (XS.iadd X65.here hx rfl (hb hby at_181) rfl (XS.icmpYes X65.here hx rfl (pc0 := 182) (pc' := 187) rfl (hb hby at_182) rfl (teq (by decide : (27 : Int32) = (27 : Int32))).1 (by decide) (by decide) (XS.aload X65.here hx rfl (hb hby at_187) rfl rfl k)))))) ?_
    obtain ⟨_, T66, L66, X66, hQ66, st66⟩ := own_tc X65 hx hZ30 hown30 (ow hw 240) (ow hw 241) (rm39_52 l Z a0 hw o32 o33 kc34 G3 G1 T30.heap n0 F57 f45 f46 f47 f48 O4 rG3 O2 P5) (ow hw 243) (ow hw 242) e65 (g := (mkF m 189 #[vI pi0, vI pi1, vI pi2, vI pi3, vI 0, vI (pi1 &&& (255 : Int32)), vI (pi2 &&& (255 : Int32)), vI (pi3 &&& (255 : Int32)), vR b1, vR o31, vR o32] [.ref o32])) rfl (zs hml) (argsL := [.ref o32]) (rest := []) (lenOf pd_27 rfl) rfl (hb hby at_189) (W := 0) rfl
    obtain ⟨rfl, Nq66, eq66⟩ := hQ66
    have N66 := Fr.app N62 Nq66
    refine og T66 (mkF m 257 #[vI pi0, vI pi1, vI pi2, vI pi3, vI 0, vI (pi1 &&& (255 : Int32)), vI (pi2 &&& (255 : Int32)), vI (pi3 &&& (255 : Int32)), vR b1, vR o31, vR o32] []) (fun _ k => st66.trans (XS.ifYes X66.here hx rfl (pc0 := 192) (pc' := 197) rfl (hb hby at_192) rfl ((if0 _ _).trans (feq (by decide : ¬ ((1 : Int32) = (0 : Int32)))).2) (by decide) (by decide) (XS.iload X66.here hx rfl (hb hby at_197) rfl (XS.iconst X66.here hx rfl (hb hby at_199) (XS.icmpYes X66.here hx rfl (pc0 := 200) (pc' := 217) rfl (hb hby at_200) rfl (tlt (by decide : (0 : Int32) < (1 : Int32))).1 (by decide) (by decide) (XS.iload X66.here hx rfl (hb hby at_217) rfl (XS.iconst X66.here hx rfl (hb hby at_219) (XS.icmpYes X66.here hx rfl (pc0 := 220) (pc' := 237) rfl (hb hby at_220) rfl (tlt (by decide : (0 : Int32) < (2 : Int32))).1 (by decide) (by decide) (XS.iload X66.here hx rfl (hb hby at_237) rfl (XS.iconst X66.here hx rfl (hb hby at_239) (XS.icmpYes X66.here hx rfl (pc0 := 240) (pc' := 257) rfl (hb hby at_240) rfl (tlt (by decide : (0 : Int32) < (3 : Int32))).1 (by decide) (by decide) k))))))))))) ?_
    refine og T66 (mkF m 264 #[vI pi0, vI pi1, vI pi2, vI pi3, vI 0, vI (pi1 &&& (255 : Int32)), vI (pi2 &&& (255 : Int32)), vI (pi3 &&& (255 : Int32)), vR b1, vR o31, vR o32] [.int 12, .ref o32]) (fun _ k => XS.aload X66.here hx rfl (hb hby at_257) rfl rfl (XS.bipush X66.here hx rfl (hb hby at_259) (XS.iload X66.here hx rfl (hb hby at_261) rfl (XS.iadd X66.here hx rfl (hb hby at_263) rfl k)))) ?_
    obtain ⟨_, T67, L67, X67, hQ67, st67⟩ := own_tc X66 hx hZ30 hown30 (ow hw 266) (ow hw 267) (rm45_53 l Z a0 hw o32 o33 kc34 G3 G1 T30.heap n0 F57 f45 f46 f47 f48 O4 rG3 O2 P5) (ow hw 268) (ow hw 242) eq66 (g := (mkF m 264 #[vI pi0, vI pi1, vI pi2, vI pi3, vI 0, vI (pi1 &&& (255 : Int32)), vI (pi2 &&& (255 : Int32)), vI (pi3 &&& (255 : Int32)), vR b1, vR o31, vR o32] [.int 12, .ref o32])) rfl (zs hml) (argsL := [.ref o32, .int 12]) (rest := []) (lenOf pd_28 rfl) rfl (hb hby at_264) (W := 0) rfl
    obtain ⟨rfl, Nq67, eq67⟩ := hQ67
    have N67 := Fr.app N66 Nq67
    refine ot T67 (mkF m 267 #[vI pi0, vI pi1, vI pi2, vI pi3, vI 0, vI (pi1 &&& (255 : Int32)), vI (pi2 &&& (255 : Int32)), vI (pi3 &&& (255 : Int32)), vR b1, vR o31, vR o32] [.int 1]) st67 ?_
    exact own_leaveW (s := s) (vm0 := T30.vm) X67 hS30 (Nat.le_refl _) hZ30 (own_EW hw) eq67 CH56 hh hlk (v := some (.int (nar .boolean (1 : Int32)))) (own_nr hret) (lb rfl) (lb rfl) (by rw [eq67]; exact ⟨rfl, N67⟩) (fun fs hr => retN X67 hx (t := .boolean) hret (by simp) (hb hby at_267) hr)
  · rw [hm]
    refine og s₁ (mkF m 57 #[vI pi0, vI pi1, vI pi2, vI pi3, vI 1, vI (pi1 &&& (255 : Int32)), vI (pi2 &&& (255 : Int32)), vI (pi3 &&& (255 : Int32)), vU, vU, vU] [(.int (pi1 &&& (255 : Int32)))]) (fun _ k => XS.iload X0.here hx rfl (hb hby at_29) rfl (XS.ifYes X0.here hx rfl (pc0 := 31) (pc' := 49) rfl (hb hby at_31) rfl ((if0 _ _).trans (feq (by decide : ¬ ((1 : Int32) = (0 : Int32)))).2) (by decide) (by decide) (XS.iload X0.here hx rfl (hb hby at_49) rfl (XS.iconst X0.here hx rfl (hb hby at_51) (XS.icmpNo X0.here hx rfl (hb hby at_52) rfl (tq 1) (XS.iload X0.here hx rfl (hb hby at_55) rfl k)))))) ?_
    obtain ⟨_, T68, L68, X68, hQ68, st68⟩ := own_tc X0 hx hZ hown (ow hw 279) (ow hw 280) (rm49_54 l Z a0 hw ((pi1 &&& (255 : Int32))) G1 h0 n0 OLD O2 P5 (own_m255 _).2) (ow hw 281) (ow hw 2) e0 (g := (mkF m 57 #[vI pi0, vI pi1, vI pi2, vI pi3, vI 1, vI (pi1 &&& (255 : Int32)), vI (pi2 &&& (255 : Int32)), vI (pi3 &&& (255 : Int32)), vU, vU, vU] [(.int (pi1 &&& (255 : Int32)))])) rfl (zs hml) (argsL := [(.int (pi1 &&& (255 : Int32)))]) (rest := []) (lenOf pd_32 rfl) rfl (hb hby at_57) (W := 0) rfl
    obtain ⟨o69, o70, kc71, rfl, Nq68, K68, f72, f73, f74, f75, f76, f77⟩ := hQ68
    have N68 := Fr.app N0 Nq68
    have g78 : n0 ≤ o69 := Nat.le_trans (own_osz OLD) f72
    have z79 : h0.size ≤ o69 := Nat.le_trans (Nat.le_refl _) f72
    have g80 : n0 ≤ o70 := Nat.le_trans (own_osz OLD) f73
    have z81 : h0.size ≤ o70 := Nat.le_trans (Nat.le_refl _) f73
    have ch82 := CHr.keep K68 all0 CH0.1
    have CH83 := CHr.trans CH0 ch82
    have sf84 := Safe.keep K68 all0 CH0.1 (Safe.new f72)
    have sf85 := Safe.keep K68 all0 CH0.1 (Safe.new f73)
    refine og T68 (mkF m 125 #[vI pi0, vI pi1, vI pi2, vI pi3, vI 1, vI (pi1 &&& (255 : Int32)), vI (pi2 &&& (255 : Int32)), vI (pi3 &&& (255 : Int32)), vR o69, vU, vU] [.ref o69]) (fun _ k => st68.trans (XS.astore X68.here hx rfl (hb hby at_60) rfl rfl (l' := #[vI pi0, vI pi1, vI pi2, vI pi3, vI 1, vI (pi1 &&& (255 : Int32)), vI (pi2 &&& (255 : Int32)), vI (pi3 &&& (255 : Int32)), vR o69, vU, vU]) rfl (XS.goto X68.here hx rfl (pc0 := 62) (pc' := 123) rfl (hb hby at_62) (by decide) (by decide) (XS.aload X68.here hx rfl (hb hby at_123) rfl rfl k)))) ?_
    have hp86 : ∀ c ∈ ([(pi1 &&& 255)] : List Int32), ¬ c < 0 ∧ ¬ (255 : Int32) < c := by
      intro c hc
      simp only [List.mem_cons, List.not_mem_nil, or_false] at hc
      rcases hc with rfl
      · exact (own_m255 _)
    have F87 := (OLD.keep K68 all0)
    obtain ⟨_, _, ⟨T88, L88, k88, n88⟩, -, X88, hs88, hg88, ⟨Lc88, hQ88, l88, y88, z88, ch88⟩, st88⟩ := callSS X68 hx (y := y30) hown (mvT hZ (ow hw 22)) (mvT hZ (ow hw 23)) (mvT hZ (ow hw 24)) (mvT hZ (ow hw 25)) (by decide) (own_backSH (W := 0) (rm4_59 l Z a0 hw o69 o70 kc71 (([(pi1 &&& 255)] : List Int32)) kw0 G1 us up T68.heap n0 F87 f74 f76 f75 rfl hp86 f77 SK0 EK0 O2 P5 Sus rf_us Sup rf_up hl rus) hZ (ow hw 25) (ow hw 24) (lb rfl) (lb rfl) (own_EW hw) CH83.1 all0 (fun _ => ⟨Vm.MethodsKnown.alikeC hS0.1.alike (hKn rfl).1, Vm.FramesKnown.alikeC hS0.1.alike (hKn rfl).2⟩)) (g := (mkF m 125 #[vI pi0, vI pi1, vI pi2, vI pi3, vI 1, vI (pi1 &&& (255 : Int32)), vI (pi2 &&& (255 : Int32)), vI (pi3 &&& (255 : Int32)), vR o69, vU, vU] [.ref o69])) rfl (zs hml) (argsL := [.ref o69]) (rest := []) (lenOf pd_24 rfl) rfl (lb rfl) (hb hby at_125) (fun _ _ => ⟨rfl, rfl, (lb rfl), (lb rfl)⟩)
    dsimp only [Pt.U, Pt.locs, Pt.cells, Pt.slots] at X88 l88 y88 z88 st88 hQ88 hs88 hg88 ch88
    subst l88 y88 z88
    replace X88 := own_reb X88
    have F89 := (Nat.le_trans hk0 K68.1)
    obtain ⟨hZ88, hS88, hown88⟩ := own_after hZ hS0 rfl F89 hs88 hg88 hown
    obtain ⟨o90, o91, o92, kc93, hc94, rfl, Nq88, K88, f95, f96, f97, f98, f99, f100, f101, f102, f103, f104, f105, f106, f107⟩ := hQ88
    have N88 := Fr.app N68 Nq88
    have g108 : n0 ≤ o90 := Nat.le_trans (own_osz F87) f95
    have F110 := (Nat.le_trans (Nat.le_refl _) K68.1)
    have z109 : h0.size ≤ o90 := Nat.le_trans F110 f95
    have g111 : n0 ≤ o91 := Nat.le_trans (own_osz F87) f96
    have z112 : h0.size ≤ o91 := Nat.le_trans F110 f96
    have g113 : n0 ≤ o92 := Nat.le_trans (own_osz F87) f97
    have z114 : h0.size ≤ o92 := Nat.le_trans F110 f97
    have CH115 := CHr.trans CH83 ch88
    refine og T88 (mkF m 139 #[vI pi0, vI pi1, vI pi2, vI pi3, vI 1, vI (pi1 &&& (255 : Int32)), vI (pi2 &&& (255 : Int32)), vI (pi3 &&& (255 : Int32)), vR o69, vR o90, vU] [.ref o90]) (fun _ k => st88.trans (XS.astore X88.here hx rfl (hb hby at_128) rfl rfl (l' := #[vI pi0, vI pi1, vI pi2, vI pi3, vI 1, vI (pi1 &&& (255 : Int32)), vI (pi2 &&& (255 : Int32)), vI (pi3 &&& (255 : Int32)), vR o69, vR o90, vU]) rfl (XS.aload X88.here hx rfl (hb hby at_130) rfl rfl (XS.ifnonnullYes X88.here hx rfl (pc0 := 132) (pc' := 137) rfl (hb hby at_132) rfl (by decide) (by decide) (XS.aload X88.here hx rfl (hb hby at_137) rfl rfl k))))) ?_
    have F116 := (F87.keep K88 all0)
    obtain ⟨_, T117, L117, X117, hQ117, st117⟩ := own_vc X88 hx hZ88 hown88 (ow hw 221) (ow hw 222) (ow hw 224) (ow hw 223) f98 (rm36_50 l Z a0 hw o90 kw0 T88.heap n0 F116 f102) (ow hw 225) (ow hw 24) rfl (g := (mkF m 139 #[vI pi0, vI pi1, vI pi2, vI pi3, vI 1, vI (pi1 &&& (255 : Int32)), vI (pi2 &&& (255 : Int32)), vI (pi3 &&& (255 : Int32)), vR o69, vR o90, vU] [.ref o90])) rfl (zs hml) (argsL := []) (rest := []) (lenOf pd_25 rfl) rfl (hb hby at_139) (W := 0) rfl
    obtain ⟨rfl, Nq117, eq117⟩ := hQ117
    have N117 := Fr.app N88 Nq117
    refine ot T117 (mkF m 142 #[vI pi0, vI pi1, vI pi2, vI pi3, vI 1, vI (pi1 &&& (255 : Int32)), vI (pi2 &&& (255 : Int32)), vI (pi3 &&& (255 : Int32)), vR o69, vR o90, vU] [.ref kw0]) st117 ?_
    obtain ⟨T118, X118, e118, st118⟩ := getS2 X117 hx hZ88 hown88 (host := "") (Or.inl (ow hw 226)) Via.refl eq117 (SK0.ext F116.2) (g := (mkF m 142 #[vI pi0, vI pi1, vI pi2, vI pi3, vI 1, vI (pi1 &&& (255 : Int32)), vI (pi2 &&& (255 : Int32)), vI (pi3 &&& (255 : Int32)), vR o69, vR o90, vU] [.ref kw0])) rfl (hb hby at_142)
    refine og T118 (mkF m 152 #[vI pi0, vI pi1, vI pi2, vI pi3, vI 1, vI (pi1 &&& (255 : Int32)), vI (pi2 &&& (255 : Int32)), vI (pi3 &&& (255 : Int32)), vR o69, vR o90, vU] [.ref o90]) (fun _ k => st118 _ (Jvm.RoadKit.acmp (g := (mkF m 145 #[vI pi0, vI pi1, vI pi2, vI pi3, vI 1, vI (pi1 &&& (255 : Int32)), vI (pi2 &&& (255 : Int32)), vI (pi3 &&& (255 : Int32)), vR o69, vR o90, vU] [.ref kw0, .ref kw0])) X118 hx rfl rfl rfl (pc0 := 145) (pc' := 150) (same := true) rfl (hb hby at_145) rfl (decide_eq_true rfl) (by decide) (by decide) (XS.aload X118.here hx rfl (hb hby at_150) rfl rfl k))) ?_
    obtain ⟨cq119, kq119, q119a, q119b, q119c⟩ := isOf hZ88 e118 f98
    obtain ⟨_, _, ⟨T119, L119, k119, n119⟩, -, X119, ⟨hv119, eq119, l119, y119, z119⟩, st119⟩ := X118.virtualBackUp hx (x := y32) (y := y33) hown88 (mvT hZ88 (ow hw 227)) (mvT hZ88 (ow hw 228)) (mvT hZ88 (ow hw 229)) (by decide) (mvT hZ88 (ow hw 231)) (mvT hZ88 (ow hw 230)) (gcBackPure (rm := { frames := 0, cells := 0, slots := 0, locals := 0 }) (W := 0) hZ88 (ow hw 232) (ow hw 230) (ow hw 173) (ow hw 176) f99 f100 rfl (lb rfl) (lb rfl)) q119a q119c (g := (mkF m 152 #[vI pi0, vI pi1, vI pi2, vI pi3, vI 1, vI (pi1 &&& (255 : Int32)), vI (pi2 &&& (255 : Int32)), vI (pi3 &&& (255 : Int32)), vR o69, vR o90, vU] [.ref o90])) rfl (zs hml) (Steps.refl _) (argsL := []) (rest := []) (lenOf pd_26 rfl) rfl (lb rfl) (hb hby at_152) (fun _ _ => ⟨rfl, e118, (lb rfl), (lb rfl)⟩)
    dsimp only [Pt.U, Pt.locs, Pt.cells, Pt.slots] at X119 l119 y119 z119 st119 hv119 eq119
    subst l119 y119 z119
    rw [gcv_self] at hv119
    subst hv119
    refine og T119 (mkF m 162 #[vI pi0, vI pi1, vI pi2, vI pi3, vI 1, vI (pi1 &&& (255 : Int32)), vI (pi2 &&& (255 : Int32)), vI (pi3 &&& (255 : Int32)), vR o69, vR o90, vU] [.ref o90]) (fun _ k => st119.trans (XS.ifnullYes X119.here hx rfl (pc0 := 155) (pc' := 160) rfl (hb hby at_155) rfl (by decide) (by decide) (XS.aload X119.here hx rfl (hb hby at_160) rfl rfl k))) ?_
    obtain ⟨cq121, kq121, q121a, q121b, q121c⟩ := isOf hZ88 eq119 f98
    obtain ⟨_, _, ⟨T121, L121, k121, n121⟩, -, X121, ⟨Lc121, hQ121, l121, y121, z121⟩, st121⟩ := X119.virtualBackUp hx (x := y35) (y := y34) hown88 (mvT hZ88 (ow hw 233)) (mvT hZ88 (ow hw 234)) (mvT hZ88 (ow hw 235)) (by decide) (mvT hZ88 (ow hw 237)) (mvT hZ88 (ow hw 236)) (backOf (W := 0) (rm38_51 l Z a0 hw o90 o91 T88.heap n0 F116 f101) hZ88 (ow hw 238) (ow hw 173) (lb rfl) (lb rfl)) q121a q121c (g := (mkF m 162 #[vI pi0, vI pi1, vI pi2, vI pi3, vI 1, vI (pi1 &&& (255 : Int32)), vI (pi2 &&& (255 : Int32)), vI (pi3 &&& (255 : Int32)), vR o69, vR o90, vU] [.ref o90])) rfl (zs hml) (Steps.refl _) (argsL := []) (rest := []) (lenOf pd_21 rfl) rfl (lb rfl) (hb hby at_162) (fun _ _ => ⟨rfl, eq119, (lb rfl), (lb rfl)⟩)
    dsimp only [Pt.U, Pt.locs, Pt.cells, Pt.slots] at X121 l121 y121 z121 st121 hQ121
    subst l121 y121 z121
    obtain ⟨rfl, Nq121, eq121⟩ := hQ121
    have N121 := Fr.app N117 Nq121
    refine og T121 (mkF m 174 #[vI pi0, vI pi1, vI pi2, vI pi3, vI 1, vI (pi1 &&& (255 : Int32)), vI (pi2 &&& (255 : Int32)), vI (pi3 &&& (255 : Int32)), vR o69, vR o90, vR o91] [.ref o91]) (fun _ k => st121.trans (XS.astore X121.here hx rfl (hb hby at_165) rfl rfl (l' := #[vI pi0, vI pi1, vI pi2, vI pi3, vI 1, vI (pi1 &&& (255 : Int32)), vI (pi2 &&& (255 : Int32)), vI (pi3 &&& (255 : Int32)), vR o69, vR o90, vR o91]) rfl (XS.aload X121.here hx rfl (hb hby at_167) rfl rfl (XS.ifnullNo X121.here hx rfl (hb hby at_169) rfl (XS.aload X121.here hx rfl (hb hby at_172) rfl rfl k))))) ?_
    have hp122 : own_L cL0 := own_hpl _ rfl
    have hp123 : own_L cL1 := own_hpl _ rfl
    obtain ⟨T124, X124, e124, st124⟩ := own_lenA X121 hx hZ88 hown88 (ow hw 239) hw f104 f106 f105 f107 (own_la (own_la rfl rfl) rfl) (own_happ (own_happ hp122 hp86) hp123) eq121 (O2.ext F116.2) P5 (g := (mkF m 174 #[vI pi0, vI pi1, vI pi2, vI pi3, vI 1, vI (pi1 &&& (255 : Int32)), vI (pi2 &&& (255 : Int32)), vI (pi3 &&& (255 : Int32)), vR o69, vR o90, vR o91] [.ref o91])) rfl (zs hml) (rest := []) rfl (hb hby at_174) (W := 0) rfl
    refine og T124 (mkF m 189 #[vI pi0, vI pi1, vI pi2, vI pi3, vI 1, vI (pi1 &&& (255 : Int32)), vI (pi2 &&& (255 : Int32)), vI (pi3 &&& (255 : Int32)), vR o69, vR o90, vR o91] [.ref o91]) (fun _ k => st124 _ (XS.bipush X124.here hx rfl (hb hby at_177) (XS.iload X124.here hx rfl (hb hby at_179) rfl (XS.iadd X124.here hx rfl (hb hby at_181) rfl (XS.icmpYes X124.here hx rfl (pc0 := 182) (pc' := 187) rfl (hb hby at_182) rfl (teq (by decide : (28 : Int32) = (28 : Int32))).1 (by decide) (by decide) (XS.aload X124.here hx rfl (hb hby at_187) rfl rfl k)))))) ?_
    obtain ⟨_, T125, L125, X125, hQ125, st125⟩ := own_tc X124 hx hZ88 hown88 (ow hw 240) (ow hw 241) (rm39_81 l Z a0 hw o91 o92 kc93 ((pi1 &&& (255 : Int32))) G3 G1 T88.heap n0 F116 f104 f105 f106 (own_m255 _) f107 O4 rG3 O2 P5) (ow hw 243) (ow hw 242) e124 (g := (mkF m 189 #[vI pi0, vI pi1, vI pi2, vI pi3, vI 1, vI (pi1 &&& (255 : Int32)), vI (pi2 &&& (255 : Int32)), vI (pi3 &&& (255 : Int32)), vR o69, vR o90, vR o91] [.ref o91])) rfl (zs hml) (argsL := [.ref o91]) (rest := []) (lenOf pd_27 rfl) rfl (hb hby at_189) (W := 0) rfl
    obtain ⟨rfl, Nq125, eq125⟩ := hQ125
    have N125 := Fr.app N121 Nq125
    refine og T125 (mkF m 207 #[vI pi0, vI pi1, vI pi2, vI pi3, vI 1, vI (pi1 &&& (255 : Int32)), vI (pi2 &&& (255 : Int32)), vI (pi3 &&& (255 : Int32)), vR o69, vR o90, vR o91] [.int 12, .ref o91]) (fun _ k => st125.trans (XS.ifYes X125.here hx rfl (pc0 := 192) (pc' := 197) rfl (hb hby at_192) rfl ((if0 _ _).trans (feq (by decide : ¬ ((1 : Int32) = (0 : Int32)))).2) (by decide) (by decide) (XS.iload X125.here hx rfl (hb hby at_197) rfl (XS.iconst X125.here hx rfl (hb hby at_199) (XS.icmpNo X125.here hx rfl (hb hby at_200) rfl (flt (by decide : ¬ ((1 : Int32) < (1 : Int32)))).1 (XS.aload X125.here hx rfl (hb hby at_203) rfl rfl (XS.bipush X125.here hx rfl (hb hby at_205) k))))))) ?_
    obtain ⟨T126, X126, e126, st126⟩ := own_chA X125 hx hZ88 hown88 (ow hw 244) hw f104 f106 f105 f107 (own_la (own_la rfl rfl) rfl) (own_happ (own_happ hp122 hp86) hp123) eq125 (O2.ext F116.2) P5 (O4.ext F116.2) rG3 (i := 12) (lb rfl) (g := (mkF m 207 #[vI pi0, vI pi1, vI pi2, vI pi3, vI 1, vI (pi1 &&& (255 : Int32)), vI (pi2 &&& (255 : Int32)), vI (pi3 &&& (255 : Int32)), vR o69, vR o90, vR o91] [.int 12, .ref o91])) rfl (zs hml) (rest := []) rfl (hb hby at_207) (W := 0) rfl
    refine og T126 (mkF m 261 #[vI pi0, vI pi1, vI pi2, vI pi3, vI 1, vI (pi1 &&& (255 : Int32)), vI (pi2 &&& (255 : Int32)), vI (pi3 &&& (255 : Int32)), vR o69, vR o90, vR o91] [.int 12, .ref o91]) (fun _ k => st126 _ (XS.iload X126.here hx rfl (hb hby at_210) rfl (XS.icmpYes X126.here hx rfl (pc0 := 212) (pc' := 217) rfl (hb hby at_212) rfl (teq (rfl : (pi1 &&& (255 : Int32)) = (pi1 &&& (255 : Int32)))).1 (by decide) (by decide) (XS.iload X126.here hx rfl (hb hby at_217) rfl (XS.iconst X126.here hx rfl (hb hby at_219) (XS.icmpYes X126.here hx rfl (pc0 := 220) (pc' := 237) rfl (hb hby at_220) rfl (tlt (by decide : (1 : Int32) < (2 : Int32))).1 (by decide) (by decide) (XS.iload X126.here hx rfl (hb hby at_237) rfl (XS.iconst X126.here hx rfl (hb hby at_239) (XS.icmpYes X126.here hx rfl (pc0 := 240) (pc' := 257) rfl (hb hby at_240) rfl (tlt (by decide : (1 : Int32) < (3 : Int32))).1 (by decide) (by decide) (XS.aload X126.here hx rfl (hb hby at_257) rfl rfl (XS.bipush X126.here hx rfl (hb hby at_259) k))))))))))) ?_
    refine og T126 (mkF m 264 #[vI pi0, vI pi1, vI pi2, vI pi3, vI 1, vI (pi1 &&& (255 : Int32)), vI (pi2 &&& (255 : Int32)), vI (pi3 &&& (255 : Int32)), vR o69, vR o90, vR o91] [.int 13, .ref o91]) (fun _ k => XS.iload X126.here hx rfl (hb hby at_261) rfl (XS.iadd X126.here hx rfl (hb hby at_263) rfl k)) ?_
    obtain ⟨_, T127, L127, X127, hQ127, st127⟩ := own_tc X126 hx hZ88 hown88 (ow hw 266) (ow hw 267) (rm45_82 l Z a0 hw o91 o92 kc93 ((pi1 &&& (255 : Int32))) G3 G1 T88.heap n0 F116 f104 f105 f106 (own_m255 _) f107 O4 rG3 O2 P5) (ow hw 268) (ow hw 242) e126 (g := (mkF m 264 #[vI pi0, vI pi1, vI pi2, vI pi3, vI 1, vI (pi1 &&& (255 : Int32)), vI (pi2 &&& (255 : Int32)), vI (pi3 &&& (255 : Int32)), vR o69, vR o90, vR o91] [.int 13, .ref o91])) rfl (zs hml) (argsL := [.ref o91, .int 13]) (rest := []) (lenOf pd_28 rfl) rfl (hb hby at_264) (W := 0) rfl
    obtain ⟨rfl, Nq127, eq127⟩ := hQ127
    have N127 := Fr.app N125 Nq127
    refine ot T127 (mkF m 267 #[vI pi0, vI pi1, vI pi2, vI pi3, vI 1, vI (pi1 &&& (255 : Int32)), vI (pi2 &&& (255 : Int32)), vI (pi3 &&& (255 : Int32)), vR o69, vR o90, vR o91] [.int 1]) st127 ?_
    exact own_leaveW (s := s) (vm0 := T88.vm) X127 hS88 (Nat.le_refl _) hZ88 (own_EW hw) eq127 CH115 hh hlk (v := some (.int (nar .boolean (1 : Int32)))) (own_nr hret) (lb rfl) (lb rfl) (by rw [eq127]; exact ⟨rfl, N127⟩) (fun fs hr => retN X127 hx (t := .boolean) hret (by simp) (hb hby at_267) hr)
  · rw [hm]
    refine og s₁ (mkF m 71 #[vI pi0, vI pi1, vI pi2, vI pi3, vI 2, vI (pi1 &&& (255 : Int32)), vI (pi2 &&& (255 : Int32)), vI (pi3 &&& (255 : Int32)), vU, vU, vU] []) (fun _ k => XS.iload X0.here hx rfl (hb hby at_29) rfl (XS.ifYes X0.here hx rfl (pc0 := 31) (pc' := 49) rfl (hb hby at_31) rfl ((if0 _ _).trans (feq (by decide : ¬ ((2 : Int32) = (0 : Int32)))).2) (by decide) (by decide) (XS.iload X0.here hx rfl (hb hby at_49) rfl (XS.iconst X0.here hx rfl (hb hby at_51) (XS.icmpYes X0.here hx rfl (pc0 := 52) (pc' := 65) rfl (hb hby at_52) rfl (feq (by decide : ¬ ((2 : Int32) = (1 : Int32)))).2 (by decide) (by decide) (XS.iload X0.here hx rfl (hb hby at_65) rfl (XS.iconst X0.here hx rfl (hb hby at_67) (XS.icmpNo X0.here hx rfl (hb hby at_68) rfl (tq 2) k)))))))) ?_
    obtain ⟨T128, h128, X128, e128, E128, A128, D128, U128, st128⟩ := newO X0 hx hZ hown (ow hw 0) (ow hw 1) (ow hw 2) e0 (g := (mkF m 71 #[vI pi0, vI pi1, vI pi2, vI pi3, vI 2, vI (pi1 &&& (255 : Int32)), vI (pi2 &&& (255 : Int32)), vI (pi3 &&& (255 : Int32)), vU, vU, vU] [])) rfl (hb hby at_71) (lb rfl) (lb rfl)
    obtain ⟨b128, gb128⟩ : ∃ z, z = h0.size := ⟨_, rfl⟩
    rw [← gb128] at A128 D128 U128 st128
    have g129 : n0 ≤ b128 := Nat.le_trans (own_osz OLD) (Nat.le_of_eq gb128.symm)
    have z130 : h0.size ≤ b128 := Nat.le_trans (Nat.le_refl _) (Nat.le_of_eq gb128.symm)
    have ch131 := CHr.ext E128 CH0.1
    have CH132 := CHr.trans CH0 ch131
    have sf133 := own_safe_new CH0.1 E128 (Nat.le_of_eq gb128.symm)
    refine og T128 (mkF m 76 #[vI pi0, vI pi1, vI pi2, vI pi3, vI 2, vI (pi1 &&& (255 : Int32)), vI (pi2 &&& (255 : Int32)), vI (pi3 &&& (255 : Int32)), vU, vU, vU] [.int 2, .ref b128, .ref b128]) (fun _ k => st128 _ (XS.dup X128.here hx rfl (hb hby at_74) rfl rfl (XS.iconst X128.here hx rfl (hb hby at_75) k))) ?_
    obtain ⟨T134, h134, k134, X134, e134, E134, A134, st134⟩ := newP X128 hx hZ (ow hw 3) e128 (g := (mkF m 76 #[vI pi0, vI pi1, vI pi2, vI pi3, vI 2, vI (pi1 &&& (255 : Int32)), vI (pi2 &&& (255 : Int32)), vI (pi3 &&& (255 : Int32)), vU, vU, vU] [.int 2, .ref b128, .ref b128])) rfl (hb hby at_76) rfl (by decide) (cap := 2) (by decide) (lb rfl) (lb rfl) (lb rfl)
    obtain ⟨b134, gb134⟩ : ∃ z, z = h128.size := ⟨_, rfl⟩
    rw [← gb134] at A134 st134
    have F136 := (OLD.ext E128)
    have g135 : n0 ≤ b134 := Nat.le_trans (own_osz F136) (Nat.le_of_eq gb134.symm)
    have F138 := (Nat.le_trans (Nat.le_refl _) E128.1)
    have z137 : h0.size ≤ b134 := Nat.le_trans F138 (Nat.le_of_eq gb134.symm)
    have ch139 := CHr.ext E134 CH132.1
    have CH140 := CHr.trans CH132 ch139
    have V134 : Arv Z h134 b134 k134 .char (2 : Int32) [.int 0, .int 0] (.int 0) := (Arv.new A134 (by decide)).pad (pad_rep [] (.int 0) 2)
    refine og T134 (mkF m 82 #[vI pi0, vI pi1, vI pi2, vI pi3, vI 2, vI (pi1 &&& (255 : Int32)), vI (pi2 &&& (255 : Int32)), vI (pi3 &&& (255 : Int32)), vU, vU, vU] [(.int (pi1 &&& (255 : Int32))), .int 0, .ref b134, .ref b134, .ref b128, .ref b128]) (fun _ k => st134 _ (XS.dup X134.here hx rfl (hb hby at_78) rfl rfl (XS.iconst X134.here hx rfl (hb hby at_79) (XS.iload X134.here hx rfl (hb hby at_80) rfl k)))) ?_
    obtain ⟨cl141, Ar141, qr141, Sr141, Nr141, Hr141, Gr141⟩ := id V134
    obtain ⟨T141, h141, X141, e141, W141, st141⟩ := stC X134 hx hZ e134 Ar141 (j := (0 : Int32)) (inb_of Sr141 ⟨by decide, by decide⟩) (g := (mkF m 82 #[vI pi0, vI pi1, vI pi2, vI pi3, vI 2, vI (pi1 &&& (255 : Int32)), vI (pi2 &&& (255 : Int32)), vI (pi3 &&& (255 : Int32)), vU, vU, vU] [(.int (pi1 &&& (255 : Int32))), .int 0, .ref b134, .ref b134, .ref b128, .ref b128])) rfl rfl (hb hby at_82)
    have V141 : Arv Z h141 b134 k134 .char (2 : Int32) [(.int (nar .char (pi1 &&& (255 : Int32)))), .int 0] (.int 0) := Arv.set Ar141 qr141 Sr141 Nr141 Hr141 Gr141 (fits_nar_char _) W141 0 rfl (lb rfl)
    rw [show nar .char (pi1 &&& (255 : Int32)) = (pi1 &&& (255 : Int32)) from (own_nc255 _)] at V141
    obtain ⟨_, q143, -⟩ := id V134
    have ch142 := CHr.wr W141 (Safe.arr hZ.alike q143 nofun) CH140.1
    have CH144 := CHr.trans CH140 ch142
    have N141 := Fr.snoc X141 N0 g135
    refine og T141 (mkF m 87 #[vI pi0, vI pi1, vI pi2, vI pi3, vI 2, vI (pi1 &&& (255 : Int32)), vI (pi2 &&& (255 : Int32)), vI (pi3 &&& (255 : Int32)), vU, vU, vU] [(.int (pi2 &&& (255 : Int32))), .int 1, .ref b134, .ref b134, .ref b128, .ref b128]) (fun _ k => st141 _ (XS.dup X141.here hx rfl (hb hby at_83) rfl rfl (XS.iconst X141.here hx rfl (hb hby at_84) (XS.iload X141.here hx rfl (hb hby at_85) rfl k)))) ?_
    obtain ⟨cl145, Ar145, qr145, Sr145, Nr145, Hr145, Gr145⟩ := id V141
    obtain ⟨T145, h145, X145, e145, W145, st145⟩ := stC X141 hx hZ e141 Ar145 (j := (1 : Int32)) (inb_of Sr145 ⟨by decide, by decide⟩) (g := (mkF m 87 #[vI pi0, vI pi1, vI pi2, vI pi3, vI 2, vI (pi1 &&& (255 : Int32)), vI (pi2 &&& (255 : Int32)), vI (pi3 &&& (255 : Int32)), vU, vU, vU] [(.int (pi2 &&& (255 : Int32))), .int 1, .ref b134, .ref b134, .ref b128, .ref b128])) rfl rfl (hb hby at_87)
    have V145 : Arv Z h145 b134 k134 .char (2 : Int32) [(.int (pi1 &&& (255 : Int32))), (.int (nar .char (pi2 &&& (255 : Int32))))] (.int 0) := Arv.set Ar145 qr145 Sr145 Nr145 Hr145 Gr145 (fits_nar_char _) W145 1 rfl (lb rfl)
    rw [show nar .char (pi2 &&& (255 : Int32)) = (pi2 &&& (255 : Int32)) from (own_nc255 _)] at V145
    obtain ⟨_, q147, -⟩ := id V141
    have ch146 := CHr.wr W145 (Safe.arr hZ.alike q147 nofun) CH144.1
    have CH148 := CHr.trans CH144 ch146
    have N145 := Fr.snoc X145 N141 g135
    refine og T145 (mkF m 88 #[vI pi0, vI pi1, vI pi2, vI pi3, vI 2, vI (pi1 &&& (255 : Int32)), vI (pi2 &&& (255 : Int32)), vI (pi3 &&& (255 : Int32)), vU, vU, vU] [.ref b134, .ref b128, .ref b128]) st145 ?_
    have hp149 : ∀ c ∈ ([(pi1 &&& 255), (pi2 &&& 255)] : List Int32), ¬ c < 0 ∧ ¬ (255 : Int32) < c := by
      intro c hc
      simp only [List.mem_cons, List.not_mem_nil, or_false] at hc
      rcases hc with rfl | rfl
      · exact (own_m255 _)
      · exact (own_m255 _)
    have F150 := (((A128.ext E134).wr W141).wr W145)
    have F151 := ((((D128 (Or.inr (ow hw 16)) (ty := (.array .byte)) (by decide)).ext E134).other W141 (Or.inl (own_ne_lo A128.lt (Nat.le_of_eq gb134.symm)))).other W145 (Or.inl (own_ne_lo A128.lt (Nat.le_of_eq gb134.symm))))
    have F152 := ((((D128 (Or.inr (ow hw 17)) (ty := .byte) (by decide)).ext E134).other W141 (Or.inl (own_ne_lo A128.lt (Nat.le_of_eq gb134.symm)))).other W145 (Or.inl (own_ne_lo A128.lt (Nat.le_of_eq gb134.symm))))
    have F153 := (((F136.ext E134).wr W141 g135).wr W145 g135)
    obtain ⟨_, _, ⟨T154, L154, k154, n154⟩, -, X154, ⟨Lc154, hQ154, l154, y154, z154⟩, st154⟩ := X145.specialBack hx (y := y1) rfl hown (mvT hZ (ow hw 4)) (mvT hZ (ow hw 5)) (mvT hZ (ow hw 6)) (by decide) (StrChars.Road.backV (W := 1) hZ (own_hws hw) (kI := 4) (ow hw 1) (cs := ([(pi1 &&& 255), (pi2 &&& 255)] : List Int32)) (bs := (([(pi1 &&& 255), (pi2 &&& 255)] : List Int32).map (fun c => c.toInt8.toInt32))) (n := 2) g129 (own_osz F153) F150 F151 F152 V145 (O2.ext F153.2) P5 rfl rfl (by decide) (by decide) hp149 rfl (lb rfl) (lb rfl)) (g := (mkF m 88 #[vI pi0, vI pi1, vI pi2, vI pi3, vI 2, vI (pi1 &&& (255 : Int32)), vI (pi2 &&& (255 : Int32)), vI (pi3 &&& (255 : Int32)), vU, vU, vU] [.ref b134, .ref b128, .ref b128])) rfl (zs hml) (Steps.refl _) (a := b128) (argsL := [.ref b134]) (rest := [.ref b128]) (lenOf pd_1 rfl) rfl (lb rfl) (hb hby at_88) (fun _ _ => ⟨rfl, e145, (lb rfl), (lb rfl)⟩)
    dsimp only [Pt.U, Pt.locs, Pt.cells, Pt.slots] at X154 l154 y154 z154 st154 hQ154
    subst l154 y154 z154
    obtain ⟨rfl, Nq154, K154, Ex154, Fc154, t154, kb154, -, lo154, -, Fv154, Av154⟩ := hQ154
    have N154 := Fr.app N145 Nq154
    have g155 : n0 ≤ t154 := Nat.le_trans (own_osz F153) lo154
    have F157 := (Nat.le_trans (Nat.le_trans (Nat.le_trans F138 E134.1) (Nat.le_of_eq W141.size.symm)) (Nat.le_of_eq W145.size.symm))
    have z156 : h0.size ≤ t154 := Nat.le_trans F157 lo154
    have F158 := (CHr.safe ch146 (Nat.lt_of_lt_of_le (Nat.lt_of_lt_of_le A128.lt E134.1) (Nat.le_of_eq W141.size.symm)) (CHr.safe ch142 (Nat.lt_of_lt_of_le A128.lt E134.1) (CHr.safe ch139 A128.lt sf133)))
    have ch159 := CHr.keep K154 (allS F158 all0) CH148.1
    have CH160 := CHr.trans CH148 ch159
    have Ay154 : Arv Z T154.heap t154 kb154 .byte (2 : Int32) (own_by ([(pi1 &&& 255), (pi2 &&& 255)] : List Int32)) (.int 0) := Av154
    refine og T154 (mkF m 125 #[vI pi0, vI pi1, vI pi2, vI pi3, vI 2, vI (pi1 &&& (255 : Int32)), vI (pi2 &&& (255 : Int32)), vI (pi3 &&& (255 : Int32)), vR b128, vU, vU] [.ref b128]) (fun _ k => st154.trans (XS.astore X154.here hx rfl (hb hby at_91) rfl rfl (l' := #[vI pi0, vI pi1, vI pi2, vI pi3, vI 2, vI (pi1 &&& (255 : Int32)), vI (pi2 &&& (255 : Int32)), vI (pi3 &&& (255 : Int32)), vR b128, vU, vU]) rfl (XS.goto X154.here hx rfl (pc0 := 93) (pc' := 123) rfl (hb hby at_93) (by decide) (by decide) (XS.aload X154.here hx rfl (hb hby at_123) rfl rfl k)))) ?_
    have F161 := (F153.keep K154 (allS g129 all0))
    obtain ⟨_, _, ⟨T162, L162, k162, n162⟩, -, X162, hs162, hg162, ⟨Lc162, hQ162, l162, y162, z162, ch162⟩, st162⟩ := callSS X154 hx (y := y30) hown (mvT hZ (ow hw 22)) (mvT hZ (ow hw 23)) (mvT hZ (ow hw 24)) (mvT hZ (ow hw 25)) (by decide) (own_backSH (W := 0) (rm4_84 l Z a0 hw b128 t154 kb154 (([(pi1 &&& 255), (pi2 &&& 255)] : List Int32)) kw0 G1 us up T154.heap n0 F161 Ex154 Fc154 Fv154 rfl hp149 Ay154 SK0 EK0 O2 P5 Sus rf_us Sup rf_up hl rus) hZ (ow hw 25) (ow hw 24) (lb rfl) (lb rfl) (own_EW hw) CH160.1 all0 (fun _ => ⟨Vm.MethodsKnown.alikeC hS0.1.alike (hKn rfl).1, Vm.FramesKnown.alikeC hS0.1.alike (hKn rfl).2⟩)) (g := (mkF m 125 #[vI pi0, vI pi1, vI pi2, vI pi3, vI 2, vI (pi1 &&& (255 : Int32)), vI (pi2 &&& (255 : Int32)), vI (pi3 &&& (255 : Int32)), vR b128, vU, vU] [.ref b128])) rfl (zs hml) (argsL := [.ref b128]) (rest := []) (lenOf pd_24 rfl) rfl (lb rfl) (hb hby at_125) (fun _ _ => ⟨rfl, rfl, (lb rfl), (lb rfl)⟩)
    dsimp only [Pt.U, Pt.locs, Pt.cells, Pt.slots] at X162 l162 y162 z162 st162 hQ162 hs162 hg162 ch162
    subst l162 y162 z162
    replace X162 := own_reb X162
    have F163 := (Nat.le_trans (Nat.le_trans (Nat.le_trans (Nat.le_trans hk0 E128.1) E134.1) (Nat.le_of_eq W141.size.symm)) (Nat.le_of_eq W145.size.symm))
    have F164 := (Nat.le_trans F163 K154.1)
    obtain ⟨hZ162, hS162, hown162⟩ := own_after hZ hS0 rfl F164 hs162 hg162 hown
    obtain ⟨o165, o166, o167, kc168, hc169, rfl, Nq162, K162, f170, f171, f172, f173, f174, f175, f176, f177, f178, f179, f180, f181, f182⟩ := hQ162
    have N162 := Fr.app N154 Nq162
    have g183 : n0 ≤ o165 := Nat.le_trans (own_osz F161) f170
    have F185 := (Nat.le_trans F157 K154.1)
    have z184 : h0.size ≤ o165 := Nat.le_trans F185 f170
    have g186 : n0 ≤ o166 := Nat.le_trans (own_osz F161) f171
    have z187 : h0.size ≤ o166 := Nat.le_trans F185 f171
    have g188 : n0 ≤ o167 := Nat.le_trans (own_osz F161) f172
    have z189 : h0.size ≤ o167 := Nat.le_trans F185 f172
    have CH190 := CHr.trans CH160 ch162
    refine og T162 (mkF m 139 #[vI pi0, vI pi1, vI pi2, vI pi3, vI 2, vI (pi1 &&& (255 : Int32)), vI (pi2 &&& (255 : Int32)), vI (pi3 &&& (255 : Int32)), vR b128, vR o165, vU] [.ref o165]) (fun _ k => st162.trans (XS.astore X162.here hx rfl (hb hby at_128) rfl rfl (l' := #[vI pi0, vI pi1, vI pi2, vI pi3, vI 2, vI (pi1 &&& (255 : Int32)), vI (pi2 &&& (255 : Int32)), vI (pi3 &&& (255 : Int32)), vR b128, vR o165, vU]) rfl (XS.aload X162.here hx rfl (hb hby at_130) rfl rfl (XS.ifnonnullYes X162.here hx rfl (pc0 := 132) (pc' := 137) rfl (hb hby at_132) rfl (by decide) (by decide) (XS.aload X162.here hx rfl (hb hby at_137) rfl rfl k))))) ?_
    have F191 := (F161.keep K162 all0)
    obtain ⟨_, T192, L192, X192, hQ192, st192⟩ := own_vc X162 hx hZ162 hown162 (ow hw 221) (ow hw 222) (ow hw 224) (ow hw 223) f173 (rm36_50 l Z a0 hw o165 kw0 T162.heap n0 F191 f177) (ow hw 225) (ow hw 24) rfl (g := (mkF m 139 #[vI pi0, vI pi1, vI pi2, vI pi3, vI 2, vI (pi1 &&& (255 : Int32)), vI (pi2 &&& (255 : Int32)), vI (pi3 &&& (255 : Int32)), vR b128, vR o165, vU] [.ref o165])) rfl (zs hml) (argsL := []) (rest := []) (lenOf pd_25 rfl) rfl (hb hby at_139) (W := 0) rfl
    obtain ⟨rfl, Nq192, eq192⟩ := hQ192
    have N192 := Fr.app N162 Nq192
    refine ot T192 (mkF m 142 #[vI pi0, vI pi1, vI pi2, vI pi3, vI 2, vI (pi1 &&& (255 : Int32)), vI (pi2 &&& (255 : Int32)), vI (pi3 &&& (255 : Int32)), vR b128, vR o165, vU] [.ref kw0]) st192 ?_
    obtain ⟨T193, X193, e193, st193⟩ := getS2 X192 hx hZ162 hown162 (host := "") (Or.inl (ow hw 226)) Via.refl eq192 (SK0.ext F191.2) (g := (mkF m 142 #[vI pi0, vI pi1, vI pi2, vI pi3, vI 2, vI (pi1 &&& (255 : Int32)), vI (pi2 &&& (255 : Int32)), vI (pi3 &&& (255 : Int32)), vR b128, vR o165, vU] [.ref kw0])) rfl (hb hby at_142)
    refine og T193 (mkF m 152 #[vI pi0, vI pi1, vI pi2, vI pi3, vI 2, vI (pi1 &&& (255 : Int32)), vI (pi2 &&& (255 : Int32)), vI (pi3 &&& (255 : Int32)), vR b128, vR o165, vU] [.ref o165]) (fun _ k => st193 _ (Jvm.RoadKit.acmp (g := (mkF m 145 #[vI pi0, vI pi1, vI pi2, vI pi3, vI 2, vI (pi1 &&& (255 : Int32)), vI (pi2 &&& (255 : Int32)), vI (pi3 &&& (255 : Int32)), vR b128, vR o165, vU] [.ref kw0, .ref kw0])) X193 hx rfl rfl rfl (pc0 := 145) (pc' := 150) (same := true) rfl (hb hby at_145) rfl (decide_eq_true rfl) (by decide) (by decide) (XS.aload X193.here hx rfl (hb hby at_150) rfl rfl k))) ?_
    obtain ⟨cq194, kq194, q194a, q194b, q194c⟩ := isOf hZ162 e193 f173
    obtain ⟨_, _, ⟨T194, L194, k194, n194⟩, -, X194, ⟨hv194, eq194, l194, y194, z194⟩, st194⟩ := X193.virtualBackUp hx (x := y32) (y := y33) hown162 (mvT hZ162 (ow hw 227)) (mvT hZ162 (ow hw 228)) (mvT hZ162 (ow hw 229)) (by decide) (mvT hZ162 (ow hw 231)) (mvT hZ162 (ow hw 230)) (gcBackPure (rm := { frames := 0, cells := 0, slots := 0, locals := 0 }) (W := 0) hZ162 (ow hw 232) (ow hw 230) (ow hw 173) (ow hw 176) f174 f175 rfl (lb rfl) (lb rfl)) q194a q194c (g := (mkF m 152 #[vI pi0, vI pi1, vI pi2, vI pi3, vI 2, vI (pi1 &&& (255 : Int32)), vI (pi2 &&& (255 : Int32)), vI (pi3 &&& (255 : Int32)), vR b128, vR o165, vU] [.ref o165])) rfl (zs hml) (Steps.refl _) (argsL := []) (rest := []) (lenOf pd_26 rfl) rfl (lb rfl) (hb hby at_152) (fun _ _ => ⟨rfl, e193, (lb rfl), (lb rfl)⟩)
    dsimp only [Pt.U, Pt.locs, Pt.cells, Pt.slots] at X194 l194 y194 z194 st194 hv194 eq194
    subst l194 y194 z194
    rw [gcv_self] at hv194
    subst hv194
    refine og T194 (mkF m 162 #[vI pi0, vI pi1, vI pi2, vI pi3, vI 2, vI (pi1 &&& (255 : Int32)), vI (pi2 &&& (255 : Int32)), vI (pi3 &&& (255 : Int32)), vR b128, vR o165, vU] [.ref o165]) (fun _ k => st194.trans (XS.ifnullYes X194.here hx rfl (pc0 := 155) (pc' := 160) rfl (hb hby at_155) rfl (by decide) (by decide) (XS.aload X194.here hx rfl (hb hby at_160) rfl rfl k))) ?_
    obtain ⟨cq196, kq196, q196a, q196b, q196c⟩ := isOf hZ162 eq194 f173
    obtain ⟨_, _, ⟨T196, L196, k196, n196⟩, -, X196, ⟨Lc196, hQ196, l196, y196, z196⟩, st196⟩ := X194.virtualBackUp hx (x := y35) (y := y34) hown162 (mvT hZ162 (ow hw 233)) (mvT hZ162 (ow hw 234)) (mvT hZ162 (ow hw 235)) (by decide) (mvT hZ162 (ow hw 237)) (mvT hZ162 (ow hw 236)) (backOf (W := 0) (rm38_51 l Z a0 hw o165 o166 T162.heap n0 F191 f176) hZ162 (ow hw 238) (ow hw 173) (lb rfl) (lb rfl)) q196a q196c (g := (mkF m 162 #[vI pi0, vI pi1, vI pi2, vI pi3, vI 2, vI (pi1 &&& (255 : Int32)), vI (pi2 &&& (255 : Int32)), vI (pi3 &&& (255 : Int32)), vR b128, vR o165, vU] [.ref o165])) rfl (zs hml) (Steps.refl _) (argsL := []) (rest := []) (lenOf pd_21 rfl) rfl (lb rfl) (hb hby at_162) (fun _ _ => ⟨rfl, eq194, (lb rfl), (lb rfl)⟩)
    dsimp only [Pt.U, Pt.locs, Pt.cells, Pt.slots] at X196 l196 y196 z196 st196 hQ196
    subst l196 y196 z196
    obtain ⟨rfl, Nq196, eq196⟩ := hQ196
    have N196 := Fr.app N192 Nq196
    refine og T196 (mkF m 174 #[vI pi0, vI pi1, vI pi2, vI pi3, vI 2, vI (pi1 &&& (255 : Int32)), vI (pi2 &&& (255 : Int32)), vI (pi3 &&& (255 : Int32)), vR b128, vR o165, vR o166] [.ref o166]) (fun _ k => st196.trans (XS.astore X196.here hx rfl (hb hby at_165) rfl rfl (l' := #[vI pi0, vI pi1, vI pi2, vI pi3, vI 2, vI (pi1 &&& (255 : Int32)), vI (pi2 &&& (255 : Int32)), vI (pi3 &&& (255 : Int32)), vR b128, vR o165, vR o166]) rfl (XS.aload X196.here hx rfl (hb hby at_167) rfl rfl (XS.ifnullNo X196.here hx rfl (hb hby at_169) rfl (XS.aload X196.here hx rfl (hb hby at_172) rfl rfl k))))) ?_
    have hp197 : own_L cL0 := own_hpl _ rfl
    have hp198 : own_L cL1 := own_hpl _ rfl
    obtain ⟨T199, X199, e199, st199⟩ := own_lenA X196 hx hZ162 hown162 (ow hw 239) hw f179 f181 f180 f182 (own_la (own_la rfl rfl) rfl) (own_happ (own_happ hp197 hp149) hp198) eq196 (O2.ext F191.2) P5 (g := (mkF m 174 #[vI pi0, vI pi1, vI pi2, vI pi3, vI 2, vI (pi1 &&& (255 : Int32)), vI (pi2 &&& (255 : Int32)), vI (pi3 &&& (255 : Int32)), vR b128, vR o165, vR o166] [.ref o166])) rfl (zs hml) (rest := []) rfl (hb hby at_174) (W := 0) rfl
    refine og T199 (mkF m 189 #[vI pi0, vI pi1, vI pi2, vI pi3, vI 2, vI (pi1 &&& (255 : Int32)), vI (pi2 &&& (255 : Int32)), vI (pi3 &&& (255 : Int32)), vR b128, vR o165, vR o166] [.ref o166]) (fun _ k => st199 _ (XS.bipush X199.here hx rfl (hb hby at_177) (XS.iload X199.here hx rfl (hb hby at_179) rfl (XS.iadd X199.here hx rfl (hb hby at_181) rfl (XS.icmpYes X199.here hx rfl (pc0 := 182) (pc' := 187) rfl (hb hby at_182) rfl (teq (by decide : (29 : Int32) = (29 : Int32))).1 (by decide) (by decide) (XS.aload X199.here hx rfl (hb hby at_187) rfl rfl k)))))) ?_
    obtain ⟨_, T200, L200, X200, hQ200, st200⟩ := own_tc X199 hx hZ162 hown162 (ow hw 240) (ow hw 241) (rm39_106 l Z a0 hw o166 o167 kc168 ((pi1 &&& (255 : Int32))) ((pi2 &&& (255 : Int32))) G3 G1 T162.heap n0 F191 f179 f180 f181 (own_m255 _) (own_m255 _) f182 O4 rG3 O2 P5) (ow hw 243) (ow hw 242) e199 (g := (mkF m 189 #[vI pi0, vI pi1, vI pi2, vI pi3, vI 2, vI (pi1 &&& (255 : Int32)), vI (pi2 &&& (255 : Int32)), vI (pi3 &&& (255 : Int32)), vR b128, vR o165, vR o166] [.ref o166])) rfl (zs hml) (argsL := [.ref o166]) (rest := []) (lenOf pd_27 rfl) rfl (hb hby at_189) (W := 0) rfl
    obtain ⟨rfl, Nq200, eq200⟩ := hQ200
    have N200 := Fr.app N196 Nq200
    refine og T200 (mkF m 207 #[vI pi0, vI pi1, vI pi2, vI pi3, vI 2, vI (pi1 &&& (255 : Int32)), vI (pi2 &&& (255 : Int32)), vI (pi3 &&& (255 : Int32)), vR b128, vR o165, vR o166] [.int 12, .ref o166]) (fun _ k => st200.trans (XS.ifYes X200.here hx rfl (pc0 := 192) (pc' := 197) rfl (hb hby at_192) rfl ((if0 _ _).trans (feq (by decide : ¬ ((1 : Int32) = (0 : Int32)))).2) (by decide) (by decide) (XS.iload X200.here hx rfl (hb hby at_197) rfl (XS.iconst X200.here hx rfl (hb hby at_199) (XS.icmpNo X200.here hx rfl (hb hby at_200) rfl (flt (by decide : ¬ ((2 : Int32) < (1 : Int32)))).1 (XS.aload X200.here hx rfl (hb hby at_203) rfl rfl (XS.bipush X200.here hx rfl (hb hby at_205) k))))))) ?_
    obtain ⟨T201, X201, e201, st201⟩ := own_chA X200 hx hZ162 hown162 (ow hw 244) hw f179 f181 f180 f182 (own_la (own_la rfl rfl) rfl) (own_happ (own_happ hp197 hp149) hp198) eq200 (O2.ext F191.2) P5 (O4.ext F191.2) rG3 (i := 12) (lb rfl) (g := (mkF m 207 #[vI pi0, vI pi1, vI pi2, vI pi3, vI 2, vI (pi1 &&& (255 : Int32)), vI (pi2 &&& (255 : Int32)), vI (pi3 &&& (255 : Int32)), vR b128, vR o165, vR o166] [.int 12, .ref o166])) rfl (zs hml) (rest := []) rfl (hb hby at_207) (W := 0) rfl
    refine og T201 (mkF m 227 #[vI pi0, vI pi1, vI pi2, vI pi3, vI 2, vI (pi1 &&& (255 : Int32)), vI (pi2 &&& (255 : Int32)), vI (pi3 &&& (255 : Int32)), vR b128, vR o165, vR o166] [.int 13, .ref o166]) (fun _ k => st201 _ (XS.iload X201.here hx rfl (hb hby at_210) rfl (XS.icmpYes X201.here hx rfl (pc0 := 212) (pc' := 217) rfl (hb hby at_212) rfl (teq (rfl : (pi1 &&& (255 : Int32)) = (pi1 &&& (255 : Int32)))).1 (by decide) (by decide) (XS.iload X201.here hx rfl (hb hby at_217) rfl (XS.iconst X201.here hx rfl (hb hby at_219) (XS.icmpNo X201.here hx rfl (hb hby at_220) rfl (flt (by decide : ¬ ((2 : Int32) < (2 : Int32)))).1 (XS.aload X201.here hx rfl (hb hby at_223) rfl rfl (XS.bipush X201.here hx rfl (hb hby at_225) k)))))))) ?_
    obtain ⟨T202, X202, e202, st202⟩ := own_chA X201 hx hZ162 hown162 (ow hw 244) hw f179 f181 f180 f182 (own_la (own_la rfl rfl) rfl) (own_happ (own_happ hp197 hp149) hp198) e201 (O2.ext F191.2) P5 (O4.ext F191.2) rG3 (i := 13) (lb rfl) (g := (mkF m 227 #[vI pi0, vI pi1, vI pi2, vI pi3, vI 2, vI (pi1 &&& (255 : Int32)), vI (pi2 &&& (255 : Int32)), vI (pi3 &&& (255 : Int32)), vR b128, vR o165, vR o166] [.int 13, .ref o166])) rfl (zs hml) (rest := []) rfl (hb hby at_227) (W := 0) rfl
    refine og T202 (mkF m 264 #[vI pi0, vI pi1, vI pi2, vI pi3, vI 2, vI (pi1 &&& (255 : Int32)), vI (pi2 &&& (255 : Int32)), vI (pi3 &&& (255 : Int32)), vR b128, vR o165, vR o166] [.int 14, .ref o166]) (fun _ k => st202 _ (XS.iload X202.here hx rfl (hb hby at_230) rfl (XS.icmpYes X202.here hx rfl (pc0 := 232) (pc' := 237) rfl (hb hby at_232) rfl (teq (rfl : (pi2 &&& (255 : Int32)) = (pi2 &&& (255 : Int32)))).1 (by decide) (by decide) (XS.iload X202.here hx rfl (hb hby at_237) rfl (XS.iconst X202.here hx rfl (hb hby at_239) (XS.icmpYes X202.here hx rfl (pc0 := 240) (pc' := 257) rfl (hb hby at_240) rfl (tlt (by decide : (2 : Int32) < (3 : Int32))).1 (by decide) (by decide) (XS.aload X202.here hx rfl (hb hby at_257) rfl rfl (XS.bipush X202.here hx rfl (hb hby at_259) (XS.iload X202.here hx rfl (hb hby at_261) rfl (XS.iadd X202.here hx rfl (hb hby at_263) rfl k)))))))))) ?_
    obtain ⟨_, T203, L203, X203, hQ203, st203⟩ := own_tc X202 hx hZ162 hown162 (ow hw 266) (ow hw 267) (rm45_107 l Z a0 hw o166 o167 kc168 ((pi1 &&& (255 : Int32))) ((pi2 &&& (255 : Int32))) G3 G1 T162.heap n0 F191 f179 f180 f181 (own_m255 _) (own_m255 _) f182 O4 rG3 O2 P5) (ow hw 268) (ow hw 242) e202 (g := (mkF m 264 #[vI pi0, vI pi1, vI pi2, vI pi3, vI 2, vI (pi1 &&& (255 : Int32)), vI (pi2 &&& (255 : Int32)), vI (pi3 &&& (255 : Int32)), vR b128, vR o165, vR o166] [.int 14, .ref o166])) rfl (zs hml) (argsL := [.ref o166, .int 14]) (rest := []) (lenOf pd_28 rfl) rfl (hb hby at_264) (W := 0) rfl
    obtain ⟨rfl, Nq203, eq203⟩ := hQ203
    have N203 := Fr.app N200 Nq203
    refine ot T203 (mkF m 267 #[vI pi0, vI pi1, vI pi2, vI pi3, vI 2, vI (pi1 &&& (255 : Int32)), vI (pi2 &&& (255 : Int32)), vI (pi3 &&& (255 : Int32)), vR b128, vR o165, vR o166] [.int 1]) st203 ?_
    exact own_leaveW (s := s) (vm0 := T162.vm) X203 hS162 (Nat.le_refl _) hZ162 (own_EW hw) eq203 CH190 hh hlk (v := some (.int (nar .boolean (1 : Int32)))) (own_nr hret) (lb rfl) (lb rfl) (by rw [eq203]; exact ⟨rfl, N203⟩) (fun fs hr => retN X203 hx (t := .boolean) hret (by simp) (hb hby at_267) hr)
  · rw [hm]
    refine og s₁ (mkF m 96 #[vI pi0, vI pi1, vI pi2, vI pi3, vI 3, vI (pi1 &&& (255 : Int32)), vI (pi2 &&& (255 : Int32)), vI (pi3 &&& (255 : Int32)), vU, vU, vU] []) (fun _ k => XS.iload X0.here hx rfl (hb hby at_29) rfl (XS.ifYes X0.here hx rfl (pc0 := 31) (pc' := 49) rfl (hb hby at_31) rfl ((if0 _ _).trans (feq (by decide : ¬ ((3 : Int32) = (0 : Int32)))).2) (by decide) (by decide) (XS.iload X0.here hx rfl (hb hby at_49) rfl (XS.iconst X0.here hx rfl (hb hby at_51) (XS.icmpYes X0.here hx rfl (pc0 := 52) (pc' := 65) rfl (hb hby at_52) rfl (feq (by decide : ¬ ((3 : Int32) = (1 : Int32)))).2 (by decide) (by decide) (XS.iload X0.here hx rfl (hb hby at_65) rfl (XS.iconst X0.here hx rfl (hb hby at_67) (XS.icmpYes X0.here hx rfl (pc0 := 68) (pc' := 96) rfl (hb hby at_68) rfl (feq (by decide : ¬ ((3 : Int32) = (2 : Int32)))).2 (by decide) (by decide) k)))))))) ?_
    obtain ⟨T204, h204, X204, e204, E204, A204, D204, U204, st204⟩ := newO X0 hx hZ hown (ow hw 0) (ow hw 1) (ow hw 2) e0 (g := (mkF m 96 #[vI pi0, vI pi1, vI pi2, vI pi3, vI 3, vI (pi1 &&& (255 : Int32)), vI (pi2 &&& (255 : Int32)), vI (pi3 &&& (255 : Int32)), vU, vU, vU] [])) rfl (hb hby at_96) (lb rfl) (lb rfl)
    obtain ⟨b204, gb204⟩ : ∃ z, z = h0.size := ⟨_, rfl⟩
    rw [← gb204] at A204 D204 U204 st204
    have g205 : n0 ≤ b204 := Nat.le_trans (own_osz OLD) (Nat.le_of_eq gb204.symm)
    have z206 : h0.size ≤ b204 := Nat.le_trans (Nat.le_refl _) (Nat.le_of_eq gb204.symm)
    have ch207 := CHr.ext E204 CH0.1
    have CH208 := CHr.trans CH0 ch207
    have sf209 := own_safe_new CH0.1 E204 (Nat.le_of_eq gb204.symm)
    refine og T204 (mkF m 101 #[vI pi0, vI pi1, vI pi2, vI pi3, vI 3, vI (pi1 &&& (255 : Int32)), vI (pi2 &&& (255 : Int32)), vI (pi3 &&& (255 : Int32)), vU, vU, vU] [.int 3, .ref b204, .ref b204]) (fun _ k => st204 _ (XS.dup X204.here hx rfl (hb hby at_99) rfl rfl (XS.iconst X204.here hx rfl (hb hby at_100) k))) ?_
    obtain ⟨T210, h210, k210, X210, e210, E210, A210, st210⟩ := newP X204 hx hZ (ow hw 3) e204 (g := (mkF m 101 #[vI pi0, vI pi1, vI pi2, vI pi3, vI 3, vI (pi1 &&& (255 : Int32)), vI (pi2 &&& (255 : Int32)), vI (pi3 &&& (255 : Int32)), vU, vU, vU] [.int 3, .ref b204, .ref b204])) rfl (hb hby at_101) rfl (by decide) (cap := 3) (by decide) (lb rfl) (lb rfl) (lb rfl)
    obtain ⟨b210, gb210⟩ : ∃ z, z = h204.size := ⟨_, rfl⟩
    rw [← gb210] at A210 st210
    have F212 := (OLD.ext E204)
    have g211 : n0 ≤ b210 := Nat.le_trans (own_osz F212) (Nat.le_of_eq gb210.symm)
    have F214 := (Nat.le_trans (Nat.le_refl _) E204.1)
    have z213 : h0.size ≤ b210 := Nat.le_trans F214 (Nat.le_of_eq gb210.symm)
    have ch215 := CHr.ext E210 CH208.1
    have CH216 := CHr.trans CH208 ch215
    have V210 : Arv Z h210 b210 k210 .char (3 : Int32) [.int 0, .int 0, .int 0] (.int 0) := (Arv.new A210 (by decide)).pad (pad_rep [] (.int 0) 3)
    refine og T210 (mkF m 107 #[vI pi0, vI pi1, vI pi2, vI pi3, vI 3, vI (pi1 &&& (255 : Int32)), vI (pi2 &&& (255 : Int32)), vI (pi3 &&& (255 : Int32)), vU, vU, vU] [(.int (pi1 &&& (255 : Int32))), .int 0, .ref b210, .ref b210, .ref b204, .ref b204]) (fun _ k => st210 _ (XS.dup X210.here hx rfl (hb hby at_103) rfl rfl (XS.iconst X210.here hx rfl (hb hby at_104) (XS.iload X210.here hx rfl (hb hby at_105) rfl k)))) ?_
    obtain ⟨cl217, Ar217, qr217, Sr217, Nr217, Hr217, Gr217⟩ := id V210
    obtain ⟨T217, h217, X217, e217, W217, st217⟩ := stC X210 hx hZ e210 Ar217 (j := (0 : Int32)) (inb_of Sr217 ⟨by decide, by decide⟩) (g := (mkF m 107 #[vI pi0, vI pi1, vI pi2, vI pi3, vI 3, vI (pi1 &&& (255 : Int32)), vI (pi2 &&& (255 : Int32)), vI (pi3 &&& (255 : Int32)), vU, vU, vU] [(.int (pi1 &&& (255 : Int32))), .int 0, .ref b210, .ref b210, .ref b204, .ref b204])) rfl rfl (hb hby at_107)
    have V217 : Arv Z h217 b210 k210 .char (3 : Int32) [(.int (nar .char (pi1 &&& (255 : Int32)))), .int 0, .int 0] (.int 0) := Arv.set Ar217 qr217 Sr217 Nr217 Hr217 Gr217 (fits_nar_char _) W217 0 rfl (lb rfl)
    rw [show nar .char (pi1 &&& (255 : Int32)) = (pi1 &&& (255 : Int32)) from (own_nc255 _)] at V217
    obtain ⟨_, q219, -⟩ := id V210
    have ch218 := CHr.wr W217 (Safe.arr hZ.alike q219 nofun) CH216.1
    have CH220 := CHr.trans CH216 ch218
    have N217 := Fr.snoc X217 N0 g211
    refine og T217 (mkF m 112 #[vI pi0, vI pi1, vI pi2, vI pi3, vI 3, vI (pi1 &&& (255 : Int32)), vI (pi2 &&& (255 : Int32)), vI (pi3 &&& (255 : Int32)), vU, vU, vU] [(.int (pi2 &&& (255 : Int32))), .int 1, .ref b210, .ref b210, .ref b204, .ref b204]) (fun _ k => st217 _ (XS.dup X217.here hx rfl (hb hby at_108) rfl rfl (XS.iconst X217.here hx rfl (hb hby at_109) (XS.iload X217.here hx rfl (hb hby at_110) rfl k)))) ?_
    obtain ⟨cl221, Ar221, qr221, Sr221, Nr221, Hr221, Gr221⟩ := id V217
    obtain ⟨T221, h221, X221, e221, W221, st221⟩ := stC X217 hx hZ e217 Ar221 (j := (1 : Int32)) (inb_of Sr221 ⟨by decide, by decide⟩) (g := (mkF m 112 #[vI pi0, vI pi1, vI pi2, vI pi3, vI 3, vI (pi1 &&& (255 : Int32)), vI (pi2 &&& (255 : Int32)), vI (pi3 &&& (255 : Int32)), vU, vU, vU] [(.int (pi2 &&& (255 : Int32))), .int 1, .ref b210, .ref b210, .ref b204, .ref b204])) rfl rfl (hb hby at_112)
    have V221 : Arv Z h221 b210 k210 .char (3 : Int32) [(.int (pi1 &&& (255 : Int32))), (.int (nar .char (pi2 &&& (255 : Int32)))), .int 0] (.int 0) := Arv.set Ar221 qr221 Sr221 Nr221 Hr221 Gr221 (fits_nar_char _) W221 1 rfl (lb rfl)
    rw [show nar .char (pi2 &&& (255 : Int32)) = (pi2 &&& (255 : Int32)) from (own_nc255 _)] at V221
    obtain ⟨_, q223, -⟩ := id V217
    have ch222 := CHr.wr W221 (Safe.arr hZ.alike q223 nofun) CH220.1
    have CH224 := CHr.trans CH220 ch222
    have N221 := Fr.snoc X221 N217 g211
    refine og T221 (mkF m 117 #[vI pi0, vI pi1, vI pi2, vI pi3, vI 3, vI (pi1 &&& (255 : Int32)), vI (pi2 &&& (255 : Int32)), vI (pi3 &&& (255 : Int32)), vU, vU, vU] [(.int (pi3 &&& (255 : Int32))), .int 2, .ref b210, .ref b210, .ref b204, .ref b204]) (fun _ k => st221 _ (XS.dup X221.here hx rfl (hb hby at_113) rfl rfl (XS.iconst X221.here hx rfl (hb hby at_114) (XS.iload X221.here hx rfl (hb hby at_115) rfl k)))) ?_
    obtain ⟨cl225, Ar225, qr225, Sr225, Nr225, Hr225, Gr225⟩ := id V221
    obtain ⟨T225, h225, X225, e225, W225, st225⟩ := stC X221 hx hZ e221 Ar225 (j := (2 : Int32)) (inb_of Sr225 ⟨by decide, by decide⟩) (g := (mkF m 117 #[vI pi0, vI pi1, vI pi2, vI pi3, vI 3, vI (pi1 &&& (255 : Int32)), vI (pi2 &&& (255 : Int32)), vI (pi3 &&& (255 : Int32)), vU, vU, vU] [(.int (pi3 &&& (255 : Int32))), .int 2, .ref b210, .ref b210, .ref b204, .ref b204])) rfl rfl (hb hby at_117)
    have V225 : Arv Z h225 b210 k210 .char (3 : Int32) [(.int (pi1 &&& (255 : Int32))), (.int (pi2 &&& (255 : Int32))), (.int (nar .char (pi3 &&& (255 : Int32))))] (.int 0) := Arv.set Ar225 qr225 Sr225 Nr225 Hr225 Gr225 (fits_nar_char _) W225 2 rfl (lb rfl)
    rw [show nar .char (pi3 &&& (255 : Int32)) = (pi3 &&& (255 : Int32)) from (own_nc255 _)] at V225
    obtain ⟨_, q227, -⟩ := id V221
    have ch226 := CHr.wr W225 (Safe.arr hZ.alike q227 nofun) CH224.1
    have CH228 := CHr.trans CH224 ch226
    have N225 := Fr.snoc X225 N221 g211
    refine og T225 (mkF m 118 #[vI pi0, vI pi1, vI pi2, vI pi3, vI 3, vI (pi1 &&& (255 : Int32)), vI (pi2 &&& (255 : Int32)), vI (pi3 &&& (255 : Int32)), vU, vU, vU] [.ref b210, .ref b204, .ref b204]) st225 ?_
    have hp229 : ∀ c ∈ ([(pi1 &&& 255), (pi2 &&& 255), (pi3 &&& 255)] : List Int32), ¬ c < 0 ∧ ¬ (255 : Int32) < c := by
      intro c hc
      simp only [List.mem_cons, List.not_mem_nil, or_false] at hc
      rcases hc with rfl | rfl | rfl
      · exact (own_m255 _)
      · exact (own_m255 _)
      · exact (own_m255 _)
    have F230 := ((((A204.ext E210).wr W217).wr W221).wr W225)
    have F231 := (((((D204 (Or.inr (ow hw 16)) (ty := (.array .byte)) (by decide)).ext E210).other W217 (Or.inl (own_ne_lo A204.lt (Nat.le_of_eq gb210.symm)))).other W221 (Or.inl (own_ne_lo A204.lt (Nat.le_of_eq gb210.symm)))).other W225 (Or.inl (own_ne_lo A204.lt (Nat.le_of_eq gb210.symm))))
    have F232 := (((((D204 (Or.inr (ow hw 17)) (ty := .byte) (by decide)).ext E210).other W217 (Or.inl (own_ne_lo A204.lt (Nat.le_of_eq gb210.symm)))).other W221 (Or.inl (own_ne_lo A204.lt (Nat.le_of_eq gb210.symm)))).other W225 (Or.inl (own_ne_lo A204.lt (Nat.le_of_eq gb210.symm))))
    have F233 := ((((F212.ext E210).wr W217 g211).wr W221 g211).wr W225 g211)
    obtain ⟨_, _, ⟨T234, L234, k234, n234⟩, -, X234, ⟨Lc234, hQ234, l234, y234, z234⟩, st234⟩ := X225.specialBack hx (y := y1) rfl hown (mvT hZ (ow hw 4)) (mvT hZ (ow hw 5)) (mvT hZ (ow hw 6)) (by decide) (StrChars.Road.backV (W := 1) hZ (own_hws hw) (kI := 4) (ow hw 1) (cs := ([(pi1 &&& 255), (pi2 &&& 255), (pi3 &&& 255)] : List Int32)) (bs := (([(pi1 &&& 255), (pi2 &&& 255), (pi3 &&& 255)] : List Int32).map (fun c => c.toInt8.toInt32))) (n := 3) g205 (own_osz F233) F230 F231 F232 V225 (O2.ext F233.2) P5 rfl rfl (by decide) (by decide) hp229 rfl (lb rfl) (lb rfl)) (g := (mkF m 118 #[vI pi0, vI pi1, vI pi2, vI pi3, vI 3, vI (pi1 &&& (255 : Int32)), vI (pi2 &&& (255 : Int32)), vI (pi3 &&& (255 : Int32)), vU, vU, vU] [.ref b210, .ref b204, .ref b204])) rfl (zs hml) (Steps.refl _) (a := b204) (argsL := [.ref b210]) (rest := [.ref b204]) (lenOf pd_1 rfl) rfl (lb rfl) (hb hby at_118) (fun _ _ => ⟨rfl, e225, (lb rfl), (lb rfl)⟩)
    dsimp only [Pt.U, Pt.locs, Pt.cells, Pt.slots] at X234 l234 y234 z234 st234 hQ234
    subst l234 y234 z234
    obtain ⟨rfl, Nq234, K234, Ex234, Fc234, t234, kb234, -, lo234, -, Fv234, Av234⟩ := hQ234
    have N234 := Fr.app N225 Nq234
    have g235 : n0 ≤ t234 := Nat.le_trans (own_osz F233) lo234
    have F237 := (Nat.le_trans (Nat.le_trans (Nat.le_trans (Nat.le_trans F214 E210.1) (Nat.le_of_eq W217.size.symm)) (Nat.le_of_eq W221.size.symm)) (Nat.le_of_eq W225.size.symm))
    have z236 : h0.size ≤ t234 := Nat.le_trans F237 lo234
    have F238 := (CHr.safe ch226 (Nat.lt_of_lt_of_le (Nat.lt_of_lt_of_le (Nat.lt_of_lt_of_le A204.lt E210.1) (Nat.le_of_eq W217.size.symm)) (Nat.le_of_eq W221.size.symm)) (CHr.safe ch222 (Nat.lt_of_lt_of_le (Nat.lt_of_lt_of_le A204.lt E210.1) (Nat.le_of_eq W217.size.symm)) (CHr.safe ch218 (Nat.lt_of_lt_of_le A204.lt E210.1) (CHr.safe ch215 A204.lt sf209))))
    have ch239 := CHr.keep K234 (allS F238 all0) CH228.1
    have CH240 := CHr.trans CH228 ch239
    have Ay234 : Arv Z T234.heap t234 kb234 .byte (3 : Int32) (own_by ([(pi1 &&& 255), (pi2 &&& 255), (pi3 &&& 255)] : List Int32)) (.int 0) := Av234
    refine og T234 (mkF m 125 #[vI pi0, vI pi1, vI pi2, vI pi3, vI 3, vI (pi1 &&& (255 : Int32)), vI (pi2 &&& (255 : Int32)), vI (pi3 &&& (255 : Int32)), vR b204, vU, vU] [.ref b204]) (fun _ k => st234.trans (XS.astore X234.here hx rfl (hb hby at_121) rfl rfl (l' := #[vI pi0, vI pi1, vI pi2, vI pi3, vI 3, vI (pi1 &&& (255 : Int32)), vI (pi2 &&& (255 : Int32)), vI (pi3 &&& (255 : Int32)), vR b204, vU, vU]) rfl (XS.aload X234.here hx rfl (hb hby at_123) rfl rfl k))) ?_
    have F241 := (F233.keep K234 (allS g205 all0))
    obtain ⟨_, _, ⟨T242, L242, k242, n242⟩, -, X242, hs242, hg242, ⟨Lc242, hQ242, l242, y242, z242, ch242⟩, st242⟩ := callSS X234 hx (y := y30) hown (mvT hZ (ow hw 22)) (mvT hZ (ow hw 23)) (mvT hZ (ow hw 24)) (mvT hZ (ow hw 25)) (by decide) (own_backSH (W := 0) (rm4_109 l Z a0 hw b204 t234 kb234 (([(pi1 &&& 255), (pi2 &&& 255), (pi3 &&& 255)] : List Int32)) kw0 G1 us up T234.heap n0 F241 Ex234 Fc234 Fv234 rfl hp229 Ay234 SK0 EK0 O2 P5 Sus rf_us Sup rf_up hl rus) hZ (ow hw 25) (ow hw 24) (lb rfl) (lb rfl) (own_EW hw) CH240.1 all0 (fun _ => ⟨Vm.MethodsKnown.alikeC hS0.1.alike (hKn rfl).1, Vm.FramesKnown.alikeC hS0.1.alike (hKn rfl).2⟩)) (g := (mkF m 125 #[vI pi0, vI pi1, vI pi2, vI pi3, vI 3, vI (pi1 &&& (255 : Int32)), vI (pi2 &&& (255 : Int32)), vI (pi3 &&& (255 : Int32)), vR b204, vU, vU] [.ref b204])) rfl (zs hml) (argsL := [.ref b204]) (rest := []) (lenOf pd_24 rfl) rfl (lb rfl) (hb hby at_125) (fun _ _ => ⟨rfl, rfl, (lb rfl), (lb rfl)⟩)
    dsimp only [Pt.U, Pt.locs, Pt.cells, Pt.slots] at X242 l242 y242 z242 st242 hQ242 hs242 hg242 ch242
    subst l242 y242 z242
    replace X242 := own_reb X242
    have F243 := (Nat.le_trans (Nat.le_trans (Nat.le_trans (Nat.le_trans hk0 E204.1) E210.1) (Nat.le_of_eq W217.size.symm)) (Nat.le_of_eq W221.size.symm))
    have F244 := (Nat.le_trans (Nat.le_trans F243 (Nat.le_of_eq W225.size.symm)) K234.1)
    obtain ⟨hZ242, hS242, hown242⟩ := own_after hZ hS0 rfl F244 hs242 hg242 hown
    obtain ⟨o245, o246, o247, kc248, hc249, rfl, Nq242, K242, f250, f251, f252, f253, f254, f255, f256, f257, f258, f259, f260, f261, f262⟩ := hQ242
    have N242 := Fr.app N234 Nq242
    have g263 : n0 ≤ o245 := Nat.le_trans (own_osz F241) f250
    have F265 := (Nat.le_trans F237 K234.1)
    have z264 : h0.size ≤ o245 := Nat.le_trans F265 f250
    have g266 : n0 ≤ o246 := Nat.le_trans (own_osz F241) f251
    have z267 : h0.size ≤ o246 := Nat.le_trans F265 f251
    have g268 : n0 ≤ o247 := Nat.le_trans (own_osz F241) f252
    have z269 : h0.size ≤ o247 := Nat.le_trans F265 f252
    have CH270 := CHr.trans CH240 ch242
    refine og T242 (mkF m 139 #[vI pi0, vI pi1, vI pi2, vI pi3, vI 3, vI (pi1 &&& (255 : Int32)), vI (pi2 &&& (255 : Int32)), vI (pi3 &&& (255 : Int32)), vR b204, vR o245, vU] [.ref o245]) (fun _ k => st242.trans (XS.astore X242.here hx rfl (hb hby at_128) rfl rfl (l' := #[vI pi0, vI pi1, vI pi2, vI pi3, vI 3, vI (pi1 &&& (255 : Int32)), vI (pi2 &&& (255 : Int32)), vI (pi3 &&& (255 : Int32)), vR b204, vR o245, vU]) rfl (XS.aload X242.here hx rfl (hb hby at_130) rfl rfl (XS.ifnonnullYes X242.here hx rfl (pc0 := 132) (pc' := 137) rfl (hb hby at_132) rfl (by decide) (by decide) (XS.aload X242.here hx rfl (hb hby at_137) rfl rfl k))))) ?_
    have F271 := (F241.keep K242 all0)
    obtain ⟨_, T272, L272, X272, hQ272, st272⟩ := own_vc X242 hx hZ242 hown242 (ow hw 221) (ow hw 222) (ow hw 224) (ow hw 223) f253 (rm36_50 l Z a0 hw o245 kw0 T242.heap n0 F271 f257) (ow hw 225) (ow hw 24) rfl (g := (mkF m 139 #[vI pi0, vI pi1, vI pi2, vI pi3, vI 3, vI (pi1 &&& (255 : Int32)), vI (pi2 &&& (255 : Int32)), vI (pi3 &&& (255 : Int32)), vR b204, vR o245, vU] [.ref o245])) rfl (zs hml) (argsL := []) (rest := []) (lenOf pd_25 rfl) rfl (hb hby at_139) (W := 0) rfl
    obtain ⟨rfl, Nq272, eq272⟩ := hQ272
    have N272 := Fr.app N242 Nq272
    refine ot T272 (mkF m 142 #[vI pi0, vI pi1, vI pi2, vI pi3, vI 3, vI (pi1 &&& (255 : Int32)), vI (pi2 &&& (255 : Int32)), vI (pi3 &&& (255 : Int32)), vR b204, vR o245, vU] [.ref kw0]) st272 ?_
    obtain ⟨T273, X273, e273, st273⟩ := getS2 X272 hx hZ242 hown242 (host := "") (Or.inl (ow hw 226)) Via.refl eq272 (SK0.ext F271.2) (g := (mkF m 142 #[vI pi0, vI pi1, vI pi2, vI pi3, vI 3, vI (pi1 &&& (255 : Int32)), vI (pi2 &&& (255 : Int32)), vI (pi3 &&& (255 : Int32)), vR b204, vR o245, vU] [.ref kw0])) rfl (hb hby at_142)
    refine og T273 (mkF m 152 #[vI pi0, vI pi1, vI pi2, vI pi3, vI 3, vI (pi1 &&& (255 : Int32)), vI (pi2 &&& (255 : Int32)), vI (pi3 &&& (255 : Int32)), vR b204, vR o245, vU] [.ref o245]) (fun _ k => st273 _ (Jvm.RoadKit.acmp (g := (mkF m 145 #[vI pi0, vI pi1, vI pi2, vI pi3, vI 3, vI (pi1 &&& (255 : Int32)), vI (pi2 &&& (255 : Int32)), vI (pi3 &&& (255 : Int32)), vR b204, vR o245, vU] [.ref kw0, .ref kw0])) X273 hx rfl rfl rfl (pc0 := 145) (pc' := 150) (same := true) rfl (hb hby at_145) rfl (decide_eq_true rfl) (by decide) (by decide) (XS.aload X273.here hx rfl (hb hby at_150) rfl rfl k))) ?_
    obtain ⟨cq274, kq274, q274a, q274b, q274c⟩ := isOf hZ242 e273 f253
    obtain ⟨_, _, ⟨T274, L274, k274, n274⟩, -, X274, ⟨hv274, eq274, l274, y274, z274⟩, st274⟩ := X273.virtualBackUp hx (x := y32) (y := y33) hown242 (mvT hZ242 (ow hw 227)) (mvT hZ242 (ow hw 228)) (mvT hZ242 (ow hw 229)) (by decide) (mvT hZ242 (ow hw 231)) (mvT hZ242 (ow hw 230)) (gcBackPure (rm := { frames := 0, cells := 0, slots := 0, locals := 0 }) (W := 0) hZ242 (ow hw 232) (ow hw 230) (ow hw 173) (ow hw 176) f254 f255 rfl (lb rfl) (lb rfl)) q274a q274c (g := (mkF m 152 #[vI pi0, vI pi1, vI pi2, vI pi3, vI 3, vI (pi1 &&& (255 : Int32)), vI (pi2 &&& (255 : Int32)), vI (pi3 &&& (255 : Int32)), vR b204, vR o245, vU] [.ref o245])) rfl (zs hml) (Steps.refl _) (argsL := []) (rest := []) (lenOf pd_26 rfl) rfl (lb rfl) (hb hby at_152) (fun _ _ => ⟨rfl, e273, (lb rfl), (lb rfl)⟩)
    dsimp only [Pt.U, Pt.locs, Pt.cells, Pt.slots] at X274 l274 y274 z274 st274 hv274 eq274
    subst l274 y274 z274
    rw [gcv_self] at hv274
    subst hv274
    refine og T274 (mkF m 162 #[vI pi0, vI pi1, vI pi2, vI pi3, vI 3, vI (pi1 &&& (255 : Int32)), vI (pi2 &&& (255 : Int32)), vI (pi3 &&& (255 : Int32)), vR b204, vR o245, vU] [.ref o245]) (fun _ k => st274.trans (XS.ifnullYes X274.here hx rfl (pc0 := 155) (pc' := 160) rfl (hb hby at_155) rfl (by decide) (by decide) (XS.aload X274.here hx rfl (hb hby at_160) rfl rfl k))) ?_
    obtain ⟨cq276, kq276, q276a, q276b, q276c⟩ := isOf hZ242 eq274 f253
    obtain ⟨_, _, ⟨T276, L276, k276, n276⟩, -, X276, ⟨Lc276, hQ276, l276, y276, z276⟩, st276⟩ := X274.virtualBackUp hx (x := y35) (y := y34) hown242 (mvT hZ242 (ow hw 233)) (mvT hZ242 (ow hw 234)) (mvT hZ242 (ow hw 235)) (by decide) (mvT hZ242 (ow hw 237)) (mvT hZ242 (ow hw 236)) (backOf (W := 0) (rm38_51 l Z a0 hw o245 o246 T242.heap n0 F271 f256) hZ242 (ow hw 238) (ow hw 173) (lb rfl) (lb rfl)) q276a q276c (g := (mkF m 162 #[vI pi0, vI pi1, vI pi2, vI pi3, vI 3, vI (pi1 &&& (255 : Int32)), vI (pi2 &&& (255 : Int32)), vI (pi3 &&& (255 : Int32)), vR b204, vR o245, vU] [.ref o245])) rfl (zs hml) (Steps.refl _) (argsL := []) (rest := []) (lenOf pd_21 rfl) rfl (lb rfl) (hb hby at_162) (fun _ _ => ⟨rfl, eq274, (lb rfl), (lb rfl)⟩)
    dsimp only [Pt.U, Pt.locs, Pt.cells, Pt.slots] at X276 l276 y276 z276 st276 hQ276
    subst l276 y276 z276
    obtain ⟨rfl, Nq276, eq276⟩ := hQ276
    have N276 := Fr.app N272 Nq276
    refine og T276 (mkF m 174 #[vI pi0, vI pi1, vI pi2, vI pi3, vI 3, vI (pi1 &&& (255 : Int32)), vI (pi2 &&& (255 : Int32)), vI (pi3 &&& (255 : Int32)), vR b204, vR o245, vR o246] [.ref o246]) (fun _ k => st276.trans (XS.astore X276.here hx rfl (hb hby at_165) rfl rfl (l' := #[vI pi0, vI pi1, vI pi2, vI pi3, vI 3, vI (pi1 &&& (255 : Int32)), vI (pi2 &&& (255 : Int32)), vI (pi3 &&& (255 : Int32)), vR b204, vR o245, vR o246]) rfl (XS.aload X276.here hx rfl (hb hby at_167) rfl rfl (XS.ifnullNo X276.here hx rfl (hb hby at_169) rfl (XS.aload X276.here hx rfl (hb hby at_172) rfl rfl k))))) ?_
    have hp277 : own_L cL0 := own_hpl _ rfl
    have hp278 : own_L cL1 := own_hpl _ rfl
    obtain ⟨T279, X279, e279, st279⟩ := own_lenA X276 hx hZ242 hown242 (ow hw 239) hw f259 f261 f260 f262 (own_la (own_la rfl rfl) rfl) (own_happ (own_happ hp277 hp229) hp278) eq276 (O2.ext F271.2) P5 (g := (mkF m 174 #[vI pi0, vI pi1, vI pi2, vI pi3, vI 3, vI (pi1 &&& (255 : Int32)), vI (pi2 &&& (255 : Int32)), vI (pi3 &&& (255 : Int32)), vR b204, vR o245, vR o246] [.ref o246])) rfl (zs hml) (rest := []) rfl (hb hby at_174) (W := 0) rfl
    refine og T279 (mkF m 189 #[vI pi0, vI pi1, vI pi2, vI pi3, vI 3, vI (pi1 &&& (255 : Int32)), vI (pi2 &&& (255 : Int32)), vI (pi3 &&& (255 : Int32)), vR b204, vR o245, vR o246] [.ref o246]) (fun _ k => st279 _ (XS.bipush X279.here hx rfl (hb hby at_177) (XS.iload X279.here hx rfl (hb hby at_179) rfl (XS.iadd X279.here hx rfl (hb hby at_181) rfl (XS.icmpYes X279.here hx rfl (pc0 := 182) (pc' := 187) rfl (hb hby at_182) rfl (teq (by decide : (30 : Int32) = (30 : Int32))).1 (by decide) (by decide) (XS.aload X279.here hx rfl (hb hby at_187) rfl rfl k)))))) ?_
    obtain ⟨_, T280, L280, X280, hQ280, st280⟩ := own_tc X279 hx hZ242 hown242 (ow hw 240) (ow hw 241) (rm39_131 l Z a0 hw o246 o247 kc248 ((pi1 &&& (255 : Int32))) ((pi2 &&& (255 : Int32))) ((pi3 &&& (255 : Int32))) G3 G1 T242.heap n0 F271 f259 f260 f261 (own_m255 _) (own_m255 _) (own_m255 _) f262 O4 rG3 O2 P5) (ow hw 243) (ow hw 242) e279 (g := (mkF m 189 #[vI pi0, vI pi1, vI pi2, vI pi3, vI 3, vI (pi1 &&& (255 : Int32)), vI (pi2 &&& (255 : Int32)), vI (pi3 &&& (255 : Int32)), vR b204, vR o245, vR o246] [.ref o246])) rfl (zs hml) (argsL := [.ref o246]) (rest := []) (lenOf pd_27 rfl) rfl (hb hby at_189) (W := 0) rfl
    obtain ⟨rfl, Nq280, eq280⟩ := hQ280
    have N280 := Fr.app N276 Nq280
    refine og T280 (mkF m 207 #[vI pi0, vI pi1, vI pi2, vI pi3, vI 3, vI (pi1 &&& (255 : Int32)), vI (pi2 &&& (255 : Int32)), vI (pi3 &&& (255 : Int32)), vR b204, vR o245, vR o246] [.int 12, .ref o246]) (fun _ k => st280.trans (XS.ifYes X280.here hx rfl (pc0 := 192) (pc' := 197) rfl (hb hby at_192) rfl ((if0 _ _).trans (feq (by decide : ¬ ((1 : Int32) = (0 : Int32)))).2) (by decide) (by decide) (XS.iload X280.here hx rfl (hb hby at_197) rfl (XS.iconst X280.here hx rfl (hb hby at_199) (XS.icmpNo X280.here hx rfl (hb hby at_200) rfl (flt (by decide : ¬ ((3 : Int32) < (1 : Int32)))).1 (XS.aload X280.here hx rfl (hb hby at_203) rfl rfl (XS.bipush X280.here hx rfl (hb hby at_205) k))))))) ?_
    obtain ⟨T281, X281, e281, st281⟩ := own_chA X280 hx hZ242 hown242 (ow hw 244) hw f259 f261 f260 f262 (own_la (own_la rfl rfl) rfl) (own_happ (own_happ hp277 hp229) hp278) eq280 (O2.ext F271.2) P5 (O4.ext F271.2) rG3 (i := 12) (lb rfl) (g := (mkF m 207 #[vI pi0, vI pi1, vI pi2, vI pi3, vI 3, vI (pi1 &&& (255 : Int32)), vI (pi2 &&& (255 : Int32)), vI (pi3 &&& (255 : Int32)), vR b204, vR o245, vR o246] [.int 12, .ref o246])) rfl (zs hml) (rest := []) rfl (hb hby at_207) (W := 0) rfl
    refine og T281 (mkF m 227 #[vI pi0, vI pi1, vI pi2, vI pi3, vI 3, vI (pi1 &&& (255 : Int32)), vI (pi2 &&& (255 : Int32)), vI (pi3 &&& (255 : Int32)), vR b204, vR o245, vR o246] [.int 13, .ref o246]) (fun _ k => st281 _ (XS.iload X281.here hx rfl (hb hby at_210) rfl (XS.icmpYes X281.here hx rfl (pc0 := 212) (pc' := 217) rfl (hb hby at_212) rfl (teq (rfl : (pi1 &&& (255 : Int32)) = (pi1 &&& (255 : Int32)))).1 (by decide) (by decide) (XS.iload X281.here hx rfl (hb hby at_217) rfl (XS.iconst X281.here hx rfl (hb hby at_219) (XS.icmpNo X281.here hx rfl (hb hby at_220) rfl (flt (by decide : ¬ ((3 : Int32) < (2 : Int32)))).1 (XS.aload X281.here hx rfl (hb hby at_223) rfl rfl (XS.bipush X281.here hx rfl (hb hby at_225) k)))))))) ?_
    obtain ⟨T282, X282, e282, st282⟩ := own_chA X281 hx hZ242 hown242 (ow hw 244) hw f259 f261 f260 f262 (own_la (own_la rfl rfl) rfl) (own_happ (own_happ hp277 hp229) hp278) e281 (O2.ext F271.2) P5 (O4.ext F271.2) rG3 (i := 13) (lb rfl) (g := (mkF m 227 #[vI pi0, vI pi1, vI pi2, vI pi3, vI 3, vI (pi1 &&& (255 : Int32)), vI (pi2 &&& (255 : Int32)), vI (pi3 &&& (255 : Int32)), vR b204, vR o245, vR o246] [.int 13, .ref o246])) rfl (zs hml) (rest := []) rfl (hb hby at_227) (W := 0) rfl
    refine og T282 (mkF m 247 #[vI pi0, vI pi1, vI pi2, vI pi3, vI 3, vI (pi1 &&& (255 : Int32)), vI (pi2 &&& (255 : Int32)), vI (pi3 &&& (255 : Int32)), vR b204, vR o245, vR o246] [.int 14, .ref o246]) (fun _ k => st282 _ (XS.iload X282.here hx rfl (hb hby at_230) rfl (XS.icmpYes X282.here hx rfl (pc0 := 232) (pc' := 237) rfl (hb hby at_232) rfl (teq (rfl : (pi2 &&& (255 : Int32)) = (pi2 &&& (255 : Int32)))).1 (by decide) (by decide) (XS.iload X282.here hx rfl (hb hby at_237) rfl (XS.iconst X282.here hx rfl (hb hby at_239) (XS.icmpNo X282.here hx rfl (hb hby at_240) rfl (flt (by decide : ¬ ((3 : Int32) < (3 : Int32)))).1 (XS.aload X282.here hx rfl (hb hby at_243) rfl rfl (XS.bipush X282.here hx rfl (hb hby at_245) k)))))))) ?_
    obtain ⟨T283, X283, e283, st283⟩ := own_chA X282 hx hZ242 hown242 (ow hw 244) hw f259 f261 f260 f262 (own_la (own_la rfl rfl) rfl) (own_happ (own_happ hp277 hp229) hp278) e282 (O2.ext F271.2) P5 (O4.ext F271.2) rG3 (i := 14) (lb rfl) (g := (mkF m 247 #[vI pi0, vI pi1, vI pi2, vI pi3, vI 3, vI (pi1 &&& (255 : Int32)), vI (pi2 &&& (255 : Int32)), vI (pi3 &&& (255 : Int32)), vR b204, vR o245, vR o246] [.int 14, .ref o246])) rfl (zs hml) (rest := []) rfl (hb hby at_247) (W := 0) rfl
    refine og T283 (mkF m 264 #[vI pi0, vI pi1, vI pi2, vI pi3, vI 3, vI (pi1 &&& (255 : Int32)), vI (pi2 &&& (255 : Int32)), vI (pi3 &&& (255 : Int32)), vR b204, vR o245, vR o246] [.int 15, .ref o246]) (fun _ k => st283 _ (XS.iload X283.here hx rfl (hb hby at_250) rfl (XS.icmpYes X283.here hx rfl (pc0 := 252) (pc' := 257) rfl (hb hby at_252) rfl (teq (rfl : (pi3 &&& (255 : Int32)) = (pi3 &&& (255 : Int32)))).1 (by decide) (by decide) (XS.aload X283.here hx rfl (hb hby at_257) rfl rfl (XS.bipush X283.here hx rfl (hb hby at_259) (XS.iload X283.here hx rfl (hb hby at_261) rfl (XS.iadd X283.here hx rfl (hb hby at_263) rfl k))))))) ?_
    obtain ⟨_, T284, L284, X284, hQ284, st284⟩ := own_tc X283 hx hZ242 hown242 (ow hw 266) (ow hw 267) (rm45_132 l Z a0 hw o246 o247 kc248 ((pi1 &&& (255 : Int32))) ((pi2 &&& (255 : Int32))) ((pi3 &&& (255 : Int32))) G3 G1 T242.heap n0 F271 f259 f260 f261 (own_m255 _) (own_m255 _) (own_m255 _) f262 O4 rG3 O2 P5) (ow hw 268) (ow hw 242) e283 (g := (mkF m 264 #[vI pi0, vI pi1, vI pi2, vI pi3, vI 3, vI (pi1 &&& (255 : Int32)), vI (pi2 &&& (255 : Int32)), vI (pi3 &&& (255 : Int32)), vR b204, vR o245, vR o246] [.int 15, .ref o246])) rfl (zs hml) (argsL := [.ref o246, .int 15]) (rest := []) (lenOf pd_28 rfl) rfl (hb hby at_264) (W := 0) rfl
    obtain ⟨rfl, Nq284, eq284⟩ := hQ284
    have N284 := Fr.app N280 Nq284
    refine ot T284 (mkF m 267 #[vI pi0, vI pi1, vI pi2, vI pi3, vI 3, vI (pi1 &&& (255 : Int32)), vI (pi2 &&& (255 : Int32)), vI (pi3 &&& (255 : Int32)), vR b204, vR o245, vR o246] [.int 1]) st284 ?_
    exact own_leaveW (s := s) (vm0 := T242.vm) X284 hS242 (Nat.le_refl _) hZ242 (own_EW hw) eq284 CH270 hh hlk (v := some (.int (nar .boolean (1 : Int32)))) (own_nr hret) (lb rfl) (lb rfl) (by rw [eq284]; exact ⟨rfl, N284⟩) (fun fs hr => retN X284 hx (t := .boolean) hret (by simp) (hb hby at_267) hr)
set_option maxRecDepth 65536 in
set_option maxHeartbeats 40000000 in
theorem comes_1 {Post : Tables → Env → Array Value → State → Outcome → State → Prop} (hpost : ∀ tb e args s v u, (limb_1_1.after args s (.returned v) u = true ∧ limb_1_2.after args s (.returned v) u = true ∧ True) → ReturnedEndW s (.returned v) u (Jvm.fieldLocs frame_1_writes args s ++ Jvm.arrayLocs frame_1_arrays args s ++ Jvm.staticLocs frame_1_statics s) 40 9920 → Post tb e args s (.returned v) u) :
    ArmFor flags0 classFile x code maxLocals ret World_1 tables_1 room_1 Calls_1 rest_1 Pre_1 Post := by
  intro l hfl _ _ p e ha hc hk s m args below hf hA hF happ hP
  obtain ⟨hcalls, hrest, hpre⟩ := hP
  obtain ⟨-, -, -, hnamed, -, -, -, hat⟩ := (Spec.applies_iff hf).mp happ
  obtain ⟨hg, hn⟩ := and_e (Cond.before_iff.mp (show (Jvm.Cond.and given_1 narrow_1).before args s = true from hpre))
  obtain ⟨gv0, gr0⟩ := and_e hg
  obtain ⟨gv1, gr1⟩ := and_e gr0
  obtain ⟨gv2, gr2⟩ := and_e gr1
  obtain ⟨gv3, gv4⟩ := and_e gr2
  obtain ⟨w0, w1, w2, w3, rfl⟩ : ∃ w0 w1 w2 w3 : Value, args = #[w0, w1, w2, w3] := by
    have hs : args.size = 4 := by simpa [Cond.value, given_1] using gv0
    obtain ⟨L⟩ := args
    match L, hs with
    | [w0, w1, w2, w3], _ => exact ⟨w0, w1, w2, w3, rfl⟩
  have hw := fun d (hd : d ∈ tables_1) => atoms_spec (ws := Jvm.Cond.code x code maxLocals ret :: tables_1) hat d (List.mem_cons_of_mem _ hd)
  have hfit : Fit s := fun {y c} hc i hi => by
    obtain ⟨ha, rfl⟩ := Array.getElem?_eq_some_iff.mp hc
    have q := List.all_eq_true.mp ((Array.all_eq_true_iff_forall_mem.mp hF) _ (Array.getElem_mem ha)) i (List.mem_range.mpr hi)
    simpa [Array.getElem?_eq_getElem hi] using q
  obtain ⟨hsets, hown0⟩ := atoms_of _ (rest_1_c_eq ▸ (show rest_1_c.before _ s = true from hrest))
  obtain ⟨i0, ei0⟩ := is_v gv1
  obtain rfl : w0 = (.int i0) := Option.some.inj ei0
  obtain ⟨i1, ei1⟩ := is_v gv2
  obtain rfl : w1 = (.int i1) := Option.some.inj ei1
  obtain ⟨i2, ei2⟩ := is_v gv3
  obtain rfl : w2 = (.int i2) := Option.some.inj ei2
  obtain ⟨i3, ei3⟩ := is_v gv4
  obtain rfl : w3 = (.int i3) := Option.some.inj ei3
  have n5 := not_v (Cond.before_iff.mp (hsets _ (List.mem_of_getElem? (i := 2) rfl)))
  obtain ⟨G1, eG1⟩ := is_v (Cond.before_iff.mp (hsets _ (List.mem_of_getElem? (i := 1) rfl)))
  have O2 : Sta s s.heap "java/lang/String" "COMPACT_STRINGS" "Z" (.int G1) := Sta.start eG1 (Or.inl (hsets _ (List.mem_of_getElem? (i := 0) rfl)))
  have P5 : ¬ (G1 = (0 : Int32)) := gotF (Cond.eq_ints eG1 (Term.int_eval (0))) n5
  obtain ⟨G3, eG3, rG3⟩ := isR_v (Cond.before_iff.mp (hsets _ (List.mem_of_getElem? (i := 8) rfl)))
  have O4 : Sta s s.heap "jdk/internal/util/Preconditions" "SIOOBE_FORMATTER" "Ljava/util/function/BiFunction;" G3 := Sta.start eG3 (Or.inl (hsets _ (List.mem_of_getElem? (i := 7) rfl)))
  have CHs : CHv s own_EL s.vm s.heap := CHv.start (own_EW hw) (fun p hp => own_held hcalls p hp) (hsets _ (List.mem_of_getElem? (i := 2) rfl)) (own_wa hw) (own_wi hw)
  obtain ⟨kw0, eK0⟩ := exa_v hn
  have EK0 : Exa s s.heap kw0 "com/example/webhooks_to_ledger/webhookstoledger/HoldReason" := Exa.start eK0 hn
  have SK0 : Sta s s.heap "com/example/webhooks_to_ledger/webhookstoledger/HoldReason" "UNMAPPED_TYPE" "Lcom/example/webhooks_to_ledger/webhookstoledger/HoldReason;" (.ref kw0) := Sta.start eK0 (Or.inr ⟨(own_w hw 29), (own_w hw 30)⟩)
  have hl : l.stackTraces = true := by unfold Launch.stackTraces; rw [hfl]; decide
  obtain ⟨us, eus, fus⟩ := static_fit hfit (own_w hw 204) (ty := .array (.object "java/lang/StackTraceElement")) (by decide)
  have rus : us.isRef = true := fit_R fus rfl
  have rf_us := rus
  have Sus : Sta s s.heap "java/lang/Throwable" "UNASSIGNED_STACK" "[Ljava/lang/StackTraceElement;" us := Sta.start eus (Or.inr ⟨(own_w hw 173), (own_w hw 204)⟩)
  obtain ⟨up, eup, fup⟩ := static_fit hfit (own_w hw 205) (ty := .object "java/util/List") (by decide)
  have rup : up.isRef = true := fit_R fup rfl
  have rf_up := rup
  have Sup : Sta s s.heap "java/lang/Throwable" "SUPPRESSED_SENTINEL" "Ljava/util/List;" up := Sta.start eup (Or.inr ⟨(own_w hw 173), (own_w hw 205)⟩)
  obtain ⟨n, o, h1, h2, h3, _, L, rfl, ⟨rfl, N⟩, -, hq⟩ := rmlaw l s _ hw i0 i1 i2 i3 kw0 G1 us up G3 s.heap s.heap.size (Old.start s) SK0 EK0 O2 P5 Sus rf_us Sup rf_up hl rus O4 rG3 p e ha hc hk s m _ below hf ((Spec.applies_iff_loose hf).mp happ).1 ⟨rfl, State.Warmed39.refl s, rfl, CHs, all0⟩ (fun _ => ⟨MethodsKnown_of_tablesKnown hcalls.2.1, FramesKnown_of_framesKnown hcalls.1 hf⟩)
  refine ⟨n, _, h1, h2, h3, hpost _ _ _ _ _ _ ⟨Cond.after_iff.mpr rfl, Cond.after_iff.mpr (eq_i res_at (Term.int_eval (1)) rfl), trivial⟩ ⟨hq.1, hq.2.1, hq.2.2.1, (hq.2.2.2.sift fun y hy => Or.inr (N y hy)).mono (by decide) (by decide)⟩⟩
theorem main_1_1 : Claimed_1_1 := comes_1 fun _ _ _ _ _ _ h hF => ⟨h.1, hF⟩
theorem main_1_2 : Claimed_1_2 := comes_1 fun _ _ _ _ _ _ h hF => ⟨h.2.1, hF⟩
end Jvm.Pilot.@@N@@
namespace Jvm.Pilot.@@N@@
open Jvm Jvm.ClassFile Sem Op Lib Jvm.Free Jvm.Stand Jvm.Pilot.@@N@@.Jvm.D
/-! MADE BY PROGRAM (witnessworld.py) out of the Statement's table words and the real class files: 44 classes; the members and pool entries that the words name. The judged class is class 1, her method 1. -/
namespace start1
set_option maxRecDepth 65536
open Jvm.ClassFile
def u (s : String) : CpInfo := .utf8 (stringToUtf16 s)
def gap : Nat → List CpInfo → List CpInfo
  | 0, r => r
  | n + 1, r => .unusable :: gap n r
def poolList (es : List (Nat × CpInfo)) (last : Nat) : List CpInfo := es.foldr (fun e r => gap e.1 (e.2 :: r)) (gap last [])
def pool (es : List (Nat × CpInfo)) (last : Nat) : Array CpInfo := ⟨poolList es last⟩
def fileOf (pool : Array CpInfo) (this : Nat) (attrs : Array Attribute := #[]) (ms : Array MethodInfo := #[]) (fl : Nat := 33) (sup : Nat := 0) (ifs : Array Nat := #[]) (fds : Array FieldInfo := #[]) : ClassFile where
  minorVersion := 0
  majorVersion := 65
  constantPool := pool
  accessFlags := fl
  thisClass := this
  superClass := sup
  interfaces := ifs
  fields := fds
  methods := ms
  attributes := attrs
def plain (name : String) (sup : Option ClassId) : Class where
  name := name
  kind := .ordinary
  loader := none
  accessFlags := 33
  super := sup
  interfaces := #[]
  cf := none
  fields := #[]
  methods := #[]
  instanceTypes := #[]
  staticTypes := #[]
  resolved := #[]
  callSites := []
  init := .initialized
  statics := none
  mirror := none

def pool0 : Array CpInfo := pool [(5, u "<init>"), (0, u "()V"), (1, .class_ 10), (1, u "java/lang/Object")] 113

def k0c0 : Code := { maxStack := 0, maxLocals := 1, code := object_method_1_code, exceptionTable := #[], attributes := #[] }
def k0m0 : Method := ⟨"<init>", "()V", ⟨[], none⟩, 1, some k0c0⟩
def k0 : Class := { plain "java/lang/Object" none with
  accessFlags := 33
  interfaces := #[]
  cf := some (fileOf pool0 8 #[] #[⟨1, 5, 6, #[]⟩] 33 0 #[] #[])
  fields := #[]
  methods := #[k0m0]
  instanceTypes := #[]
  staticTypes := #[]
  resolved := Array.replicate 124 none
  statics := none }

def pool1 : Array CpInfo := pool [(2, .class_ 4), (1, u "java/lang/Object"), (0, u "<init>"), (0, u "()V"), (0, .class_ 8), (0, u "java/lang/String"), (0, .methodref 7 10), (0, .nameAndType 5 11), (0, u "([C)V"), (0, .methodref 7 13), (0, .nameAndType 14 15), (0, u "valueOf"), (0, u "(C)Ljava/lang/String;"), (0, .methodref 17 18), (0, .class_ 19), (0, .nameAndType 20 21), (0, u "com/example/webhooks_to_ledger/webhookstoledger/UnbookableException"), (0, u "unmappedType"), (0, u "(Ljava/lang/String;)Lcom/example/webhooks_to_ledger/webhookstoledger/UnbookableException;"), (0, .methodref 17 23), (0, .nameAndType 24 25), (0, u "reason"), (0, u "()Lcom/example/webhooks_to_ledger/webhookstoledger/HoldReason;"), (0, .fieldref 27 28), (0, .class_ 29), (0, .nameAndType 30 31), (0, u "com/example/webhooks_to_ledger/webhookstoledger/HoldReason"), (0, u "UNMAPPED_TYPE"), (0, u "Lcom/example/webhooks_to_ledger/webhookstoledger/HoldReason;"), (0, .methodref 17 33), (0, .nameAndType 34 35), (0, u "getCause"), (0, u "()Ljava/lang/Throwable;"), (0, .methodref 17 37), (0, .nameAndType 38 39), (0, u "getMessage"), (0, u "()Ljava/lang/String;"), (0, .methodref 7 41), (0, .nameAndType 42 43), (0, u "length"), (0, u "()I"), (0, .methodref 45 46), (0, .class_ 47), (0, .nameAndType 48 49), (0, u "com/example/webhooks_to_ledger/webhookstoledger/UnbookableExceptionUnmappedTypePinLaw"), (0, u "prefixOk"), (0, u "(Ljava/lang/String;)Z"), (0, .methodref 7 51), (0, .nameAndType 52 53), (0, u "charAt"), (0, u "(I)C"), (0, .methodref 45 55), (0, .nameAndType 56 57), (0, u "suffixOk"), (0, u "(Ljava/lang/String;I)Z"), (2, u "law"), (0, u "(IIII)Z")] 3

def k1m0 : Method := ⟨"<init>", "()V", ⟨[], none⟩, 1, none⟩
def k1c1 : Code := { maxStack := 6, maxLocals := 11, code := code, exceptionTable := #[], attributes := #[] }
def k1m1 : Method := ⟨"law", "(IIII)Z", ⟨[.int, .int, .int, .int], some .boolean⟩, 9, some k1c1⟩
def k1c2 : Code := { maxStack := 2, maxLocals := 1, code := method_3_code, exceptionTable := #[], attributes := #[] }
def k1m2 : Method := ⟨"prefixOk", "(Ljava/lang/String;)Z", ⟨[(.object "java/lang/String")], some .boolean⟩, 10, some k1c2⟩
def k1c3 : Code := { maxStack := 3, maxLocals := 2, code := method_4_code, exceptionTable := #[], attributes := #[] }
def k1m3 : Method := ⟨"suffixOk", "(Ljava/lang/String;I)Z", ⟨[(.object "java/lang/String"), .int], some .boolean⟩, 10, some k1c3⟩
def k1 : Class := { plain "com/example/webhooks_to_ledger/webhookstoledger/UnbookableExceptionUnmappedTypePinLaw" (some 0) with
  accessFlags := 49
  interfaces := #[]
  cf := some (fileOf pool1 45 #[] #[⟨1, 5, 6, #[]⟩, ⟨9, 60, 61, #[]⟩, ⟨10, 48, 49, #[]⟩, ⟨10, 56, 57, #[]⟩] 49 2 #[] #[])
  fields := #[]
  methods := #[k1m0, k1m1, k1m2, k1m3]
  instanceTypes := #[]
  staticTypes := #[]
  resolved := Array.replicate 65 none
  statics := none }

def pool2 : Array CpInfo := pool [(1, .class_ 2), (0, u "java/io/Serializable"), (0, .class_ 4), (0, u "java/lang/Object")] 2

def k2 : Class := { plain "java/io/Serializable" (some 0) with
  accessFlags := 1537
  interfaces := #[]
  cf := some (fileOf pool2 1 #[] #[] 1537 3 #[] #[])
  fields := #[]
  methods := #[]
  instanceTypes := #[]
  staticTypes := #[]
  resolved := Array.replicate 7 none
  statics := none }

def pool3 : Array CpInfo := pool [(1, .class_ 2), (0, u "java/lang/Comparable"), (0, .class_ 4), (0, u "java/lang/Object")] 7

def k3 : Class := { plain "java/lang/Comparable" (some 0) with
  accessFlags := 1537
  interfaces := #[]
  cf := some (fileOf pool3 1 #[] #[] 1537 3 #[] #[])
  fields := #[]
  methods := #[]
  instanceTypes := #[]
  staticTypes := #[]
  resolved := Array.replicate 12 none
  statics := none }

def pool4 : Array CpInfo := pool [(2, .class_ 4), (1, u "java/lang/CharSequence"), (42, .class_ 48), (0, u "java/lang/CharSequence$1CodePointIterator"), (10, .class_ 60), (0, u "java/lang/CharSequence$1CharIterator"), (5, .class_ 67), (0, u "java/lang/Object")] 63

def k4 : Class := { plain "java/lang/CharSequence" (some 0) with
  accessFlags := 1537
  interfaces := #[]
  cf := some (fileOf pool4 2 #[.nestMembers #[47, 59]] #[] 1537 66 #[] #[])
  fields := #[]
  methods := #[]
  instanceTypes := #[]
  staticTypes := #[]
  resolved := Array.replicate 131 none
  statics := none }

def pool5 : Array CpInfo := pool [(1, .class_ 2), (0, u "java/lang/constant/Constable"), (0, .class_ 4), (0, u "java/lang/Object")] 6

def k5 : Class := { plain "java/lang/constant/Constable" (some 0) with
  accessFlags := 1537
  interfaces := #[]
  cf := some (fileOf pool5 1 #[] #[] 1537 3 #[] #[])
  fields := #[]
  methods := #[]
  instanceTypes := #[]
  staticTypes := #[]
  resolved := Array.replicate 11 none
  statics := none }

def pool6 : Array CpInfo := pool [(1, .class_ 2), (0, u "java/lang/constant/ConstantDesc"), (0, .class_ 4), (0, u "java/lang/Object")] 32

def k6 : Class := { plain "java/lang/constant/ConstantDesc" (some 0) with
  accessFlags := 1537
  interfaces := #[]
  cf := some (fileOf pool6 1 #[] #[] 1537 3 #[] #[])
  fields := #[]
  methods := #[]
  instanceTypes := #[]
  staticTypes := #[]
  resolved := Array.replicate 37 none
  statics := none }

def pool7 : Array CpInfo := pool [(1, .methodref 2 3), (0, .class_ 4), (0, .nameAndType 5 6), (0, u "java/lang/Object"), (0, u "<init>"), (0, u "()V"), (0, .string 8), (0, u ""), (0, .fieldref 10 11), (0, .class_ 12), (0, .nameAndType 13 14), (0, u "java/lang/String"), (0, u "value"), (0, u "[B"), (0, .fieldref 10 16), (0, .nameAndType 17 18), (0, u "coder"), (0, u "B"), (2, u "hash"), (0, u "I"), (2, u "hashIsZero"), (0, u "Z"), (0, .methodref 10 28), (0, .nameAndType 5 29), (0, u "([CIILjava/lang/Void;)V"), (8, .fieldref 10 39), (0, .nameAndType 40 26), (0, u "COMPACT_STRINGS"), (1, .class_ 44), (1, u "java/lang/StringUTF16"), (0, u "compress"), (1, .methodref 42 48), (0, .nameAndType 49 50), (0, u "coderFromArrayLen"), (0, u "([BI)B"), (2, u "toBytes"), (0, .methodref 55 56), (0, .class_ 57), (0, .nameAndType 58 59), (0, u "java/util/Arrays"), (0, u "copyOfRange"), (0, u "([BII)[B"), (47, .class_ 109), (1, u "java/lang/StringLatin1"), (32, u "()Z"), (34, .methodref 42 178), (0, .nameAndType 45 179), (0, u "([CII)[B"), (13, .class_ 195), (1, u "java/lang/System"), (13, .methodref 10 210), (0, .nameAndType 5 211), (0, u "([BB)V"), (0, .methodref 193 213), (0, .nameAndType 214 215), (0, u "arraycopy"), (0, u "(Ljava/lang/Object;ILjava/lang/Object;II)V"), (118, u "()I"), (0, .methodref 10 336), (0, .nameAndType 17 337), (0, u "()B"), (2, u "()[B"), (22, u "([BI)C"), (5, u "(C)Z"), (21, u "(II)V"), (35, u "(I)C"), (61, .methodref 10 490), (0, .nameAndType 5 491), (0, u "(Ljava/lang/AbstractStringBuilder;Ljava/lang/Void;)V"), (0, .methodref 10 493), (0, .nameAndType 494 142), (0, u "isLatin1"), (0, .methodref 107 496), (0, .nameAndType 497 363), (0, u "charAt"), (3, u "checkIndex"), (4, .nameAndType 507 334), (0, u "length"), (24, u "getBytes"), (16, .methodref 550 506), (0, .class_ 551), (0, u "java/lang/AbstractStringBuilder"), (0, .methodref 550 553), (0, .nameAndType 554 340), (0, u "getValue"), (20, .class_ 576), (0, u "java/lang/CharSequence"), (22, u "CASE_INSENSITIVE_ORDER"), (0, u "Ljava/util/Comparator;"), (181, u "valueOf"), (0, u "(C)Ljava/lang/String;"), (37, u "([BIB)V"), (188, u "([C)V"), (4, .methodref 107 1016), (0, .nameAndType 1017 369), (0, u "canEncode"), (0, .methodref 107 1019), (0, .nameAndType 53 1020), (0, u "(C)[B"), (26, .methodref 550 493), (5, .fieldref 1054 1055), (0, .class_ 1056), (0, .nameAndType 1057 1058), (0, u "jdk/internal/util/Preconditions"), (0, u "SIOOBE_FORMATTER"), (0, u "Ljava/util/function/BiFunction;"), (0, .methodref 1054 1060), (0, .nameAndType 501 1061), (0, u "(IILjava/util/function/BiFunction;)I"), (39, u "serialPersistentFields"), (0, u "[Ljava/io/ObjectStreamField;"), (0, .class_ 1104), (0, u "java/lang/String$CaseInsensitiveComparator"), (1, .class_ 1107), (0, u "java/io/Serializable"), (0, .class_ 1109), (0, u "java/lang/Comparable"), (0, .class_ 1111), (0, u "java/lang/constant/Constable"), (0, .class_ 1113), (0, u "java/lang/constant/ConstantDesc"), (2, u "serialVersionUID"), (0, u "J"), (3, u "REPL"), (0, u "C"), (2, u "LATIN1"), (1, u "UTF16"), (105, u "(Ljava/lang/StringBuilder;)V")] 217

def k7m0 : Method := ⟨"<init>", "()V", ⟨[], none⟩, 1, none⟩
def k7c1 : Code := { maxStack := 5, maxLocals := 2, code := jdk_42_method_3_code, exceptionTable := #[], attributes := #[] }
def k7m1 : Method := ⟨"<init>", "([C)V", ⟨[(.array .char)], none⟩, 1, some k7c1⟩
def k7c2 : Code := { maxStack := 3, maxLocals := 2, code := jdk_42_method_53_code, exceptionTable := #[], attributes := #[] }
def k7m2 : Method := ⟨"<init>", "(Ljava/lang/StringBuilder;)V", ⟨[(.object "java/lang/StringBuilder")], none⟩, 1, some k7c2⟩
def k7c3 : Code := { maxStack := 2, maxLocals := 1, code := jdk_42_method_54_code, exceptionTable := #[], attributes := #[] }
def k7m3 : Method := ⟨"length", "()I", ⟨[], some .int⟩, 1, some k7c3⟩
def k7c4 : Code := { maxStack := 2, maxLocals := 2, code := jdk_42_method_56_code, exceptionTable := #[], attributes := #[] }
def k7m4 : Method := ⟨"charAt", "(I)C", ⟨[.int], some .char⟩, 1, some k7c4⟩
def k7c5 : Code := { maxStack := 4, maxLocals := 1, code := jdk_42_method_139_code, exceptionTable := #[], attributes := #[] }
def k7m5 : Method := ⟨"valueOf", "(C)Ljava/lang/String;", ⟨[.char], some (.object "java/lang/String")⟩, 9, some k7c5⟩
def k7c6 : Code := { maxStack := 5, maxLocals := 4, code := jdk_42_method_147_code, exceptionTable := #[], attributes := #[] }
def k7m6 : Method := ⟨"getBytes", "([BIB)V", ⟨[(.array .byte), .int, .byte], none⟩, 0, some k7c6⟩
def k7c7 : Code := { maxStack := 4, maxLocals := 6, code := jdk_42_method_149_code, exceptionTable := #[], attributes := #[] }
def k7m7 : Method := ⟨"<init>", "([CIILjava/lang/Void;)V", ⟨[(.array .char), .int, .int, (.object "java/lang/Void")], none⟩, 2, some k7c7⟩
def k7c8 : Code := { maxStack := 5, maxLocals := 5, code := jdk_42_method_150_code, exceptionTable := #[], attributes := #[] }
def k7m8 : Method := ⟨"<init>", "(Ljava/lang/AbstractStringBuilder;Ljava/lang/Void;)V", ⟨[(.object "java/lang/AbstractStringBuilder"), (.object "java/lang/Void")], none⟩, 0, some k7c8⟩
def k7c9 : Code := { maxStack := 2, maxLocals := 3, code := jdk_42_method_151_code, exceptionTable := #[], attributes := #[] }
def k7m9 : Method := ⟨"<init>", "([BB)V", ⟨[(.array .byte), .byte], none⟩, 0, some k7c9⟩
def k7c10 : Code := { maxStack := 1, maxLocals := 1, code := jdk_42_method_152_code, exceptionTable := #[], attributes := #[] }
def k7m10 : Method := ⟨"coder", "()B", ⟨[], some .byte⟩, 0, some k7c10⟩
def k7c11 : Code := { maxStack := 1, maxLocals := 1, code := jdk_42_method_154_code, exceptionTable := #[], attributes := #[] }
def k7m11 : Method := ⟨"isLatin1", "()Z", ⟨[], some .boolean⟩, 0, some k7c11⟩
def k7c12 : Code := { maxStack := 3, maxLocals := 2, code := jdk_42_method_155_code, exceptionTable := #[], attributes := #[] }
def k7m12 : Method := ⟨"checkIndex", "(II)V", ⟨[.int, .int], none⟩, 8, some k7c12⟩
def k7 : Class := { plain "java/lang/String" (some 0) with
  accessFlags := 49
  interfaces := #[2, 3, 4, 5, 6]
  cf := some (fileOf pool7 10 #[.nestMembers #[1103]] #[⟨1, 5, 6, #[]⟩, ⟨1, 5, 1010, #[]⟩, ⟨1, 5, 1233, #[]⟩, ⟨1, 507, 334, #[]⟩, ⟨1, 497, 427, #[]⟩, ⟨9, 782, 783, #[]⟩, ⟨0, 532, 821, #[]⟩, ⟨2, 5, 29, #[]⟩, ⟨0, 5, 491, #[]⟩, ⟨0, 5, 211, #[]⟩, ⟨0, 17, 337, #[]⟩, ⟨0, 494, 142, #[]⟩, ⟨8, 501, 391, #[]⟩] 49 2 #[1106, 1108, 575, 1110, 1112] #[⟨18, 13, 14, #[]⟩, ⟨18, 17, 18, #[]⟩, ⟨2, 21, 22, #[]⟩, ⟨2, 25, 26, #[]⟩, ⟨26, 1116, 1117, #[]⟩, ⟨24, 40, 26, #[]⟩, ⟨26, 1101, 1102, #[]⟩, ⟨26, 1121, 1122, #[]⟩, ⟨25, 599, 600, #[]⟩, ⟨24, 1125, 18, #[]⟩, ⟨24, 1127, 18, #[]⟩])
  fields := #[⟨"value", (.array .byte), 18, 0, 0⟩, ⟨"coder", .byte, 18, 1, 0⟩, ⟨"hash", .int, 2, 2, 0⟩, ⟨"hashIsZero", .boolean, 2, 3, 0⟩, ⟨"serialVersionUID", .long, 26, 0, 0⟩, ⟨"COMPACT_STRINGS", .boolean, 24, 1, 0⟩, ⟨"serialPersistentFields", (.array (.object "java/io/ObjectStreamField")), 26, 2, 0⟩, ⟨"REPL", .char, 26, 3, 0⟩, ⟨"CASE_INSENSITIVE_ORDER", (.object "java/util/Comparator"), 25, 4, 0⟩, ⟨"LATIN1", .byte, 24, 5, 0⟩, ⟨"UTF16", .byte, 24, 6, 0⟩]
  methods := #[k7m0, k7m1, k7m2, k7m3, k7m4, k7m5, k7m6, k7m7, k7m8, k7m9, k7m10, k7m11, k7m12]
  instanceTypes := #[(.array .byte), .byte, .int, .boolean]
  staticTypes := #[.long, .boolean, (.array (.object "java/io/ObjectStreamField")), .char, (.object "java/util/Comparator"), .byte, .byte]
  resolved := Array.replicate 1451 none
  statics := some 0 }

def pool8 : Array CpInfo := pool [(1, .methodref 2 3), (0, .class_ 4), (0, .nameAndType 5 6), (0, u "java/lang/Object"), (0, u "<init>"), (0, u "()V"), (0, .fieldref 8 9), (0, .class_ 10), (0, .nameAndType 11 12), (0, u "java/lang/Throwable"), (0, u "cause"), (0, u "Ljava/lang/Throwable;"), (0, .fieldref 8 14), (0, .nameAndType 15 16), (0, u "UNASSIGNED_STACK"), (0, u "[Ljava/lang/StackTraceElement;"), (0, .fieldref 8 18), (0, .nameAndType 19 16), (0, u "stackTrace"), (0, .fieldref 8 21), (0, .nameAndType 22 23), (0, u "SUPPRESSED_SENTINEL"), (0, u "Ljava/util/List;"), (0, .fieldref 8 25), (0, .nameAndType 26 23), (0, u "suppressedExceptions"), (0, .methodref 8 28), (0, .nameAndType 29 30), (0, u "fillInStackTrace"), (0, u "()Ljava/lang/Throwable;"), (0, .fieldref 8 32), (0, .nameAndType 33 34), (0, u "detailMessage"), (0, u "Ljava/lang/String;"), (3, u "()Ljava/lang/String;"), (2, u "getMessage"), (51, .class_ 94), (0, u "java/lang/Throwable$WrappedPrintStream"), (6, .class_ 103), (1, u "java/lang/Throwable$PrintStreamOrWriter"), (54, u "getCause"), (6, u "$assertionsDisabled"), (0, u "Z"), (26, .class_ 194), (0, u "java/lang/Throwable$WrappedPrintWriter"), (3, .fieldref 8 199), (0, .nameAndType 200 201), (0, u "backtrace"), (0, u "Ljava/lang/Object;"), (0, .methodref 8 203), (0, .nameAndType 29 204), (0, u "(I)Ljava/lang/Throwable;"), (6, u "depth"), (0, u "I"), (10, u "(Ljava/lang/String;)V"), (45, .class_ 271), (1, u "java/lang/Throwable$SentinelHolder"), (32, u "EMPTY_THROWABLE_ARRAY"), (0, u "[Ljava/lang/Throwable;"), (12, .class_ 319), (0, u "java/io/Serializable"), (0, u "serialVersionUID"), (0, u "J"), (5, u "NULL_CAUSE_MESSAGE"), (0, u "SELF_SUPPRESSION_MESSAGE"), (0, u "CAUSE_CAPTION"), (0, u "SUPPRESSED_CAPTION")] 73

def k8c0 : Code := { maxStack := 2, maxLocals := 1, code := jdk_78_method_1_code, exceptionTable := #[], attributes := #[] }
def k8m0 : Method := ⟨"<init>", "()V", ⟨[], none⟩, 1, some k8c0⟩
def k8c1 : Code := { maxStack := 2, maxLocals := 2, code := jdk_78_method_2_code, exceptionTable := #[], attributes := #[] }
def k8m1 : Method := ⟨"<init>", "(Ljava/lang/String;)V", ⟨[(.object "java/lang/String")], none⟩, 1, some k8c1⟩
def k8c2 : Code := { maxStack := 1, maxLocals := 1, code := jdk_78_method_6_code, exceptionTable := #[], attributes := #[] }
def k8m2 : Method := ⟨"getMessage", "()Ljava/lang/String;", ⟨[], some (.object "java/lang/String")⟩, 1, some k8c2⟩
def k8c3 : Code := { maxStack := 2, maxLocals := 1, code := ⟨#[0x2a, 0xb4, 0x00, 0x07, 0x2a, 0xa6, 0x00, 0x07, 0x01, 0xa7, 0x00, 0x07, 0x2a, 0xb4, 0x00, 0x07, 0xb0]⟩, exceptionTable := #[], attributes := #[] }
def k8m3 : Method := ⟨"getCause", "()Ljava/lang/Throwable;", ⟨[], some (.object "java/lang/Throwable")⟩, 33, some k8c3⟩
def k8c4 : Code := { maxStack := 2, maxLocals := 1, code := ⟨#[0x2a, 0xb4, 0x00, 0x11, 0xc7, 0x00, 0x0a, 0x2a, 0xb4, 0x00, 0xc6, 0xc6, 0x00, 0x10, 0x2a, 0x03, 0xb6, 0x00, 0xca, 0x57, 0x2a, 0xb2, 0x00, 0x0d, 0xb5, 0x00, 0x11, 0x2a, 0xb0]⟩, exceptionTable := #[], attributes := #[] }
def k8m4 : Method := ⟨"fillInStackTrace", "()Ljava/lang/Throwable;", ⟨[], some (.object "java/lang/Throwable")⟩, 33, some k8c4⟩
def k8m5 : Method := ⟨"fillInStackTrace", "(I)Ljava/lang/Throwable;", ⟨[.int], some (.object "java/lang/Throwable")⟩, 258, none⟩
def k8 : Class := { plain "java/lang/Throwable" (some 0) with
  accessFlags := 33
  interfaces := #[2]
  cf := some (fileOf pool8 8 #[.nestMembers #[193, 93, 101, 269]] #[⟨1, 5, 6, #[]⟩, ⟨1, 5, 223, #[]⟩, ⟨1, 41, 38, #[]⟩, ⟨33, 158, 30, #[]⟩, ⟨33, 29, 30, #[]⟩, ⟨258, 29, 204, #[]⟩] 33 2 #[318] #[⟨26, 320, 321, #[]⟩, ⟨130, 200, 201, #[]⟩, ⟨2, 33, 34, #[]⟩, ⟨26, 15, 16, #[]⟩, ⟨2, 11, 12, #[]⟩, ⟨2, 19, 16, #[]⟩, ⟨130, 211, 212, #[]⟩, ⟨26, 22, 23, #[]⟩, ⟨2, 26, 23, #[]⟩, ⟨26, 327, 34, #[]⟩, ⟨26, 328, 34, #[]⟩, ⟨26, 329, 34, #[]⟩, ⟨26, 330, 34, #[]⟩, ⟨26, 304, 305, #[]⟩, ⟨4120, 165, 166, #[]⟩])
  fields := #[⟨"serialVersionUID", .long, 26, 0, 0⟩, ⟨"backtrace", (.object "java/lang/Object"), 130, 0, 0⟩, ⟨"detailMessage", (.object "java/lang/String"), 2, 1, 0⟩, ⟨"UNASSIGNED_STACK", (.array (.object "java/lang/StackTraceElement")), 26, 1, 0⟩, ⟨"cause", (.object "java/lang/Throwable"), 2, 2, 0⟩, ⟨"stackTrace", (.array (.object "java/lang/StackTraceElement")), 2, 3, 0⟩, ⟨"depth", .int, 130, 4, 0⟩, ⟨"SUPPRESSED_SENTINEL", (.object "java/util/List"), 26, 2, 0⟩, ⟨"suppressedExceptions", (.object "java/util/List"), 2, 5, 0⟩, ⟨"NULL_CAUSE_MESSAGE", (.object "java/lang/String"), 26, 3, 0⟩, ⟨"SELF_SUPPRESSION_MESSAGE", (.object "java/lang/String"), 26, 4, 0⟩, ⟨"CAUSE_CAPTION", (.object "java/lang/String"), 26, 5, 0⟩, ⟨"SUPPRESSED_CAPTION", (.object "java/lang/String"), 26, 6, 0⟩, ⟨"EMPTY_THROWABLE_ARRAY", (.array (.object "java/lang/Throwable")), 26, 7, 0⟩, ⟨"$assertionsDisabled", .boolean, 4120, 8, 0⟩]
  methods := #[k8m0, k8m1, k8m2, k8m3, k8m4, k8m5]
  instanceTypes := #[(.object "java/lang/Object"), (.object "java/lang/String"), (.object "java/lang/Throwable"), (.array (.object "java/lang/StackTraceElement")), .int, (.object "java/util/List")]
  staticTypes := #[.long, (.array (.object "java/lang/StackTraceElement")), (.object "java/util/List"), (.object "java/lang/String"), (.object "java/lang/String"), (.object "java/lang/String"), (.object "java/lang/String"), (.array (.object "java/lang/Throwable")), .boolean]
  resolved := Array.replicate 404 none
  statics := some 1 }

def pool9 : Array CpInfo := pool [(2, .class_ 4), (1, u "java/lang/Throwable"), (0, u "<init>"), (0, u "()V"), (0, .methodref 2 8), (0, .nameAndType 5 9), (0, u "(Ljava/lang/String;)V"), (9, .class_ 20), (0, u "java/lang/Exception"), (0, u "serialVersionUID"), (0, u "J")] 17

def k9m0 : Method := ⟨"<init>", "()V", ⟨[], none⟩, 1, none⟩
def k9c1 : Code := { maxStack := 2, maxLocals := 2, code := jdk_59_method_2_code, exceptionTable := #[], attributes := #[] }
def k9m1 : Method := ⟨"<init>", "(Ljava/lang/String;)V", ⟨[(.object "java/lang/String")], none⟩, 1, some k9c1⟩
def k9 : Class := { plain "java/lang/Exception" (some 8) with
  accessFlags := 33
  interfaces := #[]
  cf := some (fileOf pool9 19 #[] #[⟨1, 5, 6, #[]⟩, ⟨1, 5, 9, #[]⟩] 33 2 #[] #[⟨24, 21, 22, #[]⟩])
  fields := #[⟨"serialVersionUID", .long, 24, 0, 0⟩]
  methods := #[k9m0, k9m1]
  instanceTypes := #[(.object "java/lang/Object"), (.object "java/lang/String"), (.object "java/lang/Throwable"), (.array (.object "java/lang/StackTraceElement")), .int, (.object "java/util/List")]
  staticTypes := #[.long]
  resolved := Array.replicate 40 none
  statics := none }

def pool10 : Array CpInfo := pool [(1, .methodref 2 3), (0, .class_ 4), (0, .nameAndType 5 6), (0, u "java/lang/Exception"), (0, u "<init>"), (0, u "(Ljava/lang/String;)V"), (0, .string 8), (0, u "reason"), (0, .methodref 10 11), (0, .class_ 12), (0, .nameAndType 13 14), (0, u "java/util/Objects"), (0, u "requireNonNull"), (0, u "(Ljava/lang/Object;Ljava/lang/String;)Ljava/lang/Object;"), (0, .class_ 16), (0, u "com/example/webhooks_to_ledger/webhookstoledger/HoldReason"), (0, .fieldref 18 19), (0, .class_ 20), (0, .nameAndType 8 21), (0, u "com/example/webhooks_to_ledger/webhookstoledger/UnbookableException"), (0, u "Lcom/example/webhooks_to_ledger/webhookstoledger/HoldReason;"), (3, .fieldref 15 26), (0, .nameAndType 27 21), (0, u "UNMAPPED_TYPE"), (0, .class_ 29), (0, u "java/lang/StringBuilder"), (0, .methodref 28 31), (0, .nameAndType 5 32), (0, u "()V"), (0, .string 34), (0, u "event type \""), (0, .methodref 28 36), (0, .nameAndType 37 38), (0, u "append"), (0, u "(Ljava/lang/String;)Ljava/lang/StringBuilder;"), (0, .string 40), (0, u "\" is not mapped"), (0, .methodref 28 42), (0, .nameAndType 43 44), (0, u "toString"), (0, u "()Ljava/lang/String;"), (0, .methodref 18 46), (0, .nameAndType 5 47), (0, u "(Lcom/example/webhooks_to_ledger/webhookstoledger/HoldReason;Ljava/lang/String;)V"), (0, u "serialVersionUID"), (0, u "J"), (6, u "unmappedType"), (0, u "(Ljava/lang/String;)Lcom/example/webhooks_to_ledger/webhookstoledger/UnbookableException;"), (0, u "()Lcom/example/webhooks_to_ledger/webhookstoledger/HoldReason;")] 2

def k10c0 : Code := { maxStack := 3, maxLocals := 3, code := prog_14_method_1_code, exceptionTable := #[], attributes := #[] }
def k10m0 : Method := ⟨"<init>", "(Lcom/example/webhooks_to_ledger/webhookstoledger/HoldReason;Ljava/lang/String;)V", ⟨[(.object "com/example/webhooks_to_ledger/webhookstoledger/HoldReason"), (.object "java/lang/String")], none⟩, 0, some k10c0⟩
def k10c1 : Code := { maxStack := 5, maxLocals := 1, code := prog_14_method_3_code, exceptionTable := #[], attributes := #[] }
def k10m1 : Method := ⟨"unmappedType", "(Ljava/lang/String;)Lcom/example/webhooks_to_ledger/webhookstoledger/UnbookableException;", ⟨[(.object "java/lang/String")], some (.object "com/example/webhooks_to_ledger/webhookstoledger/UnbookableException")⟩, 8, some k10c1⟩
def k10c2 : Code := { maxStack := 1, maxLocals := 1, code := prog_14_method_4_code, exceptionTable := #[], attributes := #[] }
def k10m2 : Method := ⟨"reason", "()Lcom/example/webhooks_to_ledger/webhookstoledger/HoldReason;", ⟨[], some (.object "com/example/webhooks_to_ledger/webhookstoledger/HoldReason")⟩, 0, some k10c2⟩
def k10 : Class := { plain "com/example/webhooks_to_ledger/webhookstoledger/UnbookableException" (some 9) with
  accessFlags := 32
  interfaces := #[]
  cf := some (fileOf pool10 18 #[] #[⟨0, 5, 47, #[]⟩, ⟨8, 56, 57, #[]⟩, ⟨0, 8, 58, #[]⟩] 32 2 #[] #[⟨26, 48, 49, #[]⟩, ⟨18, 8, 21, #[]⟩])
  fields := #[⟨"serialVersionUID", .long, 26, 0, 0⟩, ⟨"reason", (.object "com/example/webhooks_to_ledger/webhookstoledger/HoldReason"), 18, 6, 0⟩]
  methods := #[k10m0, k10m1, k10m2]
  instanceTypes := #[(.object "java/lang/Object"), (.object "java/lang/String"), (.object "java/lang/Throwable"), (.array (.object "java/lang/StackTraceElement")), .int, (.object "java/util/List"), (.object "com/example/webhooks_to_ledger/webhookstoledger/HoldReason")]
  staticTypes := #[.long]
  resolved := Array.replicate 61 none
  statics := none }

def pool11 : Array CpInfo := pool [(2, .class_ 4), (1, u "java/lang/Enum"), (0, u "name"), (0, u "Ljava/lang/String;"), (2, u "ordinal"), (0, u "I"), (1, .class_ 14), (1, u "java/lang/Object"), (4, u "hash"), (86, .class_ 108), (1, u "java/lang/Enum$EnumDesc"), (2, .class_ 112), (0, u "java/lang/constant/Constable"), (0, .class_ 114), (0, u "java/lang/Comparable"), (0, .class_ 116), (0, u "java/io/Serializable")] 87

def k11 : Class := { plain "java/lang/Enum" (some 0) with
  accessFlags := 1057
  interfaces := #[5, 3, 2]
  cf := some (fileOf pool11 2 #[.nestMembers #[106]] #[] 1057 12 #[111, 113, 115] #[⟨18, 5, 6, #[]⟩, ⟨18, 9, 10, #[]⟩, ⟨2, 19, 10, #[]⟩])
  fields := #[⟨"name", (.object "java/lang/String"), 18, 0, 0⟩, ⟨"ordinal", .int, 18, 1, 0⟩, ⟨"hash", .int, 2, 2, 0⟩]
  methods := #[]
  instanceTypes := #[(.object "java/lang/String"), .int, .int]
  staticTypes := #[]
  resolved := Array.replicate 204 none
  statics := none }

def pool12 : Array CpInfo := pool [(1, .class_ 2), (0, u "com/example/webhooks_to_ledger/webhookstoledger/HoldReason"), (2, u "UNMAPPED_TYPE"), (0, u "Lcom/example/webhooks_to_ledger/webhookstoledger/HoldReason;"), (2, u "NO_AMOUNT"), (2, u "LOOKUP_FAILED"), (2, u "LOOKUP_MISMATCH"), (2, u "MISSING_FIELD"), (2, u "BAD_AMOUNT"), (2, u "UNKNOWN_CURRENCY"), (2, u "$VALUES"), (0, u "[Lcom/example/webhooks_to_ledger/webhookstoledger/HoldReason;"), (6, .class_ 37), (1, u "java/lang/Enum")] 76

def k12 : Class := { plain "com/example/webhooks_to_ledger/webhookstoledger/HoldReason" (some 11) with
  accessFlags := 16432
  interfaces := #[]
  cf := some (fileOf pool12 1 #[] #[] 16432 35 #[] #[⟨16409, 5, 6, #[]⟩, ⟨16409, 9, 6, #[]⟩, ⟨16409, 12, 6, #[]⟩, ⟨16409, 15, 6, #[]⟩, ⟨16409, 18, 6, #[]⟩, ⟨16409, 21, 6, #[]⟩, ⟨16409, 24, 6, #[]⟩, ⟨4122, 27, 28, #[]⟩])
  fields := #[⟨"UNMAPPED_TYPE", (.object "com/example/webhooks_to_ledger/webhookstoledger/HoldReason"), 16409, 0, 0⟩, ⟨"NO_AMOUNT", (.object "com/example/webhooks_to_ledger/webhookstoledger/HoldReason"), 16409, 1, 0⟩, ⟨"LOOKUP_FAILED", (.object "com/example/webhooks_to_ledger/webhookstoledger/HoldReason"), 16409, 2, 0⟩, ⟨"LOOKUP_MISMATCH", (.object "com/example/webhooks_to_ledger/webhookstoledger/HoldReason"), 16409, 3, 0⟩, ⟨"MISSING_FIELD", (.object "com/example/webhooks_to_ledger/webhookstoledger/HoldReason"), 16409, 4, 0⟩, ⟨"BAD_AMOUNT", (.object "com/example/webhooks_to_ledger/webhookstoledger/HoldReason"), 16409, 5, 0⟩, ⟨"UNKNOWN_CURRENCY", (.object "com/example/webhooks_to_ledger/webhookstoledger/HoldReason"), 16409, 6, 0⟩, ⟨"$VALUES", (.array (.object "com/example/webhooks_to_ledger/webhookstoledger/HoldReason")), 4122, 7, 0⟩]
  methods := #[]
  instanceTypes := #[(.object "java/lang/String"), .int, .int]
  staticTypes := #[(.object "com/example/webhooks_to_ledger/webhookstoledger/HoldReason"), (.object "com/example/webhooks_to_ledger/webhookstoledger/HoldReason"), (.object "com/example/webhooks_to_ledger/webhookstoledger/HoldReason"), (.object "com/example/webhooks_to_ledger/webhookstoledger/HoldReason"), (.object "com/example/webhooks_to_ledger/webhookstoledger/HoldReason"), (.object "com/example/webhooks_to_ledger/webhookstoledger/HoldReason"), (.object "com/example/webhooks_to_ledger/webhookstoledger/HoldReason"), (.array (.object "com/example/webhooks_to_ledger/webhookstoledger/HoldReason"))]
  resolved := Array.replicate 114 none
  statics := some 2 }

def pool13 : Array CpInfo := pool [(1, .class_ 2), (0, u "java/lang/Appendable"), (0, .class_ 4), (0, u "java/lang/Object")] 9

def k13 : Class := { plain "java/lang/Appendable" (some 0) with
  accessFlags := 1537
  interfaces := #[]
  cf := some (fileOf pool13 1 #[] #[] 1537 3 #[] #[])
  fields := #[]
  methods := #[]
  instanceTypes := #[]
  staticTypes := #[]
  resolved := Array.replicate 14 none
  statics := none }

def pool14 : Array CpInfo := pool [(1, .class_ 2), (0, u "java/lang/String"), (0, .methodref 4 5), (0, .class_ 6), (0, .nameAndType 7 8), (0, u "java/lang/Object"), (0, u "<init>"), (0, u "()V"), (1, .class_ 12), (1, u "java/lang/AbstractStringBuilder"), (0, u "EMPTYVALUE"), (0, u "[B"), (0, .fieldref 10 16), (0, .nameAndType 17 14), (0, u "value"), (0, .fieldref 1 19), (0, .nameAndType 20 21), (0, u "COMPACT_STRINGS"), (0, u "Z"), (0, .fieldref 10 23), (0, .nameAndType 24 25), (0, u "coder"), (0, u "B"), (6, .methodref 1 33), (0, .nameAndType 34 35), (0, u "length"), (0, u "()I"), (3, .integer 2147483647), (0, .methodref 1 41), (0, .nameAndType 24 42), (0, u "()B"), (2, u "append"), (0, u "(Ljava/lang/String;)Ljava/lang/AbstractStringBuilder;"), (1, .class_ 49), (0, u "java/lang/CharSequence"), (19, u "(Ljava/lang/String;)V"), (5, u "maybeLatin1"), (3, .fieldref 10 80), (0, .nameAndType 81 82), (0, u "count"), (0, u "I"), (2, u "isLatin1"), (0, u "()Z"), (13, .methodref 10 101), (0, .nameAndType 102 103), (0, u "ensureCapacityInternal"), (0, u "(I)V"), (0, .methodref 10 105), (0, .nameAndType 106 107), (0, u "newCapacity"), (0, u "(I)I"), (0, .methodref 109 110), (0, .class_ 111), (0, .nameAndType 112 113), (0, u "java/util/Arrays"), (0, u "copyOf"), (0, u "([BI)[B"), (0, .methodref 115 116), (0, .class_ 117), (0, .nameAndType 118 119), (0, u "jdk/internal/util/ArraysSupport"), (0, u "newLength"), (0, u "(III)I"), (88, .methodref 10 209), (0, .nameAndType 210 211), (0, u "putStringAt"), (0, u "(ILjava/lang/String;)V"), (5, u "inflateIfNeededFor"), (2, .nameAndType 221 222), (0, u "getBytes"), (0, u "([BIB)V"), (174, .methodref 10 398), (0, .nameAndType 217 69), (0, .methodref 1 220), (3, u "()[B"), (40, .class_ 445), (0, u "java/lang/Appendable"), (106, u "getValue")] 56

def k14m0 : Method := ⟨"<init>", "()V", ⟨[], none⟩, 0, none⟩
def k14c1 : Code := { maxStack := 2, maxLocals := 2, code := jdk_68_method_2_code, exceptionTable := #[], attributes := #[] }
def k14m1 : Method := ⟨"<init>", "(I)V", ⟨[.int], none⟩, 0, some k14c1⟩
def k14c2 : Code := { maxStack := 1, maxLocals := 1, code := jdk_68_method_6_code, exceptionTable := #[], attributes := #[] }
def k14m2 : Method := ⟨"length", "()I", ⟨[], some .int⟩, 1, some k14c2⟩
def k14c3 : Code := { maxStack := 4, maxLocals := 3, code := jdk_68_method_9_code, exceptionTable := #[], attributes := #[] }
def k14m3 : Method := ⟨"ensureCapacityInternal", "(I)V", ⟨[.int], none⟩, 2, some k14c3⟩
def k14c4 : Code := { maxStack := 5, maxLocals := 6, code := jdk_68_method_10_code, exceptionTable := #[], attributes := #[] }
def k14m4 : Method := ⟨"newCapacity", "(I)I", ⟨[.int], some .int⟩, 2, some k14c4⟩
def k14c5 : Code := { maxStack := 3, maxLocals := 3, code := jdk_68_method_22_code, exceptionTable := #[], attributes := #[] }
def k14m5 : Method := ⟨"append", "(Ljava/lang/String;)Ljava/lang/AbstractStringBuilder;", ⟨[(.object "java/lang/String")], some (.object "java/lang/AbstractStringBuilder")⟩, 1, some k14c5⟩
def k14c6 : Code := { maxStack := 1, maxLocals := 1, code := jdk_68_method_64_code, exceptionTable := #[], attributes := #[] }
def k14m6 : Method := ⟨"getValue", "()[B", ⟨[], some (.array .byte)⟩, 16, some k14c6⟩
def k14c7 : Code := { maxStack := 1, maxLocals := 1, code := jdk_68_method_68_code, exceptionTable := #[], attributes := #[] }
def k14m7 : Method := ⟨"isLatin1", "()Z", ⟨[], some .boolean⟩, 16, some k14c7⟩
def k14c8 : Code := { maxStack := 2, maxLocals := 2, code := jdk_68_method_71_code, exceptionTable := #[], attributes := #[] }
def k14m8 : Method := ⟨"inflateIfNeededFor", "(Ljava/lang/String;)V", ⟨[(.object "java/lang/String")], none⟩, 2, some k14c8⟩
def k14c9 : Code := { maxStack := 4, maxLocals := 3, code := jdk_68_method_73_code, exceptionTable := #[], attributes := #[] }
def k14m9 : Method := ⟨"putStringAt", "(ILjava/lang/String;)V", ⟨[.int, (.object "java/lang/String")], none⟩, 2, some k14c9⟩
def k14 : Class := { plain "java/lang/AbstractStringBuilder" (some 0) with
  accessFlags := 1056
  interfaces := #[13, 4]
  cf := some (fileOf pool14 10 #[] #[⟨0, 7, 8, #[]⟩, ⟨0, 7, 103, #[]⟩, ⟨1, 34, 35, #[]⟩, ⟨2, 102, 103, #[]⟩, ⟨2, 106, 107, #[]⟩, ⟨1, 45, 46, #[]⟩, ⟨16, 552, 403, #[]⟩, ⟨16, 85, 86, #[]⟩, ⟨2, 217, 69, #[]⟩, ⟨2, 210, 211, #[]⟩] 1056 4 #[444, 48] #[⟨0, 17, 14, #[]⟩, ⟨0, 24, 25, #[]⟩, ⟨0, 75, 21, #[]⟩, ⟨0, 81, 82, #[]⟩, ⟨26, 13, 14, #[]⟩])
  fields := #[⟨"value", (.array .byte), 0, 0, 0⟩, ⟨"coder", .byte, 0, 1, 0⟩, ⟨"maybeLatin1", .boolean, 0, 2, 0⟩, ⟨"count", .int, 0, 3, 0⟩, ⟨"EMPTYVALUE", (.array .byte), 26, 0, 0⟩]
  methods := #[k14m0, k14m1, k14m2, k14m3, k14m4, k14m5, k14m6, k14m7, k14m8, k14m9]
  instanceTypes := #[(.array .byte), .byte, .boolean, .int]
  staticTypes := #[(.array .byte)]
  resolved := Array.replicate 609 none
  statics := none }

def pool15 : Array CpInfo := pool [(1, .methodref 2 3), (0, .class_ 4), (0, .nameAndType 5 6), (0, u "java/lang/AbstractStringBuilder"), (0, u "<init>"), (0, u "(I)V"), (11, .class_ 20), (1, u "java/lang/String"), (3, .class_ 26), (1, u "java/lang/StringBuilder"), (0, u "append"), (0, u "(Ljava/lang/String;)Ljava/lang/StringBuilder;"), (0, .methodref 2 30), (0, .nameAndType 27 31), (0, u "(Ljava/lang/String;)Ljava/lang/AbstractStringBuilder;"), (105, .methodref 18 138), (0, .nameAndType 5 139), (0, u "(Ljava/lang/StringBuilder;)V"), (5, u "()V"), (10, u "()I"), (186, .methodref 2 344), (0, .nameAndType 345 156), (0, u "length"), (3, .class_ 350), (0, u "java/lang/Appendable"), (0, .class_ 352), (0, u "java/io/Serializable"), (0, .class_ 354), (0, u "java/lang/Comparable"), (0, .class_ 356), (0, u "java/lang/CharSequence"), (0, u "serialVersionUID"), (0, u "J"), (40, u "toString"), (0, u "()Ljava/lang/String;")] 21

def k15c0 : Code := { maxStack := 2, maxLocals := 1, code := jdk_67_method_1_code, exceptionTable := #[], attributes := #[] }
def k15m0 : Method := ⟨"<init>", "()V", ⟨[], none⟩, 1, some k15c0⟩
def k15c1 : Code := { maxStack := 2, maxLocals := 2, code := jdk_67_method_7_code, exceptionTable := #[], attributes := #[] }
def k15m1 : Method := ⟨"append", "(Ljava/lang/String;)Ljava/lang/StringBuilder;", ⟨[(.object "java/lang/String")], some (.object "java/lang/StringBuilder")⟩, 1, some k15c1⟩
def k15c2 : Code := { maxStack := 3, maxLocals := 1, code := jdk_67_method_42_code, exceptionTable := #[], attributes := #[] }
def k15m2 : Method := ⟨"toString", "()Ljava/lang/String;", ⟨[], some (.object "java/lang/String")⟩, 1, some k15c2⟩
def k15c3 : Code := { maxStack := 1, maxLocals := 1, code := jdk_67_method_93_code, exceptionTable := #[], attributes := #[] }
def k15m3 : Method := ⟨"length", "()I", ⟨[], some .int⟩, 4161, some k15c3⟩
def k15 : Class := { plain "java/lang/StringBuilder" (some 14) with
  accessFlags := 49
  interfaces := #[13, 2, 3, 4]
  cf := some (fileOf pool15 24 #[] #[⟨1, 5, 145, #[]⟩, ⟨1, 27, 28, #[]⟩, ⟨1, 399, 400, #[]⟩, ⟨4161, 345, 156, #[]⟩] 49 2 #[349, 351, 353, 355] #[⟨24, 357, 358, #[]⟩])
  fields := #[⟨"serialVersionUID", .long, 24, 0, 0⟩]
  methods := #[k15m0, k15m1, k15m2, k15m3]
  instanceTypes := #[(.array .byte), .byte, .boolean, .int]
  staticTypes := #[.long]
  resolved := Array.replicate 422 none
  statics := none }

def pool16 : Array CpInfo := pool [(2, .class_ 4), (1, u "java/lang/Object"), (0, u "<init>"), (0, u "()V"), (1, .class_ 10), (1, u "java/lang/System"), (0, u "allowSecurityManager"), (0, u "I"), (16, u "cons"), (0, u "Ljava/io/Console;"), (77, .class_ 110), (1, u "java/lang/System$CallersHolder"), (43, u "initialErrStream"), (0, u "Ljava/io/PrintStream;"), (19, u "security"), (0, u "Ljava/lang/SecurityManager;"), (31, .class_ 209), (0, u "java/lang/System$1"), (7, u "props"), (0, u "Ljava/util/Properties;"), (2, u "lineSeparator"), (0, u "Ljava/lang/String;"), (96, .class_ 321), (1, u "java/lang/System$LoggerFinder"), (5, .class_ 328), (0, u "java/lang/System$Logger"), (67, u "err"), (2, u "out"), (91, u "notSupportedJnuEncoding"), (15, u "in"), (17, u "initialIn"), (0, u "Ljava/io/InputStream;"), (35, u "bootLayer"), (0, u "Ljava/lang/ModuleLayer;"), (99, .class_ 664), (0, u "java/lang/System$2"), (9, u "NEVER"), (2, u "MAYBE"), (49, u "arraycopy"), (0, u "(Ljava/lang/Object;ILjava/lang/Object;II)V"), (72, .class_ 802), (0, u "java/lang/System$Logger$Level")] 31

def k16m0 : Method := ⟨"<init>", "()V", ⟨[], none⟩, 2, none⟩
def k16m1 : Method := ⟨"arraycopy", "(Ljava/lang/Object;ILjava/lang/Object;II)V", ⟨[(.object "java/lang/Object"), .int, (.object "java/lang/Object"), .int, .int], none⟩, 265, none⟩
def k16 : Class := { plain "java/lang/System" (some 0) with
  accessFlags := 49
  interfaces := #[]
  cf := some (fileOf pool16 8 #[.nestMembers #[319, 327, 801, 108, 663, 208]] #[⟨2, 5, 6, #[]⟩, ⟨265, 727, 728, #[]⟩] 49 2 #[] #[⟨25, 507, 526, #[]⟩, ⟨25, 399, 155, #[]⟩, ⟨25, 396, 155, #[]⟩, ⟨10, 525, 526, #[]⟩, ⟨26, 674, 12, #[]⟩, ⟨26, 677, 12, #[]⟩, ⟨10, 11, 12, #[]⟩, ⟨74, 175, 176, #[]⟩, ⟨10, 491, 222, #[]⟩, ⟨74, 29, 30, #[]⟩, ⟨74, 154, 155, #[]⟩, ⟨10, 217, 218, #[]⟩, ⟨10, 221, 222, #[]⟩, ⟨8, 562, 563, #[]⟩])
  fields := #[⟨"in", (.object "java/io/InputStream"), 25, 0, 0⟩, ⟨"out", (.object "java/io/PrintStream"), 25, 1, 0⟩, ⟨"err", (.object "java/io/PrintStream"), 25, 2, 0⟩, ⟨"initialIn", (.object "java/io/InputStream"), 10, 3, 0⟩, ⟨"NEVER", .int, 26, 4, 0⟩, ⟨"MAYBE", .int, 26, 5, 0⟩, ⟨"allowSecurityManager", .int, 10, 6, 0⟩, ⟨"security", (.object "java/lang/SecurityManager"), 74, 7, 0⟩, ⟨"notSupportedJnuEncoding", (.object "java/lang/String"), 10, 8, 0⟩, ⟨"cons", (.object "java/io/Console"), 74, 9, 0⟩, ⟨"initialErrStream", (.object "java/io/PrintStream"), 74, 10, 0⟩, ⟨"props", (.object "java/util/Properties"), 10, 11, 0⟩, ⟨"lineSeparator", (.object "java/lang/String"), 10, 12, 0⟩, ⟨"bootLayer", (.object "java/lang/ModuleLayer"), 8, 13, 0⟩]
  methods := #[k16m0, k16m1]
  instanceTypes := #[]
  staticTypes := #[(.object "java/io/InputStream"), (.object "java/io/PrintStream"), (.object "java/io/PrintStream"), (.object "java/io/InputStream"), .int, .int, .int, (.object "java/lang/SecurityManager"), (.object "java/lang/String"), (.object "java/io/Console"), (.object "java/io/PrintStream"), (.object "java/util/Properties"), (.object "java/lang/String"), (.object "java/lang/ModuleLayer")]
  resolved := Array.replicate 834 none
  statics := none }

def pool17 : Array CpInfo := pool [(9, u "<init>"), (6, .class_ 18), (1, u "java/lang/Object"), (0, u "()V"), (1, .class_ 23), (1, u "jdk/internal/util/ArraysSupport"), (0, u "LOG2_ARRAY_LONG_INDEX_SCALE"), (0, u "I"), (2, u "U"), (0, u "Ljdk/internal/misc/Unsafe;"), (8, u "BIG_ENDIAN"), (0, u "Z"), (8, u "LOG2_BYTE_BIT_SIZE"), (4, u "LOG2_ARRAY_INT_INDEX_SCALE"), (54, u "JLA"), (0, u "Ljdk/internal/access/JavaLangAccess;"), (11, u "LOG2_ARRAY_BOOLEAN_INDEX_SCALE"), (9, u "LOG2_ARRAY_BYTE_INDEX_SCALE"), (5, u "LOG2_ARRAY_CHAR_INDEX_SCALE"), (5, u "LOG2_ARRAY_SHORT_INDEX_SCALE"), (18, u "LOG2_ARRAY_FLOAT_INDEX_SCALE"), (24, u "LOG2_ARRAY_DOUBLE_INDEX_SCALE"), (6, .methodref 195 196), (0, .class_ 197), (0, .nameAndType 198 199), (0, u "java/lang/Math"), (0, u "max"), (0, u "(II)I"), (0, .integer 2147483639), (76, u "T_BOOLEAN"), (2, u "T_CHAR"), (1, u "T_FLOAT"), (1, u "T_DOUBLE"), (1, u "T_BYTE"), (1, u "T_SHORT"), (1, u "T_INT"), (1, u "T_LONG"), (1, u "SOFT_MAX_ARRAY_LENGTH"), (56, u "newLength"), (0, u "(III)I")] 25

def k17m0 : Method := ⟨"<init>", "()V", ⟨[], none⟩, 2, none⟩
def k17c1 : Code := { maxStack := 3, maxLocals := 4, code := jdk_48_method_27_code, exceptionTable := #[], attributes := #[] }
def k17m1 : Method := ⟨"newLength", "(III)I", ⟨[.int, .int, .int], some .int⟩, 9, some k17c1⟩
def k17 : Class := { plain "jdk/internal/util/ArraysSupport" (some 0) with
  accessFlags := 33
  interfaces := #[]
  cf := some (fileOf pool17 21 #[] #[⟨2, 9, 19, #[]⟩, ⟨9, 351, 352, #[]⟩] 33 16 #[] #[⟨24, 28, 29, #[]⟩, ⟨26, 38, 39, #[]⟩, ⟨25, 121, 25, #[]⟩, ⟨25, 131, 25, #[]⟩, ⟨25, 137, 25, #[]⟩, ⟨25, 143, 25, #[]⟩, ⟨25, 53, 25, #[]⟩, ⟨25, 24, 25, #[]⟩, ⟨25, 162, 25, #[]⟩, ⟨25, 187, 25, #[]⟩, ⟨26, 48, 25, #[]⟩, ⟨25, 277, 25, #[]⟩, ⟨25, 280, 25, #[]⟩, ⟨25, 282, 25, #[]⟩, ⟨25, 284, 25, #[]⟩, ⟨25, 286, 25, #[]⟩, ⟨25, 288, 25, #[]⟩, ⟨25, 290, 25, #[]⟩, ⟨25, 292, 25, #[]⟩, ⟨26, 108, 109, #[]⟩, ⟨25, 294, 25, #[]⟩])
  fields := #[⟨"U", (.object "jdk/internal/misc/Unsafe"), 24, 0, 0⟩, ⟨"BIG_ENDIAN", .boolean, 26, 1, 0⟩, ⟨"LOG2_ARRAY_BOOLEAN_INDEX_SCALE", .int, 25, 2, 0⟩, ⟨"LOG2_ARRAY_BYTE_INDEX_SCALE", .int, 25, 3, 0⟩, ⟨"LOG2_ARRAY_CHAR_INDEX_SCALE", .int, 25, 4, 0⟩, ⟨"LOG2_ARRAY_SHORT_INDEX_SCALE", .int, 25, 5, 0⟩, ⟨"LOG2_ARRAY_INT_INDEX_SCALE", .int, 25, 6, 0⟩, ⟨"LOG2_ARRAY_LONG_INDEX_SCALE", .int, 25, 7, 0⟩, ⟨"LOG2_ARRAY_FLOAT_INDEX_SCALE", .int, 25, 8, 0⟩, ⟨"LOG2_ARRAY_DOUBLE_INDEX_SCALE", .int, 25, 9, 0⟩, ⟨"LOG2_BYTE_BIT_SIZE", .int, 26, 10, 0⟩, ⟨"T_BOOLEAN", .int, 25, 11, 0⟩, ⟨"T_CHAR", .int, 25, 12, 0⟩, ⟨"T_FLOAT", .int, 25, 13, 0⟩, ⟨"T_DOUBLE", .int, 25, 14, 0⟩, ⟨"T_BYTE", .int, 25, 15, 0⟩, ⟨"T_SHORT", .int, 25, 16, 0⟩, ⟨"T_INT", .int, 25, 17, 0⟩, ⟨"T_LONG", .int, 25, 18, 0⟩, ⟨"JLA", (.object "jdk/internal/access/JavaLangAccess"), 26, 19, 0⟩, ⟨"SOFT_MAX_ARRAY_LENGTH", .int, 25, 20, 0⟩]
  methods := #[k17m0, k17m1]
  instanceTypes := #[]
  staticTypes := #[(.object "jdk/internal/misc/Unsafe"), .boolean, .int, .int, .int, .int, .int, .int, .int, .int, .int, .int, .int, .int, .int, .int, .int, .int, .int, (.object "jdk/internal/access/JavaLangAccess"), .int]
  resolved := Array.replicate 378 none
  statics := none }

def pool18 : Array CpInfo := pool [(1, .class_ 2), (0, u "java/lang/Math"), (1, .class_ 6), (1, u "java/lang/Object"), (0, u "<init>"), (0, u "()V"), (89, .class_ 100), (1, u "java/lang/Math$RandomNumberGeneratorHolder"), (71, u "negativeZeroFloatBits"), (0, u "J"), (2, u "negativeZeroDoubleBits"), (21, u "max"), (2, u "min"), (43, u "$assertionsDisabled"), (0, u "Z"), (88, u "(II)I"), (2, u "twoToTheDoubleScaleDown"), (0, u "D"), (4, u "twoToTheDoubleScaleUp"), (9, u "E"), (3, u "PI"), (2, u "TAU"), (2, u "DEGREES_TO_RADIANS"), (0, u "RADIANS_TO_DEGREES")] 94

def k18m0 : Method := ⟨"<init>", "()V", ⟨[], none⟩, 2, none⟩
def k18c1 : Code := { maxStack := 2, maxLocals := 2, code := jdk_29_method_65_code, exceptionTable := #[], attributes := #[] }
def k18m1 : Method := ⟨"max", "(II)I", ⟨[.int, .int], some .int⟩, 9, some k18c1⟩
def k18c2 : Code := { maxStack := 2, maxLocals := 2, code := jdk_29_method_69_code, exceptionTable := #[], attributes := #[] }
def k18m2 : Method := ⟨"min", "(II)I", ⟨[.int, .int], some .int⟩, 9, some k18c2⟩
def k18 : Class := { plain "java/lang/Math" (some 0) with
  accessFlags := 49
  interfaces := #[]
  cf := some (fileOf pool18 1 #[.nestMembers #[98]] #[⟨2, 7, 8, #[]⟩, ⟨9, 198, 335, #[]⟩, ⟨9, 201, 335, #[]⟩] 49 4 #[] #[⟨25, 354, 339, #[]⟩, ⟨25, 358, 339, #[]⟩, ⟨25, 361, 339, #[]⟩, ⟨26, 364, 339, #[]⟩, ⟨26, 365, 339, #[]⟩, ⟨26, 172, 173, #[]⟩, ⟨26, 176, 173, #[]⟩, ⟨8, 344, 339, #[]⟩, ⟨8, 338, 339, #[]⟩, ⟨4120, 245, 246, #[]⟩])
  fields := #[⟨"E", .double, 25, 0, 0⟩, ⟨"PI", .double, 25, 1, 0⟩, ⟨"TAU", .double, 25, 2, 0⟩, ⟨"DEGREES_TO_RADIANS", .double, 26, 3, 0⟩, ⟨"RADIANS_TO_DEGREES", .double, 26, 4, 0⟩, ⟨"negativeZeroFloatBits", .long, 26, 5, 0⟩, ⟨"negativeZeroDoubleBits", .long, 26, 6, 0⟩, ⟨"twoToTheDoubleScaleUp", .double, 8, 7, 0⟩, ⟨"twoToTheDoubleScaleDown", .double, 8, 8, 0⟩, ⟨"$assertionsDisabled", .boolean, 4120, 9, 0⟩]
  methods := #[k18m0, k18m1, k18m2]
  instanceTypes := #[]
  staticTypes := #[.double, .double, .double, .double, .double, .long, .long, .double, .double, .boolean]
  resolved := Array.replicate 460 none
  statics := none }

def pool19 : Array CpInfo := pool [(2, .class_ 4), (1, u "java/lang/Object"), (0, u "<init>"), (0, u "()V"), (7, .class_ 16), (1, u "java/util/Arrays"), (57, .class_ 76), (1, u "java/util/Arrays$NaturalOrder"), (36, .class_ 115), (1, u "java/util/Arrays$LegacyMergeSort"), (1, u "Z"), (21, u "copyOfRange"), (10, .methodref 151 152), (0, .class_ 153), (0, .nameAndType 154 155), (0, u "java/lang/System"), (0, u "arraycopy"), (0, u "(Ljava/lang/Object;ILjava/lang/Object;II)V"), (146, u "copyOf"), (1, .methodref 305 306), (0, .class_ 307), (0, .nameAndType 308 309), (0, u "java/lang/Math"), (0, u "min"), (0, u "(II)I"), (29, .methodref 14 340), (0, .nameAndType 341 342), (0, u "copyOfRangeByte"), (0, u "([BII)[B"), (0, .methodref 14 344), (0, .nameAndType 345 346), (0, u "checkLength"), (0, u "(II)V"), (28, .class_ 376), (0, u "java/util/Arrays$ArrayList"), (68, u "$assertionsDisabled"), (269, u "MIN_ARRAY_SORT_GRAN"), (0, u "I"), (2, u "INSERTIONSORT_THRESHOLD"), (149, u "([BI)[B"), (105, .class_ 976), (0, u "java/util/Arrays$ArrayItr")] 52

def k19m0 : Method := ⟨"<init>", "()V", ⟨[], none⟩, 2, none⟩
def k19c1 : Code := { maxStack := 6, maxLocals := 3, code := jdk_65_method_121_code, exceptionTable := #[], attributes := #[] }
def k19m1 : Method := ⟨"copyOf", "([BI)[B", ⟨[(.array .byte), .int], some (.array .byte)⟩, 9, some k19c1⟩
def k19c2 : Code := { maxStack := 4, maxLocals := 2, code := jdk_65_method_131_code, exceptionTable := #[], attributes := #[] }
def k19m2 : Method := ⟨"checkLength", "(II)V", ⟨[.int, .int], none⟩, 10, some k19c2⟩
def k19c3 : Code := { maxStack := 3, maxLocals := 3, code := jdk_65_method_132_code, exceptionTable := #[], attributes := #[] }
def k19m3 : Method := ⟨"copyOfRange", "([BII)[B", ⟨[(.array .byte), .int, .int], some (.array .byte)⟩, 9, some k19c3⟩
def k19c4 : Code := { maxStack := 6, maxLocals := 5, code := jdk_65_method_133_code, exceptionTable := #[], attributes := #[] }
def k19m4 : Method := ⟨"copyOfRangeByte", "([BII)[B", ⟨[(.array .byte), .int, .int], some (.array .byte)⟩, 10, some k19c4⟩
def k19 : Class := { plain "java/util/Arrays" (some 0) with
  accessFlags := 49
  interfaces := #[]
  cf := some (fileOf pool19 14 #[.nestMembers #[975, 375, 113, 74]] #[⟨2, 5, 6, #[]⟩, ⟨9, 302, 869, #[]⟩, ⟨10, 345, 346, #[]⟩, ⟨9, 139, 342, #[]⟩, ⟨10, 341, 342, #[]⟩] 49 2 #[] #[⟨26, 715, 716, #[]⟩, ⟨26, 719, 716, #[]⟩, ⟨4120, 445, 117, #[]⟩])
  fields := #[⟨"MIN_ARRAY_SORT_GRAN", .int, 26, 0, 0⟩, ⟨"INSERTIONSORT_THRESHOLD", .int, 26, 1, 0⟩, ⟨"$assertionsDisabled", .boolean, 4120, 2, 0⟩]
  methods := #[k19m0, k19m1, k19m2, k19m3, k19m4]
  instanceTypes := #[]
  staticTypes := #[.int, .int, .boolean]
  resolved := Array.replicate 1029 none
  statics := none }

def pool20 : Array CpInfo := pool [(2, .class_ 4), (1, u "java/lang/Object"), (0, u "<init>"), (0, u "()V"), (35, .class_ 44), (1, u "java/util/Objects"), (0, u "requireNonNull"), (48, u "(Ljava/lang/Object;Ljava/lang/String;)Ljava/lang/Object;")] 89

def k20m0 : Method := ⟨"<init>", "()V", ⟨[], none⟩, 2, none⟩
def k20c1 : Code := { maxStack := 3, maxLocals := 2, code := jdk_31_method_11_code, exceptionTable := #[], attributes := #[] }
def k20m1 : Method := ⟨"requireNonNull", "(Ljava/lang/Object;Ljava/lang/String;)Ljava/lang/Object;", ⟨[(.object "java/lang/Object"), (.object "java/lang/String")], some (.object "java/lang/Object")⟩, 9, some k20c1⟩
def k20 : Class := { plain "java/util/Objects" (some 0) with
  accessFlags := 49
  interfaces := #[]
  cf := some (fileOf pool20 42 #[] #[⟨2, 5, 6, #[]⟩, ⟨9, 45, 94, #[]⟩] 49 2 #[] #[])
  fields := #[]
  methods := #[k20m0, k20m1]
  instanceTypes := #[]
  staticTypes := #[]
  resolved := Array.replicate 184 none
  statics := none }

def pool21 : Array CpInfo := pool [(1, .class_ 2), (0, u "java/lang/String"), (1, .class_ 6), (1, u "java/lang/Object"), (0, u "<init>"), (0, u "()V"), (0, .methodref 1 10), (0, .nameAndType 11 12), (0, u "checkIndex"), (0, u "(II)V"), (1, .class_ 16), (1, u "java/lang/StringLatin1"), (36, u "([BI)C"), (36, u "canEncode"), (14, u "(C)Z"), (15, u "$assertionsDisabled"), (0, u "Z"), (98, .class_ 223), (1, u "java/lang/StringLatin1$LinesSpliterator"), (28, u "charAt"), (127, u "toBytes"), (1, u "(C)[B"), (7, .class_ 391), (0, u "java/lang/StringLatin1$CharsSpliterator")] 3

def k21m0 : Method := ⟨"<init>", "()V", ⟨[], none⟩, 0, none⟩
def k21c1 : Code := { maxStack := 2, maxLocals := 2, code := jdk_43_method_2_code, exceptionTable := #[], attributes := #[] }
def k21m1 : Method := ⟨"charAt", "([BI)C", ⟨[(.array .byte), .int], some .char⟩, 9, some k21c1⟩
def k21c2 : Code := { maxStack := 2, maxLocals := 1, code := jdk_43_method_3_code, exceptionTable := #[], attributes := #[] }
def k21m2 : Method := ⟨"canEncode", "(C)Z", ⟨[.char], some .boolean⟩, 9, some k21c2⟩
def k21c3 : Code := { maxStack := 4, maxLocals := 1, code := jdk_43_method_46_code, exceptionTable := #[], attributes := #[] }
def k21m3 : Method := ⟨"toBytes", "(C)[B", ⟨[.char], some (.array .byte)⟩, 9, some k21c3⟩
def k21 : Class := { plain "java/lang/StringLatin1" (some 0) with
  accessFlags := 48
  interfaces := #[]
  cf := some (fileOf pool21 14 #[.nestMembers #[390, 221]] #[⟨0, 7, 8, #[]⟩, ⟨9, 252, 53, #[]⟩, ⟨9, 90, 105, #[]⟩, ⟨9, 380, 382, #[]⟩] 48 4 #[] #[⟨4120, 121, 122, #[]⟩])
  fields := #[⟨"$assertionsDisabled", .boolean, 4120, 0, 0⟩]
  methods := #[k21m0, k21m1, k21m2, k21m3]
  instanceTypes := #[]
  staticTypes := #[.boolean]
  resolved := Array.replicate 395 none
  statics := none }

def pool22 : Array CpInfo := pool [(2, .class_ 4), (1, u "java/lang/Object"), (0, u "<init>"), (0, u "()V"), (17, .class_ 26), (1, u "jdk/internal/util/Preconditions"), (6, u "checkIndex"), (21, .class_ 56), (0, u "jdk/internal/util/Preconditions$4"), (57, .class_ 115), (0, u "jdk/internal/util/Preconditions$1"), (7, u "SIOOBE_FORMATTER"), (0, u "Ljava/util/function/BiFunction;"), (0, .class_ 126), (0, u "jdk/internal/util/Preconditions$2"), (3, u "AIOOBE_FORMATTER"), (0, .class_ 132), (0, u "jdk/internal/util/Preconditions$3"), (3, u "IOOBE_FORMATTER"), (41, u "(IILjava/util/function/BiFunction;)I")] 15

def k22m0 : Method := ⟨"<init>", "()V", ⟨[], none⟩, 1, none⟩
def k22c1 : Code := { maxStack := 3, maxLocals := 3, code := jdk_41_method_11_code, exceptionTable := #[], attributes := #[] }
def k22m1 : Method := ⟨"checkIndex", "(IILjava/util/function/BiFunction;)I", ⟨[.int, .int, (.object "java/util/function/BiFunction")], some .int⟩, 9, some k22c1⟩
def k22 : Class := { plain "jdk/internal/util/Preconditions" (some 0) with
  accessFlags := 33
  interfaces := #[]
  cf := some (fileOf pool22 24 #[.nestMembers #[55, 131, 125, 114]] #[⟨1, 5, 6, #[]⟩, ⟨9, 33, 178, #[]⟩] 33 2 #[] #[⟨25, 123, 124, #[]⟩, ⟨25, 130, 124, #[]⟩, ⟨25, 136, 124, #[]⟩])
  fields := #[⟨"SIOOBE_FORMATTER", (.object "java/util/function/BiFunction"), 25, 0, 0⟩, ⟨"AIOOBE_FORMATTER", (.object "java/util/function/BiFunction"), 25, 1, 0⟩, ⟨"IOOBE_FORMATTER", (.object "java/util/function/BiFunction"), 25, 2, 0⟩]
  methods := #[k22m0, k22m1]
  instanceTypes := #[]
  staticTypes := #[(.object "java/util/function/BiFunction"), (.object "java/util/function/BiFunction"), (.object "java/util/function/BiFunction")]
  resolved := Array.replicate 194 none
  statics := some 3 }

def pool23 : Array CpInfo := pool [(6, .class_ 8), (1, u "java/lang/Object"), (0, u "<init>"), (0, u "()V"), (1, .class_ 14), (1, u "java/lang/StringUTF16"), (31, u "$assertionsDisabled"), (0, u "Z"), (13, u "HI_BYTE_SHIFT"), (0, u "I"), (2, u "LO_BYTE_SHIFT"), (49, .methodref 12 116), (0, .nameAndType 117 118), (0, u "compress"), (0, u "([CI[BII)I"), (3, u "([CII)[B"), (138, u "coderFromArrayLen"), (0, u "([BI)B"), (106, .class_ 371), (1, u "java/lang/StringUTF16$LinesSpliterator"), (58, u "MAX_LENGTH"), (196, .class_ 628), (0, u "java/lang/StringUTF16$CodePointsSpliterator"), (0, .class_ 630), (0, u "java/lang/StringUTF16$CharsSpliterator")] 4

def k23m0 : Method := ⟨"<init>", "()V", ⟨[], none⟩, 0, none⟩
def k23c1 : Code := { maxStack := 2, maxLocals := 2, code := jdk_52_method_15_code, exceptionTable := #[], attributes := #[] }
def k23m1 : Method := ⟨"coderFromArrayLen", "([BI)B", ⟨[(.array .byte), .int], some .byte⟩, 8, some k23c1⟩
def k23c2 : Code := { maxStack := 5, maxLocals := 6, code := jdk_52_method_16_code, exceptionTable := #[], attributes := #[] }
def k23m2 : Method := ⟨"compress", "([CII)[B", ⟨[(.array .char), .int, .int], some (.array .byte)⟩, 9, some k23c2⟩
def k23c3 : Code := { maxStack := 3, maxLocals := 7, code := jdk_52_method_21_code, exceptionTable := #[], attributes := #[] }
def k23m3 : Method := ⟨"compress", "([CI[BII)I", ⟨[(.array .char), .int, (.array .byte), .int, .int], some .int⟩, 9, some k23c3⟩
def k23 : Class := { plain "java/lang/StringUTF16" (some 0) with
  accessFlags := 48
  interfaces := #[]
  cf := some (fileOf pool23 12 #[.nestMembers #[627, 629, 369]] #[⟨0, 9, 10, #[]⟩, ⟨8, 261, 262, #[]⟩, ⟨9, 117, 122, #[]⟩, ⟨9, 117, 118, #[]⟩] 48 6 #[] #[⟨26, 61, 62, #[]⟩, ⟨26, 65, 62, #[]⟩, ⟨24, 430, 62, #[]⟩, ⟨4120, 46, 47, #[]⟩])
  fields := #[⟨"HI_BYTE_SHIFT", .int, 26, 0, 0⟩, ⟨"LO_BYTE_SHIFT", .int, 26, 1, 0⟩, ⟨"MAX_LENGTH", .int, 24, 2, 0⟩, ⟨"$assertionsDisabled", .boolean, 4120, 3, 0⟩]
  methods := #[k23m0, k23m1, k23m2, k23m3]
  instanceTypes := #[]
  staticTypes := #[.int, .int, .int, .boolean]
  resolved := Array.replicate 635 none
  statics := none }

def pool24 : Array CpInfo := pool [(2, .class_ 4), (1, u "java/lang/Object"), (0, u "<init>"), (0, u "()V"), (12, .class_ 20), (0, u "java/util/Collections"), (63, u "r"), (0, u "Ljava/util/Random;"), (80, .class_ 167), (0, u "java/util/Collections$UnmodifiableCollection"), (6, .class_ 175), (0, u "java/util/Collections$UnmodifiableSequencedCollection"), (6, .class_ 183), (0, u "java/util/Collections$UnmodifiableSet"), (6, .class_ 191), (0, u "java/util/Collections$UnmodifiableSequencedSet"), (6, .class_ 199), (0, u "java/util/Collections$UnmodifiableSortedSet"), (6, .class_ 207), (0, u "java/util/Collections$UnmodifiableNavigableSet"), (4, .class_ 213), (0, u "java/util/Collections$UnmodifiableList"), (1, .class_ 216), (0, u "java/util/Collections$UnmodifiableRandomAccessList"), (6, .class_ 224), (0, u "java/util/Collections$UnmodifiableMap"), (6, .class_ 232), (0, u "java/util/Collections$UnmodifiableSequencedMap"), (4, .class_ 238), (0, u "java/util/Collections$UnmodifiableSortedMap"), (6, .class_ 246), (0, u "java/util/Collections$UnmodifiableNavigableMap"), (3, .class_ 251), (0, u "java/util/Collections$SynchronizedCollection"), (4, .class_ 257), (0, u "java/util/Collections$SynchronizedSet"), (4, .class_ 263), (0, u "java/util/Collections$SynchronizedSortedSet"), (1, .class_ 266), (0, u "java/util/Collections$SynchronizedNavigableSet"), (1, .class_ 269), (0, u "java/util/Collections$SynchronizedRandomAccessList"), (1, .class_ 272), (0, u "java/util/Collections$SynchronizedList"), (5, .class_ 279), (0, u "java/util/Collections$SynchronizedMap"), (1, .class_ 282), (0, u "java/util/Collections$SynchronizedSortedMap"), (1, .class_ 285), (0, u "java/util/Collections$SynchronizedNavigableMap"), (1, .class_ 288), (0, u "java/util/Collections$CheckedCollection"), (11, .class_ 301), (0, u "java/util/Collections$CheckedQueue"), (3, .class_ 306), (0, u "java/util/Collections$CheckedSet"), (3, .class_ 311), (0, u "java/util/Collections$CheckedSortedSet"), (3, .class_ 316), (0, u "java/util/Collections$CheckedNavigableSet"), (3, .class_ 321), (0, u "java/util/Collections$CheckedRandomAccessList"), (3, .class_ 326), (0, u "java/util/Collections$CheckedList"), (1, .class_ 329), (0, u "java/util/Collections$CheckedMap"), (3, .class_ 334), (0, u "java/util/Collections$CheckedSortedMap"), (3, .class_ 339), (0, u "java/util/Collections$CheckedNavigableMap"), (4, .class_ 346), (1, u "java/util/Collections$EmptyIterator"), (3, .class_ 352), (1, u "java/util/Collections$EmptyListIterator"), (2, .class_ 357), (1, u "java/util/Collections$EmptyEnumeration"), (4, u "EMPTY_SET"), (0, u "Ljava/util/Set;"), (6, u "EMPTY_LIST"), (0, u "Ljava/util/List;"), (2, u "EMPTY_MAP"), (0, u "Ljava/util/Map;"), (4, .class_ 381), (0, u "java/util/Collections$SingletonSet"), (2, .class_ 385), (0, u "java/util/Collections$1"), (1, .class_ 388), (0, u "java/util/Collections$2"), (1, .class_ 391), (0, u "java/util/Collections$SingletonList"), (1, .class_ 394), (0, u "java/util/Collections$SingletonMap"), (22, .class_ 418), (0, u "java/util/Collections$CopiesList"), (4, .class_ 425), (1, u "java/util/Collections$ReverseComparator"), (8, .class_ 435), (0, u "java/util/Collections$ReverseComparator2"), (6, .class_ 443), (0, u "java/util/Collections$3"), (25, .class_ 470), (0, u "java/util/Collections$SetFromMap"), (2, .class_ 474), (0, u "java/util/Collections$SequencedSetFromMap"), (3, .class_ 479), (0, u "java/util/Collections$AsLIFOQueue"), (11, .class_ 492), (0, u "java/util/Collections$EmptySet"), (1, .class_ 495), (0, u "java/util/Collections$EmptyList"), (1, .class_ 498), (0, u "java/util/Collections$EmptyMap"), (1, u "BINARYSEARCH_THRESHOLD"), (0, u "I"), (2, u "REVERSE_THRESHOLD"), (1, u "SHUFFLE_THRESHOLD"), (1, u "FILL_THRESHOLD"), (1, u "ROTATE_THRESHOLD"), (1, u "COPY_THRESHOLD"), (1, u "REPLACEALL_THRESHOLD"), (1, u "INDEXOFSUBLIST_THRESHOLD"), (333, .class_ 851), (0, u "java/util/Collections$CheckedMap$CheckedEntrySet"), (0, .class_ 853), (0, u "java/util/Collections$CheckedMap$CheckedEntrySet$CheckedEntry"), (0, .class_ 855), (0, u "java/util/Collections$CheckedMap$CheckedEntrySet$1"), (0, .class_ 857), (0, u "java/util/Collections$CheckedList$1"), (0, .class_ 859), (0, u "java/util/Collections$CheckedCollection$1"), (0, .class_ 861), (0, u "java/util/Collections$UnmodifiableNavigableMap$EmptyNavigableMap"), (0, .class_ 863), (0, u "java/util/Collections$UnmodifiableMap$UnmodifiableEntrySet"), (0, .class_ 865), (0, u "java/util/Collections$UnmodifiableMap$UnmodifiableEntrySet$UnmodifiableEntry"), (0, .class_ 867), (0, u "java/util/Collections$UnmodifiableMap$UnmodifiableEntrySet$UnmodifiableEntrySetSpliterator"), (0, .class_ 869), (0, u "java/util/Collections$UnmodifiableMap$UnmodifiableEntrySet$1"), (0, .class_ 871), (0, u "java/util/Collections$UnmodifiableList$1"), (0, .class_ 873), (0, u "java/util/Collections$UnmodifiableNavigableSet$EmptyNavigableSet"), (0, .class_ 875), (0, u "java/util/Collections$UnmodifiableCollection$1")] 57

def k24m0 : Method := ⟨"<init>", "()V", ⟨[], none⟩, 2, none⟩
def k24 : Class := { plain "java/util/Collections" (some 0) with
  accessFlags := 33
  interfaces := #[]
  cf := some (fileOf pool24 19 #[.nestMembers #[478, 473, 469, 434, 423, 417, 393, 390, 380, 497, 494, 491, 355, 350, 344, 338, 333, 328, 850, 852, 854, 320, 325, 856, 315, 310, 305, 300, 287, 858, 284, 281, 278, 268, 271, 265, 262, 256, 250, 245, 860, 237, 231, 223, 862, 864, 866, 868, 215, 212, 870, 206, 872, 198, 190, 182, 174, 166, 874, 442, 387, 384]] #[⟨2, 5, 6, #[]⟩] 33 2 #[] #[⟨26, 500, 501, #[]⟩, ⟨26, 504, 501, #[]⟩, ⟨26, 506, 501, #[]⟩, ⟨26, 508, 501, #[]⟩, ⟨26, 510, 501, #[]⟩, ⟨26, 512, 501, #[]⟩, ⟨26, 514, 501, #[]⟩, ⟨26, 516, 501, #[]⟩, ⟨10, 84, 85, #[]⟩, ⟨25, 362, 363, #[]⟩, ⟨25, 370, 371, #[]⟩, ⟨25, 374, 375, #[]⟩])
  fields := #[⟨"BINARYSEARCH_THRESHOLD", .int, 26, 0, 0⟩, ⟨"REVERSE_THRESHOLD", .int, 26, 1, 0⟩, ⟨"SHUFFLE_THRESHOLD", .int, 26, 2, 0⟩, ⟨"FILL_THRESHOLD", .int, 26, 3, 0⟩, ⟨"ROTATE_THRESHOLD", .int, 26, 4, 0⟩, ⟨"COPY_THRESHOLD", .int, 26, 5, 0⟩, ⟨"REPLACEALL_THRESHOLD", .int, 26, 6, 0⟩, ⟨"INDEXOFSUBLIST_THRESHOLD", .int, 26, 7, 0⟩, ⟨"r", (.object "java/util/Random"), 10, 8, 0⟩, ⟨"EMPTY_SET", (.object "java/util/Set"), 25, 9, 0⟩, ⟨"EMPTY_LIST", (.object "java/util/List"), 25, 10, 0⟩, ⟨"EMPTY_MAP", (.object "java/util/Map"), 25, 11, 0⟩]
  methods := #[k24m0]
  instanceTypes := #[]
  staticTypes := #[.int, .int, .int, .int, .int, .int, .int, .int, (.object "java/util/Random"), (.object "java/util/Set"), (.object "java/util/List"), (.object "java/util/Map")]
  resolved := Array.replicate 933 none
  statics := some 4 }

def pool25 : Array CpInfo := pool [(8, .class_ 10), (1, u "java/lang/Iterable"), (24, .class_ 36), (0, u "java/lang/Object")] 25

def k25 : Class := { plain "java/lang/Iterable" (some 0) with
  accessFlags := 1537
  interfaces := #[]
  cf := some (fileOf pool25 8 #[] #[] 1537 35 #[] #[])
  fields := #[]
  methods := #[]
  instanceTypes := #[]
  staticTypes := #[]
  resolved := Array.replicate 62 none
  statics := none }

def pool26 : Array CpInfo := pool [(10, .class_ 12), (1, u "java/util/Collection"), (47, .class_ 61), (0, u "java/lang/Object"), (0, .class_ 63), (0, u "java/lang/Iterable")] 51

def k26 : Class := { plain "java/util/Collection" (some 0) with
  accessFlags := 1537
  interfaces := #[25]
  cf := some (fileOf pool26 10 #[] #[] 1537 60 #[62] #[])
  fields := #[]
  methods := #[]
  instanceTypes := #[]
  staticTypes := #[]
  resolved := Array.replicate 115 none
  statics := none }

def pool27 : Array CpInfo := pool [(2, .class_ 4), (1, u "java/lang/Object"), (0, u "<init>"), (0, u "()V"), (1, .class_ 10), (1, u "java/util/AbstractCollection"), (66, .class_ 78), (0, u "java/util/Collection")] 81

def k27m0 : Method := ⟨"<init>", "()V", ⟨[], none⟩, 4, none⟩
def k27 : Class := { plain "java/util/AbstractCollection" (some 0) with
  accessFlags := 1057
  interfaces := #[26]
  cf := some (fileOf pool27 8 #[] #[⟨4, 5, 6, #[]⟩] 1057 2 #[77] #[])
  fields := #[]
  methods := #[k27m0]
  instanceTypes := #[]
  staticTypes := #[]
  resolved := Array.replicate 160 none
  statics := none }

def pool28 : Array CpInfo := pool [(8, .class_ 10), (1, u "java/util/SequencedCollection"), (15, .class_ 27), (0, u "java/lang/Object"), (0, .class_ 29), (0, u "java/util/Collection")] 27

def k28 : Class := { plain "java/util/SequencedCollection" (some 0) with
  accessFlags := 1537
  interfaces := #[26]
  cf := some (fileOf pool28 8 #[] #[] 1537 26 #[28] #[])
  fields := #[]
  methods := #[]
  instanceTypes := #[]
  staticTypes := #[]
  resolved := Array.replicate 57 none
  statics := none }

def pool29 : Array CpInfo := pool [(8, .class_ 10), (1, u "java/util/List"), (92, .class_ 104), (0, u "java/lang/Object"), (15, .class_ 121), (0, u "java/util/SequencedCollection")] 129

def k29 : Class := { plain "java/util/List" (some 0) with
  accessFlags := 1537
  interfaces := #[28]
  cf := some (fileOf pool29 8 #[] #[] 1537 103 #[120] #[])
  fields := #[]
  methods := #[]
  instanceTypes := #[]
  staticTypes := #[]
  resolved := Array.replicate 251 none
  statics := none }

def pool30 : Array CpInfo := pool [(2, .class_ 4), (1, u "java/util/AbstractCollection"), (0, u "<init>"), (0, u "()V"), (1, .class_ 10), (1, u "java/util/AbstractList"), (0, u "modCount"), (0, u "I"), (64, .class_ 78), (0, u "java/util/AbstractList$Itr"), (3, .class_ 83), (0, u "java/util/AbstractList$ListItr"), (9, .class_ 94), (0, u "java/util/AbstractList$RandomAccessSubList"), (3, .class_ 99), (0, u "java/util/AbstractList$SubList"), (33, .class_ 134), (0, u "java/util/List"), (73, .class_ 209), (0, u "java/util/AbstractList$SubList$1"), (0, .class_ 211), (0, u "java/util/AbstractList$RandomAccessSpliterator")] 6

def k30m0 : Method := ⟨"<init>", "()V", ⟨[], none⟩, 4, none⟩
def k30 : Class := { plain "java/util/AbstractList" (some 27) with
  accessFlags := 1057
  interfaces := #[29]
  cf := some (fileOf pool30 8 #[.nestMembers #[93, 98, 208, 210, 82, 77]] #[⟨4, 5, 6, #[]⟩] 1057 2 #[133] #[⟨132, 11, 12, #[]⟩])
  fields := #[⟨"modCount", .int, 132, 0, 0⟩]
  methods := #[k30m0]
  instanceTypes := #[.int]
  staticTypes := #[]
  resolved := Array.replicate 218 none
  statics := none }

def pool31 : Array CpInfo := pool [(1, .class_ 2), (0, u "java/util/RandomAccess"), (0, .class_ 4), (0, u "java/lang/Object")] 2

def k31 : Class := { plain "java/util/RandomAccess" (some 0) with
  accessFlags := 1537
  interfaces := #[]
  cf := some (fileOf pool31 1 #[] #[] 1537 3 #[] #[])
  fields := #[]
  methods := #[]
  instanceTypes := #[]
  staticTypes := #[]
  resolved := Array.replicate 7 none
  statics := none }

def pool32 : Array CpInfo := pool [(2, .class_ 4), (1, u "java/util/AbstractList"), (0, u "<init>"), (0, u "()V"), (1, .class_ 10), (1, u "java/util/Collections"), (54, .class_ 66), (0, u "java/util/Collections$EmptyList"), (0, .class_ 68), (0, u "java/util/RandomAccess"), (0, .class_ 70), (0, u "java/io/Serializable"), (0, u "serialVersionUID"), (0, u "J")] 77

def k32m0 : Method := ⟨"<init>", "()V", ⟨[], none⟩, 2, none⟩
def k32 : Class := { plain "java/util/Collections$EmptyList" (some 30) with
  accessFlags := 32
  interfaces := #[31, 2]
  cf := some (fileOf pool32 65 #[.nestHost 8] #[⟨2, 5, 6, #[]⟩] 32 2 #[67, 69] #[⟨26, 71, 72, #[]⟩])
  fields := #[⟨"serialVersionUID", .long, 26, 0, 0⟩]
  methods := #[k32m0]
  instanceTypes := #[.int]
  staticTypes := #[.long]
  resolved := Array.replicate 150 none
  statics := none }

def pool33 : Array CpInfo := pool [(2, .class_ 4), (1, u "java/lang/StackTraceElement"), (0, u "<init>"), (2, .class_ 10), (1, u "java/lang/Object"), (0, u "()V"), (2, u "format"), (0, u "B"), (2, u "classLoaderName"), (0, u "Ljava/lang/String;"), (2, u "moduleName"), (2, u "moduleVersion"), (12, u "declaringClass"), (4, u "methodName"), (2, u "fileName"), (2, u "lineNumber"), (0, u "I"), (65, u "declaringClassObject"), (0, u "Ljava/lang/Class;"), (33, .class_ 153), (1, u "java/lang/StackTraceElement$HashedModules"), (17, .class_ 172), (0, u "java/io/Serializable"), (0, u "NATIVE_METHOD"), (1, u "UNKNOWN_SOURCE"), (2, u "BUILTIN_CLASS_LOADER"), (1, u "JDK_NON_UPGRADEABLE_MODULE"), (1, u "serialVersionUID"), (0, u "J")] 51

def k33m0 : Method := ⟨"<init>", "()V", ⟨[], none⟩, 2, none⟩
def k33 : Class := { plain "java/lang/StackTraceElement" (some 0) with
  accessFlags := 49
  interfaces := #[2]
  cf := some (fileOf pool33 2 #[.nestMembers #[151]] #[⟨2, 5, 11, #[]⟩] 49 8 #[171] #[⟨26, 173, 19, #[]⟩, ⟨26, 175, 19, #[]⟩, ⟨130, 116, 117, #[]⟩, ⟨2, 18, 19, #[]⟩, ⟨2, 22, 19, #[]⟩, ⟨2, 25, 19, #[]⟩, ⟨2, 38, 19, #[]⟩, ⟨2, 43, 19, #[]⟩, ⟨2, 46, 19, #[]⟩, ⟨2, 49, 50, #[]⟩, ⟨2, 14, 15, #[]⟩, ⟨26, 178, 15, #[]⟩, ⟨26, 180, 15, #[]⟩, ⟨26, 182, 183, #[]⟩])
  fields := #[⟨"NATIVE_METHOD", (.object "java/lang/String"), 26, 0, 0⟩, ⟨"UNKNOWN_SOURCE", (.object "java/lang/String"), 26, 1, 0⟩, ⟨"declaringClassObject", (.object "java/lang/Class"), 130, 0, 0⟩, ⟨"classLoaderName", (.object "java/lang/String"), 2, 1, 0⟩, ⟨"moduleName", (.object "java/lang/String"), 2, 2, 0⟩, ⟨"moduleVersion", (.object "java/lang/String"), 2, 3, 0⟩, ⟨"declaringClass", (.object "java/lang/String"), 2, 4, 0⟩, ⟨"methodName", (.object "java/lang/String"), 2, 5, 0⟩, ⟨"fileName", (.object "java/lang/String"), 2, 6, 0⟩, ⟨"lineNumber", .int, 2, 7, 0⟩, ⟨"format", .byte, 2, 8, 0⟩, ⟨"BUILTIN_CLASS_LOADER", .byte, 26, 2, 0⟩, ⟨"JDK_NON_UPGRADEABLE_MODULE", .byte, 26, 3, 0⟩, ⟨"serialVersionUID", .long, 26, 4, 0⟩]
  methods := #[k33m0]
  instanceTypes := #[(.object "java/lang/Class"), (.object "java/lang/String"), (.object "java/lang/String"), (.object "java/lang/String"), (.object "java/lang/String"), (.object "java/lang/String"), (.object "java/lang/String"), .int, .byte]
  staticTypes := #[(.object "java/lang/String"), (.object "java/lang/String"), .byte, .byte, .long]
  resolved := Array.replicate 235 none
  statics := none }

def pool34 : Array CpInfo := pool [(1, u "java/lang/Cloneable"), (0, .class_ 1), (0, u "java/lang/Object"), (0, .class_ 3)] 3

def k34 : Class := { plain "java/lang/Cloneable" (some 0) with
  accessFlags := 1537
  interfaces := #[]
  cf := some (fileOf pool34 2 #[] #[] 1537 4 #[] #[])
  fields := #[]
  methods := #[]
  instanceTypes := #[]
  staticTypes := #[]
  resolved := Array.replicate 8 none
  statics := none }

def k35 : Class := { plain "byte" none with kind := .primitive 'B', accessFlags := 0x411 }
def k36 : Class := { plain "[B" (some 0) with kind := .array 35 .byte, interfaces := #[34, 2], accessFlags := 1041 }

def k37 : Class := { plain "char" none with kind := .primitive 'C', accessFlags := 0x411 }
def k38 : Class := { plain "[C" (some 0) with kind := .array 37 .char, interfaces := #[34, 2], accessFlags := 1041 }

def k39 : Class := { plain "int" none with kind := .primitive 'I', accessFlags := 0x411 }
def k40 : Class := { plain "[I" (some 0) with kind := .array 39 .int, interfaces := #[34, 2], accessFlags := 1041 }

def k41 : Class := { plain "[Ljava/lang/Object;" (some 0) with kind := .array 0 (.object "java/lang/Object"), interfaces := #[34, 2], accessFlags := 1041 }

def k42 : Class := { plain "[Ljava/lang/StackTraceElement;" (some 0) with kind := .array 33 (.object "java/lang/StackTraceElement"), interfaces := #[34, 2], accessFlags := 1041 }

def k43 : Class := { plain "[Ljava/lang/Throwable;" (some 0) with kind := .array 8 (.object "java/lang/Throwable"), interfaces := #[34, 2], accessFlags := 1041 }

def heap : Heap := #[{ cls := 7, slots := #[.long 0, .int 1, .null, .int 0, .null, .int 0, .int 0], vm := .statics 7 },
  { cls := 8, slots := #[.long 0, .ref 6, .ref 7, .null, .null, .null, .null, .ref 8, .int 1], vm := .statics 8 },
  { cls := 12, slots := #[.ref 5, .null, .null, .null, .null, .null, .null, .null], vm := .statics 12 },
  { cls := 22, slots := #[.null, .null, .null], vm := .statics 22 },
  { cls := 24, slots := #[.int 0, .int 0, .int 0, .int 0, .int 0, .int 0, .int 0, .int 0, .null, .null, .ref 7, .null], vm := .statics 24 },
  { cls := 12, slots := #[.null, .int 0, .int 0], vm := .none },
  { cls := 42, slots := #[], vm := .none },
  { cls := 32, slots := #[.int 0], vm := .none },
  { cls := 43, slots := #[], vm := .none }]
def classes : Array Class := #[k0, k1, k2, k3, k4, k5, k6, k7, k8, k9, k10, k11, k12, k13, k14, k15, k16, k17, k18, k19, k20, k21, k22, k23, k24, k25, k26, k27, k28, k29, k30, k31, k32, k33, k34, k35, k36, k37, k38, k39, k40, k41, k42, k43]
def interned : List (Array UInt16 × Addr) := []
def slotsUsed : Nat := 43
def theMethod : MethodId := ⟨1, 1⟩
def args0 : Array Value := #[.int 1, .int 1, .int 1, .int 1]
def aboutOver (below : List Frame) : State where
  vm := { classes := classes, interned := interned.toArray }
  heap := heap
  slotsUsed := slotsUsed
  threads := #[{ frames := .invoking theMethod args0 :: below }]
def below0 : List Frame := [.native { method := ⟨0, 0⟩, args := #[] }]
def about1 : State := aboutOver below0
def p0 : Program := .bare "" "" ""
def e0 : Env := launch0.env 0 0 0
theorem w_frames : about1.frames = Frame.invoking theMethod args0 :: below0 := rfl
theorem w_args : argsFit about1.vm theMethod args0 = true := by decide +kernel
theorem w_heap : heapFits about1 = true := by decide +kernel
theorem w_runnable : about1.curStatus? = some .runnable := by decide +kernel
theorem w_alone : about1.alone = true := by decide +kernel
theorem w_named : about1.methodNamed? x = some theMethod := by decide +kernel
theorem w_hears : about1.hears theMethod below0 = true := by decide +kernel
theorem w_ripe : about1.ripe theMethod args0 below0 = true := by decide +kernel
theorem w_running : about1.status = .running := rfl
theorem w_room : about1.hasRoom e0.platform room_1 = true :=
  launch0.hasRoom_least _ room_1 (by decide +kernel) (by decide +kernel) (by decide +kernel) (by decide +kernel) (by decide +kernel) (by decide +kernel)
theorem allAtoms_all (ts : List Jvm.Cond) (a : Array Jvm.Value) (st : Jvm.State) : (allAtoms ts).before a st = ts.all (fun c => c.before a st) := by
  induction ts with
  | nil => rfl
  | cons c t ih =>
    show (Jvm.Cond.and c (allAtoms t)).before a st = _
    rw [Jvm.Cond.before_and, ih, List.all_cons]
def words1 : List Jvm.Cond := Jvm.Cond.code x code maxLocals ret :: tables_1
theorem code_word {y : MethodName} {bytes : ByteArray} {mx : Nat} {rt : Option FieldType} {a : Array Value} {s : State} {m : MethodId} {meth : Method} {c : Code} (h1 : s.methodNamed? y = some m) (h2 : s.vm.method? m = some meth) (h3 : meth.code = some c) (h4 : c.code = bytes)
    (h5 : (c.maxLocals == mx && c.exceptionTable.isEmpty && decide (c.maxStack ≤ mostOperands) && decide (meth.sig.returnType = rt) && !meth.locks && decide (parseMethodDescriptor y.desc = some meth.sig)) = true) : (Jvm.Cond.code y bytes mx rt).before a s = true := by
  simp only [Bool.and_eq_true, beq_iff_eq, Bool.not_eq_true', decide_eq_true_eq] at h5
  obtain ⟨⟨⟨⟨⟨g1, g2⟩, g3⟩, g4⟩, g5⟩, g6⟩ := h5
  simp [Cond.before, Cond.holds, Cond.value, h1, h2, h3, h4, g1, g2, g3, g4, g5, g6]
def isCode : Jvm.Cond → Bool
  | .code _ _ _ _ => true
  | _ => false
theorem all_split {L : List Jvm.Cond} {P : Jvm.Cond → Bool} (h1 : L.all (fun c => isCode c || P c) = true) (h2 : ∀ c ∈ L.filter isCode, P c = true) : L.all P = true := by
  refine List.all_eq_true.mpr fun c hc => ?_
  have h := List.all_eq_true.mp h1 c hc
  rcases Bool.eq_false_or_eq_true (isCode c) with hi | hi
  · exact h2 c (List.mem_filter.mpr ⟨hc, hi⟩)
  · simpa [hi] using h
theorem w_c0 : (Jvm.Cond.code x code maxLocals ret).before args0 about1 = true := code_word (m := ⟨1, 1⟩) (meth := k1m1) (c := k1c1) (by decide +kernel) rfl rfl rfl (by decide +kernel)
theorem w_c1 : (Jvm.Cond.code ⟨"java/lang/String", "<init>", "([C)V"⟩ jdk_42_method_3_code 2 none).before args0 about1 = true := code_word (m := ⟨7, 1⟩) (meth := k7m1) (c := k7c1) (by decide +kernel) rfl rfl rfl (by decide +kernel)
theorem w_c2 : (Jvm.Cond.code ⟨"java/lang/String", "<init>", "([CIILjava/lang/Void;)V"⟩ jdk_42_method_149_code 6 none).before args0 about1 = true := code_word (m := ⟨7, 7⟩) (meth := k7m7) (c := k7c7) (by decide +kernel) rfl rfl rfl (by decide +kernel)
theorem w_c3 : (Jvm.Cond.code ⟨"java/lang/Object", "<init>", "()V"⟩ object_method_1_code 1 none).before args0 about1 = true := code_word (m := ⟨0, 0⟩) (meth := k0m0) (c := k0c0) (by decide +kernel) rfl rfl rfl (by decide +kernel)
theorem w_c4 : (Jvm.Cond.code ⟨"com/example/webhooks_to_ledger/webhookstoledger/UnbookableException", "unmappedType", "(Ljava/lang/String;)Lcom/example/webhooks_to_ledger/webhookstoledger/UnbookableException;"⟩ prog_14_method_3_code 1 (some (.object "com/example/webhooks_to_ledger/webhookstoledger/UnbookableException"))).before args0 about1 = true := code_word (m := ⟨10, 1⟩) (meth := k10m1) (c := k10c1) (by decide +kernel) rfl rfl rfl (by decide +kernel)
theorem w_c5 : (Jvm.Cond.code ⟨"java/lang/StringBuilder", "<init>", "()V"⟩ jdk_67_method_1_code 1 none).before args0 about1 = true := code_word (m := ⟨15, 0⟩) (meth := k15m0) (c := k15c0) (by decide +kernel) rfl rfl rfl (by decide +kernel)
theorem w_c6 : (Jvm.Cond.code ⟨"java/lang/AbstractStringBuilder", "<init>", "(I)V"⟩ jdk_68_method_2_code 2 none).before args0 about1 = true := code_word (m := ⟨14, 1⟩) (meth := k14m1) (c := k14c1) (by decide +kernel) rfl rfl rfl (by decide +kernel)
theorem w_c7 : (Jvm.Cond.code ⟨"java/lang/StringBuilder", "append", "(Ljava/lang/String;)Ljava/lang/StringBuilder;"⟩ jdk_67_method_7_code 2 (some (.object "java/lang/StringBuilder"))).before args0 about1 = true := code_word (m := ⟨15, 1⟩) (meth := k15m1) (c := k15c1) (by decide +kernel) rfl rfl rfl (by decide +kernel)
theorem w_c8 : (Jvm.Cond.code ⟨"java/lang/AbstractStringBuilder", "append", "(Ljava/lang/String;)Ljava/lang/AbstractStringBuilder;"⟩ jdk_68_method_22_code 3 (some (.object "java/lang/AbstractStringBuilder"))).before args0 about1 = true := code_word (m := ⟨14, 5⟩) (meth := k14m5) (c := k14c5) (by decide +kernel) rfl rfl rfl (by decide +kernel)
theorem w_c9 : (Jvm.Cond.code ⟨"java/lang/String", "length", "()I"⟩ jdk_42_method_54_code 1 (some .int)).before args0 about1 = true := code_word (m := ⟨7, 3⟩) (meth := k7m3) (c := k7c3) (by decide +kernel) rfl rfl rfl (by decide +kernel)
theorem w_c10 : (Jvm.Cond.code ⟨"java/lang/String", "coder", "()B"⟩ jdk_42_method_152_code 1 (some .byte)).before args0 about1 = true := code_word (m := ⟨7, 10⟩) (meth := k7m10) (c := k7c10) (by decide +kernel) rfl rfl rfl (by decide +kernel)
theorem w_c11 : (Jvm.Cond.code ⟨"java/lang/AbstractStringBuilder", "ensureCapacityInternal", "(I)V"⟩ jdk_68_method_9_code 3 none).before args0 about1 = true := code_word (m := ⟨14, 3⟩) (meth := k14m3) (c := k14c3) (by decide +kernel) rfl rfl rfl (by decide +kernel)
theorem w_c12 : (Jvm.Cond.code ⟨"java/lang/AbstractStringBuilder", "putStringAt", "(ILjava/lang/String;)V"⟩ jdk_68_method_73_code 3 none).before args0 about1 = true := code_word (m := ⟨14, 9⟩) (meth := k14m9) (c := k14c9) (by decide +kernel) rfl rfl rfl (by decide +kernel)
theorem w_c13 : (Jvm.Cond.code ⟨"java/lang/AbstractStringBuilder", "inflateIfNeededFor", "(Ljava/lang/String;)V"⟩ jdk_68_method_71_code 2 none).before args0 about1 = true := code_word (m := ⟨14, 8⟩) (meth := k14m8) (c := k14c8) (by decide +kernel) rfl rfl rfl (by decide +kernel)
theorem w_c14 : (Jvm.Cond.code ⟨"java/lang/String", "getBytes", "([BIB)V"⟩ jdk_42_method_147_code 4 none).before args0 about1 = true := code_word (m := ⟨7, 6⟩) (meth := k7m6) (c := k7c6) (by decide +kernel) rfl rfl rfl (by decide +kernel)
theorem w_c15 : (Jvm.Cond.code ⟨"java/lang/AbstractStringBuilder", "newCapacity", "(I)I"⟩ jdk_68_method_10_code 6 (some .int)).before args0 about1 = true := code_word (m := ⟨14, 4⟩) (meth := k14m4) (c := k14c4) (by decide +kernel) rfl rfl rfl (by decide +kernel)
theorem w_c16 : (Jvm.Cond.code ⟨"jdk/internal/util/ArraysSupport", "newLength", "(III)I"⟩ jdk_48_method_27_code 4 (some .int)).before args0 about1 = true := code_word (m := ⟨17, 1⟩) (meth := k17m1) (c := k17c1) (by decide +kernel) rfl rfl rfl (by decide +kernel)
theorem w_c17 : (Jvm.Cond.code ⟨"java/lang/Math", "max", "(II)I"⟩ jdk_29_method_65_code 2 (some .int)).before args0 about1 = true := code_word (m := ⟨18, 1⟩) (meth := k18m1) (c := k18c1) (by decide +kernel) rfl rfl rfl (by decide +kernel)
theorem w_c18 : (Jvm.Cond.code ⟨"java/util/Arrays", "copyOf", "([BI)[B"⟩ jdk_65_method_121_code 3 (some (.array .byte))).before args0 about1 = true := code_word (m := ⟨19, 1⟩) (meth := k19m1) (c := k19c1) (by decide +kernel) rfl rfl rfl (by decide +kernel)
theorem w_c19 : (Jvm.Cond.code ⟨"java/lang/Math", "min", "(II)I"⟩ jdk_29_method_69_code 2 (some .int)).before args0 about1 = true := code_word (m := ⟨18, 2⟩) (meth := k18m2) (c := k18c2) (by decide +kernel) rfl rfl rfl (by decide +kernel)
theorem w_c20 : (Jvm.Cond.code ⟨"java/lang/StringBuilder", "toString", "()Ljava/lang/String;"⟩ jdk_67_method_42_code 1 (some (.object "java/lang/String"))).before args0 about1 = true := code_word (m := ⟨15, 2⟩) (meth := k15m2) (c := k15c2) (by decide +kernel) rfl rfl rfl (by decide +kernel)
theorem w_c21 : (Jvm.Cond.code ⟨"java/lang/String", "<init>", "(Ljava/lang/StringBuilder;)V"⟩ jdk_42_method_53_code 2 none).before args0 about1 = true := code_word (m := ⟨7, 2⟩) (meth := k7m2) (c := k7c2) (by decide +kernel) rfl rfl rfl (by decide +kernel)
theorem w_c22 : (Jvm.Cond.code ⟨"java/lang/String", "<init>", "(Ljava/lang/AbstractStringBuilder;Ljava/lang/Void;)V"⟩ jdk_42_method_150_code 5 none).before args0 about1 = true := code_word (m := ⟨7, 8⟩) (meth := k7m8) (c := k7c8) (by decide +kernel) rfl rfl rfl (by decide +kernel)
theorem w_c23 : (Jvm.Cond.code ⟨"java/lang/AbstractStringBuilder", "getValue", "()[B"⟩ jdk_68_method_64_code 1 (some (.array .byte))).before args0 about1 = true := code_word (m := ⟨14, 6⟩) (meth := k14m6) (c := k14c6) (by decide +kernel) rfl rfl rfl (by decide +kernel)
theorem w_c24 : (Jvm.Cond.code ⟨"java/lang/StringBuilder", "length", "()I"⟩ jdk_67_method_93_code 1 (some .int)).before args0 about1 = true := code_word (m := ⟨15, 3⟩) (meth := k15m3) (c := k15c3) (by decide +kernel) rfl rfl rfl (by decide +kernel)
theorem w_c25 : (Jvm.Cond.code ⟨"java/lang/AbstractStringBuilder", "length", "()I"⟩ jdk_68_method_6_code 1 (some .int)).before args0 about1 = true := code_word (m := ⟨14, 2⟩) (meth := k14m2) (c := k14c2) (by decide +kernel) rfl rfl rfl (by decide +kernel)
theorem w_c26 : (Jvm.Cond.code ⟨"java/lang/AbstractStringBuilder", "isLatin1", "()Z"⟩ jdk_68_method_68_code 1 (some .boolean)).before args0 about1 = true := code_word (m := ⟨14, 7⟩) (meth := k14m7) (c := k14c7) (by decide +kernel) rfl rfl rfl (by decide +kernel)
theorem w_c27 : (Jvm.Cond.code ⟨"java/util/Arrays", "copyOfRange", "([BII)[B"⟩ jdk_65_method_132_code 3 (some (.array .byte))).before args0 about1 = true := code_word (m := ⟨19, 3⟩) (meth := k19m3) (c := k19c3) (by decide +kernel) rfl rfl rfl (by decide +kernel)
theorem w_c28 : (Jvm.Cond.code ⟨"java/util/Arrays", "copyOfRangeByte", "([BII)[B"⟩ jdk_65_method_133_code 5 (some (.array .byte))).before args0 about1 = true := code_word (m := ⟨19, 4⟩) (meth := k19m4) (c := k19c4) (by decide +kernel) rfl rfl rfl (by decide +kernel)
theorem w_c29 : (Jvm.Cond.code ⟨"java/util/Arrays", "checkLength", "(II)V"⟩ jdk_65_method_131_code 2 none).before args0 about1 = true := code_word (m := ⟨19, 2⟩) (meth := k19m2) (c := k19c2) (by decide +kernel) rfl rfl rfl (by decide +kernel)
theorem w_c30 : (Jvm.Cond.code ⟨"com/example/webhooks_to_ledger/webhookstoledger/UnbookableException", "<init>", "(Lcom/example/webhooks_to_ledger/webhookstoledger/HoldReason;Ljava/lang/String;)V"⟩ prog_14_method_1_code 3 none).before args0 about1 = true := code_word (m := ⟨10, 0⟩) (meth := k10m0) (c := k10c0) (by decide +kernel) rfl rfl rfl (by decide +kernel)
theorem w_c31 : (Jvm.Cond.code ⟨"java/lang/Exception", "<init>", "(Ljava/lang/String;)V"⟩ jdk_59_method_2_code 2 none).before args0 about1 = true := code_word (m := ⟨9, 1⟩) (meth := k9m1) (c := k9c1) (by decide +kernel) rfl rfl rfl (by decide +kernel)
theorem w_c32 : (Jvm.Cond.code ⟨"java/lang/Throwable", "<init>", "(Ljava/lang/String;)V"⟩ jdk_78_method_2_code 2 none).before args0 about1 = true := code_word (m := ⟨8, 1⟩) (meth := k8m1) (c := k8c1) (by decide +kernel) rfl rfl rfl (by decide +kernel)
theorem w_c33 : (Jvm.Cond.code ⟨"java/lang/Throwable", "<init>", "()V"⟩ jdk_78_method_1_code 1 none).before args0 about1 = true := code_word (m := ⟨8, 0⟩) (meth := k8m0) (c := k8c0) (by decide +kernel) rfl rfl rfl (by decide +kernel)
theorem w_c34 : (Jvm.Cond.code ⟨"java/util/Objects", "requireNonNull", "(Ljava/lang/Object;Ljava/lang/String;)Ljava/lang/Object;"⟩ jdk_31_method_11_code 2 (some (.object "java/lang/Object"))).before args0 about1 = true := code_word (m := ⟨20, 1⟩) (meth := k20m1) (c := k20c1) (by decide +kernel) rfl rfl rfl (by decide +kernel)
theorem w_c35 : (Jvm.Cond.code ⟨"com/example/webhooks_to_ledger/webhookstoledger/UnbookableException", "reason", "()Lcom/example/webhooks_to_ledger/webhookstoledger/HoldReason;"⟩ prog_14_method_4_code 1 (some (.object "com/example/webhooks_to_ledger/webhookstoledger/HoldReason"))).before args0 about1 = true := code_word (m := ⟨10, 2⟩) (meth := k10m2) (c := k10c2) (by decide +kernel) rfl rfl rfl (by decide +kernel)
theorem w_c36 : (Jvm.Cond.code ⟨"java/lang/Throwable", "getMessage", "()Ljava/lang/String;"⟩ jdk_78_method_6_code 1 (some (.object "java/lang/String"))).before args0 about1 = true := code_word (m := ⟨8, 2⟩) (meth := k8m2) (c := k8c2) (by decide +kernel) rfl rfl rfl (by decide +kernel)
theorem w_c37 : (Jvm.Cond.code ⟨"com/example/webhooks_to_ledger/webhookstoledger/UnbookableExceptionUnmappedTypePinLaw", "prefixOk", "(Ljava/lang/String;)Z"⟩ method_3_code 1 (some .boolean)).before args0 about1 = true := code_word (m := ⟨1, 2⟩) (meth := k1m2) (c := k1c2) (by decide +kernel) rfl rfl rfl (by decide +kernel)
theorem w_c38 : (Jvm.Cond.code ⟨"java/lang/String", "charAt", "(I)C"⟩ jdk_42_method_56_code 2 (some .char)).before args0 about1 = true := code_word (m := ⟨7, 4⟩) (meth := k7m4) (c := k7c4) (by decide +kernel) rfl rfl rfl (by decide +kernel)
theorem w_c39 : (Jvm.Cond.code ⟨"java/lang/String", "isLatin1", "()Z"⟩ jdk_42_method_154_code 1 (some .boolean)).before args0 about1 = true := code_word (m := ⟨7, 11⟩) (meth := k7m11) (c := k7c11) (by decide +kernel) rfl rfl rfl (by decide +kernel)
theorem w_c40 : (Jvm.Cond.code ⟨"java/lang/StringLatin1", "charAt", "([BI)C"⟩ jdk_43_method_2_code 2 (some .char)).before args0 about1 = true := code_word (m := ⟨21, 1⟩) (meth := k21m1) (c := k21c1) (by decide +kernel) rfl rfl rfl (by decide +kernel)
theorem w_c41 : (Jvm.Cond.code ⟨"java/lang/String", "checkIndex", "(II)V"⟩ jdk_42_method_155_code 2 none).before args0 about1 = true := code_word (m := ⟨7, 12⟩) (meth := k7m12) (c := k7c12) (by decide +kernel) rfl rfl rfl (by decide +kernel)
theorem w_c42 : (Jvm.Cond.code ⟨"jdk/internal/util/Preconditions", "checkIndex", "(IILjava/util/function/BiFunction;)I"⟩ jdk_41_method_11_code 3 (some .int)).before args0 about1 = true := code_word (m := ⟨22, 1⟩) (meth := k22m1) (c := k22c1) (by decide +kernel) rfl rfl rfl (by decide +kernel)
theorem w_c43 : (Jvm.Cond.code ⟨"com/example/webhooks_to_ledger/webhookstoledger/UnbookableExceptionUnmappedTypePinLaw", "suffixOk", "(Ljava/lang/String;I)Z"⟩ method_4_code 2 (some .boolean)).before args0 about1 = true := code_word (m := ⟨1, 3⟩) (meth := k1m3) (c := k1c3) (by decide +kernel) rfl rfl rfl (by decide +kernel)
theorem w_c44 : (Jvm.Cond.code ⟨"java/lang/StringUTF16", "compress", "([CII)[B"⟩ jdk_52_method_16_code 6 (some (.array .byte))).before args0 about1 = true := code_word (m := ⟨23, 2⟩) (meth := k23m2) (c := k23c2) (by decide +kernel) rfl rfl rfl (by decide +kernel)
theorem w_c45 : (Jvm.Cond.code ⟨"java/lang/StringUTF16", "compress", "([CI[BII)I"⟩ jdk_52_method_21_code 7 (some .int)).before args0 about1 = true := code_word (m := ⟨23, 3⟩) (meth := k23m3) (c := k23c3) (by decide +kernel) rfl rfl rfl (by decide +kernel)
theorem w_c46 : (Jvm.Cond.code ⟨"java/lang/StringUTF16", "coderFromArrayLen", "([BI)B"⟩ jdk_52_method_15_code 2 (some .byte)).before args0 about1 = true := code_word (m := ⟨23, 1⟩) (meth := k23m1) (c := k23c1) (by decide +kernel) rfl rfl rfl (by decide +kernel)
theorem w_c47 : (Jvm.Cond.code ⟨"java/lang/String", "valueOf", "(C)Ljava/lang/String;"⟩ jdk_42_method_139_code 1 (some (.object "java/lang/String"))).before args0 about1 = true := code_word (m := ⟨7, 5⟩) (meth := k7m5) (c := k7c5) (by decide +kernel) rfl rfl rfl (by decide +kernel)
theorem w_c48 : (Jvm.Cond.code ⟨"java/lang/StringLatin1", "canEncode", "(C)Z"⟩ jdk_43_method_3_code 1 (some .boolean)).before args0 about1 = true := code_word (m := ⟨21, 2⟩) (meth := k21m2) (c := k21c2) (by decide +kernel) rfl rfl rfl (by decide +kernel)
theorem w_c49 : (Jvm.Cond.code ⟨"java/lang/StringLatin1", "toBytes", "(C)[B"⟩ jdk_43_method_46_code 1 (some (.array .byte))).before args0 about1 = true := code_word (m := ⟨21, 3⟩) (meth := k21m3) (c := k21c3) (by decide +kernel) rfl rfl rfl (by decide +kernel)
theorem w_c50 : (Jvm.Cond.code ⟨"java/lang/String", "<init>", "([BB)V"⟩ jdk_42_method_151_code 3 none).before args0 about1 = true := code_word (m := ⟨7, 9⟩) (meth := k7m9) (c := k7c9) (by decide +kernel) rfl rfl rfl (by decide +kernel)
def codes1 : List Jvm.Cond := [Jvm.Cond.code x code maxLocals ret, .code ⟨"java/lang/String", "<init>", "([C)V"⟩ jdk_42_method_3_code 2 none, .code ⟨"java/lang/String", "<init>", "([CIILjava/lang/Void;)V"⟩ jdk_42_method_149_code 6 none, .code ⟨"java/lang/Object", "<init>", "()V"⟩ object_method_1_code 1 none, .code ⟨"com/example/webhooks_to_ledger/webhookstoledger/UnbookableException", "unmappedType", "(Ljava/lang/String;)Lcom/example/webhooks_to_ledger/webhookstoledger/UnbookableException;"⟩ prog_14_method_3_code 1 (some (.object "com/example/webhooks_to_ledger/webhookstoledger/UnbookableException")), .code ⟨"java/lang/StringBuilder", "<init>", "()V"⟩ jdk_67_method_1_code 1 none, .code ⟨"java/lang/AbstractStringBuilder", "<init>", "(I)V"⟩ jdk_68_method_2_code 2 none, .code ⟨"java/lang/StringBuilder", "append", "(Ljava/lang/String;)Ljava/lang/StringBuilder;"⟩ jdk_67_method_7_code 2 (some (.object "java/lang/StringBuilder")), .code ⟨"java/lang/AbstractStringBuilder", "append", "(Ljava/lang/String;)Ljava/lang/AbstractStringBuilder;"⟩ jdk_68_method_22_code 3 (some (.object "java/lang/AbstractStringBuilder")), .code ⟨"java/lang/String", "length", "()I"⟩ jdk_42_method_54_code 1 (some .int), .code ⟨"java/lang/String", "coder", "()B"⟩ jdk_42_method_152_code 1 (some .byte), .code ⟨"java/lang/AbstractStringBuilder", "ensureCapacityInternal", "(I)V"⟩ jdk_68_method_9_code 3 none, .code ⟨"java/lang/AbstractStringBuilder", "putStringAt", "(ILjava/lang/String;)V"⟩ jdk_68_method_73_code 3 none, .code ⟨"java/lang/AbstractStringBuilder", "inflateIfNeededFor", "(Ljava/lang/String;)V"⟩ jdk_68_method_71_code 2 none, .code ⟨"java/lang/String", "getBytes", "([BIB)V"⟩ jdk_42_method_147_code 4 none, .code ⟨"java/lang/AbstractStringBuilder", "newCapacity", "(I)I"⟩ jdk_68_method_10_code 6 (some .int), .code ⟨"jdk/internal/util/ArraysSupport", "newLength", "(III)I"⟩ jdk_48_method_27_code 4 (some .int), .code ⟨"java/lang/Math", "max", "(II)I"⟩ jdk_29_method_65_code 2 (some .int), .code ⟨"java/util/Arrays", "copyOf", "([BI)[B"⟩ jdk_65_method_121_code 3 (some (.array .byte)), .code ⟨"java/lang/Math", "min", "(II)I"⟩ jdk_29_method_69_code 2 (some .int), .code ⟨"java/lang/StringBuilder", "toString", "()Ljava/lang/String;"⟩ jdk_67_method_42_code 1 (some (.object "java/lang/String")), .code ⟨"java/lang/String", "<init>", "(Ljava/lang/StringBuilder;)V"⟩ jdk_42_method_53_code 2 none, .code ⟨"java/lang/String", "<init>", "(Ljava/lang/AbstractStringBuilder;Ljava/lang/Void;)V"⟩ jdk_42_method_150_code 5 none, .code ⟨"java/lang/AbstractStringBuilder", "getValue", "()[B"⟩ jdk_68_method_64_code 1 (some (.array .byte)), .code ⟨"java/lang/StringBuilder", "length", "()I"⟩ jdk_67_method_93_code 1 (some .int), .code ⟨"java/lang/AbstractStringBuilder", "length", "()I"⟩ jdk_68_method_6_code 1 (some .int), .code ⟨"java/lang/AbstractStringBuilder", "isLatin1", "()Z"⟩ jdk_68_method_68_code 1 (some .boolean), .code ⟨"java/util/Arrays", "copyOfRange", "([BII)[B"⟩ jdk_65_method_132_code 3 (some (.array .byte)), .code ⟨"java/util/Arrays", "copyOfRangeByte", "([BII)[B"⟩ jdk_65_method_133_code 5 (some (.array .byte)), .code ⟨"java/util/Arrays", "checkLength", "(II)V"⟩ jdk_65_method_131_code 2 none, .code ⟨"com/example/webhooks_to_ledger/webhookstoledger/UnbookableException", "<init>", "(Lcom/example/webhooks_to_ledger/webhookstoledger/HoldReason;Ljava/lang/String;)V"⟩ prog_14_method_1_code 3 none, .code ⟨"java/lang/Exception", "<init>", "(Ljava/lang/String;)V"⟩ jdk_59_method_2_code 2 none, .code ⟨"java/lang/Throwable", "<init>", "(Ljava/lang/String;)V"⟩ jdk_78_method_2_code 2 none, .code ⟨"java/lang/Throwable", "<init>", "()V"⟩ jdk_78_method_1_code 1 none, .code ⟨"java/util/Objects", "requireNonNull", "(Ljava/lang/Object;Ljava/lang/String;)Ljava/lang/Object;"⟩ jdk_31_method_11_code 2 (some (.object "java/lang/Object")), .code ⟨"com/example/webhooks_to_ledger/webhookstoledger/UnbookableException", "reason", "()Lcom/example/webhooks_to_ledger/webhookstoledger/HoldReason;"⟩ prog_14_method_4_code 1 (some (.object "com/example/webhooks_to_ledger/webhookstoledger/HoldReason")), .code ⟨"java/lang/Throwable", "getMessage", "()Ljava/lang/String;"⟩ jdk_78_method_6_code 1 (some (.object "java/lang/String")), .code ⟨"com/example/webhooks_to_ledger/webhookstoledger/UnbookableExceptionUnmappedTypePinLaw", "prefixOk", "(Ljava/lang/String;)Z"⟩ method_3_code 1 (some .boolean), .code ⟨"java/lang/String", "charAt", "(I)C"⟩ jdk_42_method_56_code 2 (some .char), .code ⟨"java/lang/String", "isLatin1", "()Z"⟩ jdk_42_method_154_code 1 (some .boolean), .code ⟨"java/lang/StringLatin1", "charAt", "([BI)C"⟩ jdk_43_method_2_code 2 (some .char), .code ⟨"java/lang/String", "checkIndex", "(II)V"⟩ jdk_42_method_155_code 2 none, .code ⟨"jdk/internal/util/Preconditions", "checkIndex", "(IILjava/util/function/BiFunction;)I"⟩ jdk_41_method_11_code 3 (some .int), .code ⟨"com/example/webhooks_to_ledger/webhookstoledger/UnbookableExceptionUnmappedTypePinLaw", "suffixOk", "(Ljava/lang/String;I)Z"⟩ method_4_code 2 (some .boolean), .code ⟨"java/lang/StringUTF16", "compress", "([CII)[B"⟩ jdk_52_method_16_code 6 (some (.array .byte)), .code ⟨"java/lang/StringUTF16", "compress", "([CI[BII)I"⟩ jdk_52_method_21_code 7 (some .int), .code ⟨"java/lang/StringUTF16", "coderFromArrayLen", "([BI)B"⟩ jdk_52_method_15_code 2 (some .byte), .code ⟨"java/lang/String", "valueOf", "(C)Ljava/lang/String;"⟩ jdk_42_method_139_code 1 (some (.object "java/lang/String")), .code ⟨"java/lang/StringLatin1", "canEncode", "(C)Z"⟩ jdk_43_method_3_code 1 (some .boolean), .code ⟨"java/lang/StringLatin1", "toBytes", "(C)[B"⟩ jdk_43_method_46_code 1 (some (.array .byte)), .code ⟨"java/lang/String", "<init>", "([BB)V"⟩ jdk_42_method_151_code 3 none]
theorem codes_eq : words1.filter isCode = codes1 := rfl
theorem w_codes : ∀ c ∈ words1.filter isCode, c.before args0 about1 = true := by
  rw [codes_eq]
  intro c hc
  simp only [codes1, List.mem_cons, List.not_mem_nil, or_false] at hc
  rcases hc with rfl | rfl | rfl | rfl | rfl | rfl | rfl | rfl | rfl | rfl | rfl | rfl | rfl | rfl | rfl | rfl | rfl | rfl | rfl | rfl | rfl | rfl | rfl | rfl | rfl | rfl | rfl | rfl | rfl | rfl | rfl | rfl | rfl | rfl | rfl | rfl | rfl | rfl | rfl | rfl | rfl | rfl | rfl | rfl | rfl | rfl | rfl | rfl | rfl | rfl | rfl
  · exact w_c0
  · exact w_c1
  · exact w_c2
  · exact w_c3
  · exact w_c4
  · exact w_c5
  · exact w_c6
  · exact w_c7
  · exact w_c8
  · exact w_c9
  · exact w_c10
  · exact w_c11
  · exact w_c12
  · exact w_c13
  · exact w_c14
  · exact w_c15
  · exact w_c16
  · exact w_c17
  · exact w_c18
  · exact w_c19
  · exact w_c20
  · exact w_c21
  · exact w_c22
  · exact w_c23
  · exact w_c24
  · exact w_c25
  · exact w_c26
  · exact w_c27
  · exact w_c28
  · exact w_c29
  · exact w_c30
  · exact w_c31
  · exact w_c32
  · exact w_c33
  · exact w_c34
  · exact w_c35
  · exact w_c36
  · exact w_c37
  · exact w_c38
  · exact w_c39
  · exact w_c40
  · exact w_c41
  · exact w_c42
  · exact w_c43
  · exact w_c44
  · exact w_c45
  · exact w_c46
  · exact w_c47
  · exact w_c48
  · exact w_c49
  · exact w_c50
theorem w_t1 : (words1.take 24).all (fun c => isCode c || c.before args0 about1) = true := by decide +kernel
theorem w_t2 : ((words1.drop 24).take 24).all (fun c => isCode c || c.before args0 about1) = true := by decide +kernel
theorem w_t3 : (((words1.drop 24).drop 24).take 24).all (fun c => isCode c || c.before args0 about1) = true := by decide +kernel
theorem w_t4 : ((((words1.drop 24).drop 24).drop 24).take 24).all (fun c => isCode c || c.before args0 about1) = true := by decide +kernel
theorem w_t5 : (((((words1.drop 24).drop 24).drop 24).drop 24).take 24).all (fun c => isCode c || c.before args0 about1) = true := by decide +kernel
theorem w_t6 : ((((((words1.drop 24).drop 24).drop 24).drop 24).drop 24).take 24).all (fun c => isCode c || c.before args0 about1) = true := by decide +kernel
theorem w_t7 : (((((((words1.drop 24).drop 24).drop 24).drop 24).drop 24).drop 24).take 24).all (fun c => isCode c || c.before args0 about1) = true := by decide +kernel
theorem w_t8 : ((((((((words1.drop 24).drop 24).drop 24).drop 24).drop 24).drop 24).drop 24).take 24).all (fun c => isCode c || c.before args0 about1) = true := by decide +kernel
theorem w_t9 : (((((((((words1.drop 24).drop 24).drop 24).drop 24).drop 24).drop 24).drop 24).drop 24).take 24).all (fun c => isCode c || c.before args0 about1) = true := by decide +kernel
theorem w_t10 : ((((((((((words1.drop 24).drop 24).drop 24).drop 24).drop 24).drop 24).drop 24).drop 24).drop 24).take 24).all (fun c => isCode c || c.before args0 about1) = true := by decide +kernel
theorem w_t11 : (((((((((((words1.drop 24).drop 24).drop 24).drop 24).drop 24).drop 24).drop 24).drop 24).drop 24).drop 24).take 24).all (fun c => isCode c || c.before args0 about1) = true := by decide +kernel
theorem w_t12 : ((((((((((((words1.drop 24).drop 24).drop 24).drop 24).drop 24).drop 24).drop 24).drop 24).drop 24).drop 24).drop 24).take 24).all (fun c => isCode c || c.before args0 about1) = true := by decide +kernel
theorem w_t13 : ((((((((((((words1.drop 24).drop 24).drop 24).drop 24).drop 24).drop 24).drop 24).drop 24).drop 24).drop 24).drop 24).drop 24).all (fun c => isCode c || c.before args0 about1) = true := by decide +kernel
theorem w_tables : (allAtoms (Jvm.Cond.code x code maxLocals ret :: tables_1)).before args0 about1 = true := by
  rw [allAtoms_all]
  show words1.all (fun c => c.before args0 about1) = true
  refine all_split ?_ w_codes
  rw [← List.take_append_drop 24 words1, List.all_append, w_t1, ← List.take_append_drop 24 (words1.drop 24), List.all_append, w_t2, ← List.take_append_drop 24 ((words1.drop 24).drop 24), List.all_append, w_t3, ← List.take_append_drop 24 (((words1.drop 24).drop 24).drop 24), List.all_append, w_t4, ← List.take_append_drop 24 ((((words1.drop 24).drop 24).drop 24).drop 24), List.all_append, w_t5, ← List.take_append_drop 24 (((((words1.drop 24).drop 24).drop 24).drop 24).drop 24), List.all_append, w_t6, ← List.take_append_drop 24 ((((((words1.drop 24).drop 24).drop 24).drop 24).drop 24).drop 24), List.all_append, w_t7, ← List.take_append_drop 24 (((((((words1.drop 24).drop 24).drop 24).drop 24).drop 24).drop 24).drop 24), List.all_append, w_t8, ← List.take_append_drop 24 ((((((((words1.drop 24).drop 24).drop 24).drop 24).drop 24).drop 24).drop 24).drop 24), List.all_append, w_t9, ← List.take_append_drop 24 (((((((((words1.drop 24).drop 24).drop 24).drop 24).drop 24).drop 24).drop 24).drop 24).drop 24), List.all_append, w_t10, ← List.take_append_drop 24 ((((((((((words1.drop 24).drop 24).drop 24).drop 24).drop 24).drop 24).drop 24).drop 24).drop 24).drop 24), List.all_append, w_t11, ← List.take_append_drop 24 (((((((((((words1.drop 24).drop 24).drop 24).drop 24).drop 24).drop 24).drop 24).drop 24).drop 24).drop 24).drop 24), List.all_append, w_t12, w_t13]
  rfl
theorem w_rest : rest_1_c.before args0 about1 = true := by decide +kernel
theorem w_case : (Jvm.Cond.and given_1 narrow_1).before args0 about1 = true := by decide +kernel
theorem w_consts : constsHeld consts_1 about1 := Jvm.Lit.constsHeldB_iff.mp (by decide +kernel)
theorem w_applies : (headSpec (Jvm.Cond.code x code maxLocals ret :: tables_1) room_1).applies x e0.platform about1 = true :=
  (Spec.applies_iff w_frames).mpr ⟨w_running, w_runnable, w_alone, w_named, w_hears, w_ripe, w_room, w_tables⟩
theorem atStart : AtStart classFile x code maxLocals ret World_1 tables_1 room_1 Calls_1 rest_1 Pre_1 launch0 p0 e0 about1 theMethod args0 below0 :=
  ⟨lists_1, trivial, launch0.admits_env _ _ _, launch0.least_env, fairChoices_fair.cas, fairChoices_fair.clock, w_frames, w_args, w_heap, w_applies, ⟨(by decide +kernel : framesKnown about1 = true), ⟨(by decide +kernel : tablesKnown about1 = true), ⟨w_consts, trivial⟩⟩⟩, w_rest, w_case⟩
end start1
theorem witness_1 : WitnessClaimed_1 := ⟨start1.p0, start1.e0, start1.about1, start1.theMethod, start1.args0, start1.below0, start1.atStart⟩
end Jvm.Pilot.@@N@@
