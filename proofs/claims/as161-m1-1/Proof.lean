import JvmDerived
import JvmDerived.Pilot.@@N@@Statement
import JvmDerived.Pilot.@@N@@Code
set_option linter.unusedVariables false
set_option linter.unusedSimpArgs false
namespace Jvm.RoadKit
open Sem ClassFile Op Lib Jvm.Stand Jvm.Free Jvm.LawKit
section New
variable {p : Program} {l : Launch} {e : Env} {R : Room} {s : State} {m : MethodId} {args : Array Value} {below : List Frame} {meth : Method} {c : Code} {T : State} {locs : List Loc} {cells slots : Nat}
theorem retI (X : Stand p l e R s m args below meth c T locs cells slots) (hx : p.tables.exec = Jvm.exec) {pc : Nat} {Ls : Array Slot} {z : Int32} {rest : List Value} (hret : meth.sig.returnType = some .int) (hd : decode c.code pc = .ok (.ireturn, 1)) {fs : List Frame}
    (hl : ∀ (f : JFrame) (acts : List Action), f.method = m → f.locked = none → f.entered = [] → (doReturn e (T.setTop f) acts (some (.int z))).1 = T.setFrames fs) : Steps p.tables e below (T.setTop (mkF m pc Ls (.int z :: rest))) (T.setFrames fs) := by
  have hm' : T.vm.method? m = some meth := X.method'
  have hn : narrow .int (.int z) = .int z := rfl
  show Steps p.tables e below (T.setTop { method := m, pc := pc, locals := Ls, stack := _ :: rest, locked := none }) _
  jvm_step X.here [X.here.top, hx, hd, hm', hret, hn]
  first | (intro acts; rw [hl _ acts rfl rfl rfl]) | rw [hl _ _ rfl rfl rfl]
  exact Steps.refl _
end New
end Jvm.RoadKit
/- laws to paste: Road.backV, Road.lenW, Road.codOf (cut by pick.py; bodies as the Statement names them) -/
namespace Jvm.Pilot.@@N@@
namespace StrChars
open Jvm Sem ClassFile Op Lib Jvm.Stand Jvm.Free.XT Jvm.Free.ALB Jvm.Free.JM Jvm.Free
open Jvm.Lib.Cold (StaticIs)
/-- a char array whose places are chars -/
def Ch (a : Addr) (A : Cell) (U : State) : Prop := Arr .char a A U ∧ Typed .char A
theorem Ch.mv {a : Addr} {A : Cell} {U U' : State} (h : Ch a A U) (hal : U.vm.Alike U'.vm) (hh : U'.heap = U.heap) : Ch a A U' := ⟨h.1.mv hal hh, h.2⟩
theorem Ch.keep {a : Addr} {A : Cell} {U U' : State} (h : Ch a A U) (hal : U.vm.Alike U'.vm) (hk : U'.heap[a]? = some A) : Ch a A U' := ⟨h.1.keep hal hk, h.2⟩
/-- what place i of a char[]'s cell holds -/
def cv (A : Cell) (i : Nat) : Int32 := match A.slots[i]? with | some (.int x) => x | _ => 0
theorem Ch.get {a : Addr} {A : Cell} {U : State} (h : Ch a A U) {i : Nat} (hi : i < A.slots.size) : A.slots[i]? = some (.int (cv A i)) := by
  have e := Array.getElem?_eq_getElem hi
  have f := h.2 i _ e
  unfold cv; rw [e]
  generalize A.slots[i] = v at f
  cases v <;> simp [fits] at f ⊢
/-- the byte that i2b leaves of a char -/
def lo8 (x : Int32) : Int32 := x.toInt8.toInt32
theorem fits_lo8 (y : Int32) : fits .byte (.int (lo8 y)) = true := by
  have h1 := y.toInt8.le_toInt
  have h2 := y.toInt8.toInt_lt
  simp only [lo8, fits, Bool.and_eq_true, decide_eq_true_eq, Int32.le_iff_toInt_le, Int8.toInt_toInt32, show (-128 : Int32).toInt = -128 from by decide, show (127 : Int32).toInt = 127 from by decide]
  omega
/-- A' is A but that each place j of lo .. hi - 1 holds f j -/
def Laid (A A' : Cell) (lo hi : Nat) (f : Nat → Value) : Prop := A'.cls = A.cls ∧ A'.vm = A.vm ∧ A'.slots.size = A.slots.size ∧ ∀ i, A'.slots[i]? = if lo ≤ i ∧ i < hi then some (f i) else A.slots[i]?
theorem Laid.zero (A : Cell) (lo : Nat) (f : Nat → Value) : Laid A A lo (lo + 0) f := ⟨rfl, rfl, rfl, fun i => by rw [if_neg (by omega)]⟩
theorem Laid.step {A Ak : Cell} {lo k : Nat} {f : Nat → Value} {v : Value} (h : Laid A Ak lo k f) (hlo : lo ≤ k) (hk : k < Ak.slots.size) (hv : v = f k) : Laid A (Ak.setSlot k v) lo (k + 1) f := by
  refine ⟨h.1, h.2.1, by simpa [Cell.setSlot] using h.2.2.1, fun i => ?_⟩
  by_cases e : k = i
  · subst e; rw [Cell.slots_setSlot_self v hk, if_pos (by omega), hv]
  · rw [Cell.slots_setSlot_ne v e, h.2.2.2 i]
    by_cases q : lo ≤ i ∧ i < k
    · rw [if_pos q, if_pos (by omega)]
    · rw [if_neg q, if_neg (by omega)]
def U16 : String := "java/lang/StringUTF16"
namespace Cmp5
def yN : MethodName := ⟨"java/lang/StringUTF16", "compress", "([CI[BII)I"⟩
abbrev yB : ByteArray := jdk_52_method_21_code
theorem d0 : decode yB 0 = .ok (.iconst 0, 1) := by decide +kernel
theorem d1 : decode yB 1 = .ok (.istore 5, 2) := by decide +kernel
theorem d3 : decode yB 3 = .ok (.iload 5, 2) := by decide +kernel
theorem d5 : decode yB 5 = .ok (.iload 4, 2) := by decide +kernel
theorem d7 : decode yB 7 = .ok (.if_icmp (.ge) 37, 3) := by decide +kernel
theorem d10 : decode yB 10 = .ok (.aload_n 0, 1) := by decide +kernel
theorem d11 : decode yB 11 = .ok (.iload_n 1, 1) := by decide +kernel
theorem d12 : decode yB 12 = .ok (.caload, 1) := by decide +kernel
theorem d13 : decode yB 13 = .ok (.istore 6, 2) := by decide +kernel
theorem d15 : decode yB 15 = .ok (.iload 6, 2) := by decide +kernel
theorem d17 : decode yB 17 = .ok (.sipush 255, 3) := by decide +kernel
theorem d20 : decode yB 20 = .ok (.if_icmp (.le) 6, 3) := by decide +kernel
theorem d26 : decode yB 26 = .ok (.aload_n 2, 1) := by decide +kernel
theorem d27 : decode yB 27 = .ok (.iload_n 3, 1) := by decide +kernel
theorem d28 : decode yB 28 = .ok (.iload 6, 2) := by decide +kernel
theorem d30 : decode yB 30 = .ok (.i2b, 1) := by decide +kernel
theorem d31 : decode yB 31 = .ok (.bastore, 1) := by decide +kernel
theorem d32 : decode yB 32 = .ok (.iinc 1 1, 3) := by decide +kernel
theorem d35 : decode yB 35 = .ok (.iinc 3 1, 3) := by decide +kernel
theorem d38 : decode yB 38 = .ok (.iinc 5 1, 3) := by decide +kernel
theorem d41 : decode yB 41 = .ok (.goto (-38), 3) := by decide +kernel
theorem d44 : decode yB 44 = .ok (.iload 4, 2) := by decide +kernel
theorem d46 : decode yB 46 = .ok (.ireturn, 1) := by decide +kernel
def site : List Cond := []
def tab : Cond := tabOf yN yB 7 (some .int) site
def P (b : Addr) (A : Cell) (d : Addr) (B : Cell) (o q len : Nat) (args : Array Value) (s : State) : Prop := args = #[.ref b, .int (Int32.ofNat o), .ref d, .int (Int32.ofNat q), .int (Int32.ofNat len)] ∧ Ch b A s ∧ Arr .byte d B s ∧ b ≠ d ∧ o + len ≤ A.slots.size ∧ q + len ≤ B.slots.size ∧ ∀ i, i < len → ¬ 255 < cv A (o + i)
def E (b : Addr) (A : Cell) (d : Addr) (B : Cell) (o q len : Nat) (r : Option Value) (s u : State) : Prop := r = some (.int (Int32.ofNat len)) ∧ ∃ B', Put d B' s u ∧ Laid B B' q (q + len) (fun j => Value.int (lo8 (cv A (o + (j - q)))))
/-- no char of the range above 255: len; the places written hold each char's low byte -/
theorem law (l : Launch) (b : Addr) (A : Cell) (d : Addr) (B : Cell) (o q len : Nat) : Law l yN 5 5 0 0 yB 7 (some .int) site (P b A d B o q len) (E b A d B o q len) (copyLocs d q len) 0 0 := by
  refine Law.of_walk (plainFor_of_name (by decide +kernel)) (by decide +kernel) (by decide +kernel) (by decide) (fun _ _ h => by rw [h.1]; rfl) (fun _ U U' hal hh h => ⟨h.1, h.2.1.mv hal hh, h.2.2.1.mv hal hh, h.2.2.2⟩) (fun r U U' V V' h1 hal h2 h => ⟨h.1, h.2.elim fun B' q => ⟨B', q.1.mv h1 h2, q.2⟩⟩) ?_
  intro p e s m args below meth c s₁ X0 hexec hbytes hml hret hlk hnm hown hh0 W hP
  obtain ⟨rfl, hA, hB, hne, l1, l2, hp⟩ := hP
  have c1 : Steps p.tables e below (s₁.setTop (entryFrame m #[.ref b, .int (Int32.ofNat o), .ref d, .int (Int32.ofNat q), .int (Int32.ofNat len)] 7)) (s₁.setTop (mkF m 0 #[.val (.ref b), .val (.int (Int32.ofNat o)), .val (.ref d), .val (.int (Int32.ofNat q)), .val (.int (Int32.ofNat len)), .unset, .unset] [])) := entry rfl
  have hA0 := hA.1.mv X0.warmed.alike hh0
  have hB0 := hB.mv X0.warmed.alike hh0
  have a31 := hA.1.2.2.2
  have c2 : Steps p.tables e below (s₁.setTop (entryFrame m #[.ref b, .int (Int32.ofNat o), .ref d, .int (Int32.ofNat q), .int (Int32.ofNat len)] 7)) (s₁.setTop (mkF m 3 #[.val (.ref b), .val (.int (Int32.ofNat o)), .val (.ref d), .val (.int (Int32.ofNat q)), .val (.int (Int32.ofNat len)), .val (.int 0), .unset] [])) := c1.trans (by
    refine iconstV X0.here hexec rfl 0 (hb hbytes d0) (by decide) ?_
    refine XS.istore X0.here hexec rfl (hb hbytes d1) rfl rfl ?_
    exact Steps.refl _)
  have loop : ∀ (r i : Nat), i + r = len → ∀ (z : Slot), (z = .unset ∨ ∃ w, z = .val w ∧ w.category = 1) → ∀ (Tl : State) (Bk : Cell), Stand p l e { frames := 0, locals := 0, cells := 0, slots := 0 } s m #[.ref b, .int (Int32.ofNat o), .ref d, .int (Int32.ofNat q), .int (Int32.ofNat len)] below meth c Tl ([] ++ copyLocs d q i) 0 0 → Put d Bk s₁ Tl → Laid B Bk q (q + i) (fun j => Value.int (lo8 (cv A (o + (j - q))))) →
      Steps p.tables e below (s₁.setTop (entryFrame m #[.ref b, .int (Int32.ofNat o), .ref d, .int (Int32.ofNat q), .int (Int32.ofNat len)] 7)) (Tl.setTop (mkF m 3 #[.val (.ref b), .val (.int (Int32.ofNat (o + i))), .val (.ref d), .val (.int (Int32.ofNat (q + i))), .val (.int (Int32.ofNat len)), .val (.int (Int32.ofNat i)), z] [])) → ∃ (T' : State) (B' : Cell) (z' : Slot), Stand p l e { frames := 0, locals := 0, cells := 0, slots := 0 } s m #[.ref b, .int (Int32.ofNat o), .ref d, .int (Int32.ofNat q), .int (Int32.ofNat len)] below meth c T' ([] ++ copyLocs d q len) 0 0 ∧ Put d B' s₁ T' ∧ Laid B B' q (q + len) (fun j => Value.int (lo8 (cv A (o + (j - q))))) ∧
      Steps p.tables e below (s₁.setTop (entryFrame m #[.ref b, .int (Int32.ofNat o), .ref d, .int (Int32.ofNat q), .int (Int32.ofNat len)] 7)) (T'.setTop (mkF m 3 #[.val (.ref b), .val (.int (Int32.ofNat (o + len))), .val (.ref d), .val (.int (Int32.ofNat (q + len))), .val (.int (Int32.ofNat len)), .val (.int (Int32.ofNat len)), z'] [])) := by
    intro r
    induction r with
    | zero =>
      intro i hi z hz Tl Bk Xl pl fl cl
      have hil : i = len := by omega
      rw [hil] at Xl fl cl
      exact ⟨Tl, Bk, z, Xl, pl, fl, cl⟩
    | succ r ih =>
      intro i hi z hz Tl Bk Xl pl fl cl
      have all := X0.warmed.alike.symm.trans Xl.warmed.alike
      have hAl := hA0.keep all (pl.other hne hA0.1)
      have hBk := hB0.like all pl.1 fl.1 fl.2.1 fl.2.2.1
      have hlt : q + i < Bk.slots.size := by rw [fl.2.2.1]; omega
      have c3 : Steps p.tables e below (s₁.setTop (entryFrame m #[.ref b, .int (Int32.ofNat o), .ref d, .int (Int32.ofNat q), .int (Int32.ofNat len)] 7)) (Tl.setTop (mkF m 12 #[.val (.ref b), .val (.int (Int32.ofNat (o + i))), .val (.ref d), .val (.int (Int32.ofNat (q + i))), .val (.int (Int32.ofNat len)), .val (.int (Int32.ofNat i)), z] [.int (Int32.ofNat (o + i)), .ref b])) := cl.trans (by
        refine XS.iload Xl.here hexec rfl (hb hbytes d3) rfl ?_
        refine XS.iload Xl.here hexec rfl (hb hbytes d5) rfl ?_
        refine XS.icmpNo Xl.here hexec rfl (hb hbytes d7) rfl (ii_ge_f (lt32 (by omega) (by omega))) ?_
        refine XS.aloadN Xl.here hexec rfl (hb hbytes d10) rfl rfl ?_
        refine XS.iloadN Xl.here hexec rfl (hb hbytes d11) rfl ?_
        exact Steps.refl _)
      have c4 : Steps p.tables e below (s₁.setTop (entryFrame m #[.ref b, .int (Int32.ofNat o), .ref d, .int (Int32.ofNat q), .int (Int32.ofNat len)] 7)) (Tl.setTop (mkF m 13 #[.val (.ref b), .val (.int (Int32.ofNat (o + i))), .val (.ref d), .val (.int (Int32.ofNat (q + i))), .val (.int (Int32.ofNat len)), .val (.int (Int32.ofNat i)), z] [.int (cv A (o + i))])) := c3.trans (by
        refine Xl.aget hexec hAl rfl (hA.get (i := o + i) (by omega)) rfl rfl (hb hbytes d12) ?_
        exact Steps.refl _)
      have c5 : Steps p.tables e below (s₁.setTop (entryFrame m #[.ref b, .int (Int32.ofNat o), .ref d, .int (Int32.ofNat q), .int (Int32.ofNat len)] 7)) (Tl.setTop (mkF m 15 #[.val (.ref b), .val (.int (Int32.ofNat (o + i))), .val (.ref d), .val (.int (Int32.ofNat (q + i))), .val (.int (Int32.ofNat len)), .val (.int (Int32.ofNat i)), .val (.int (cv A (o + i)))] [])) := c4.trans (by
        refine XS.istoreS Xl.here hexec rfl (hb hbytes d13) rfl rfl hz ?_
        exact Steps.refl _)
      have c6 : Steps p.tables e below (s₁.setTop (entryFrame m #[.ref b, .int (Int32.ofNat o), .ref d, .int (Int32.ofNat q), .int (Int32.ofNat len)] 7)) (Tl.setTop (mkF m 31 #[.val (.ref b), .val (.int (Int32.ofNat (o + i))), .val (.ref d), .val (.int (Int32.ofNat (q + i))), .val (.int (Int32.ofNat len)), .val (.int (Int32.ofNat i)), .val (.int (cv A (o + i)))] [.int (lo8 (cv A (o + i))), .int (Int32.ofNat (q + i)), .ref d])) := c5.trans (by
        refine XS.iload Xl.here hexec rfl (hb hbytes d15) rfl ?_
        refine sipushV Xl.here hexec rfl 255 (hb hbytes d17) (by decide) ?_
        refine XS.icmpYes Xl.here hexec rfl (pc0 := 20) rfl (hb hbytes d20) rfl (ii_le_t (hp i (by omega))) (by decide) rfl ?_
        refine XS.aloadN Xl.here hexec rfl (hb hbytes d26) rfl rfl ?_
        refine XS.iloadN Xl.here hexec rfl (hb hbytes d27) rfl ?_
        refine XS.iload Xl.here hexec rfl (hb hbytes d28) rfl ?_
        refine i2b Xl.here hexec rfl (hb hbytes d30) rfl ?_
        exact Steps.refl _)
      obtain ⟨T7, X7, p7, st7⟩ := Xl.aput hexec hBk rfl hlt rfl (fits_lo8 (cv A (o + i))) (g := (mkF m 31 #[.val (.ref b), .val (.int (Int32.ofNat (o + i))), .val (.ref d), .val (.int (Int32.ofNat (q + i))), .val (.int (Int32.ofNat len)), .val (.int (Int32.ofNat i)), .val (.int (cv A (o + i)))] [.int (lo8 (cv A (o + i))), .int (Int32.ofNat (q + i)), .ref d])) rfl (rest := []) rfl (hb hbytes d31)
      have c8 : Steps p.tables e below (s₁.setTop (entryFrame m #[.ref b, .int (Int32.ofNat o), .ref d, .int (Int32.ofNat q), .int (Int32.ofNat len)] 7)) (T7.setTop (mkF m 32 #[.val (.ref b), .val (.int (Int32.ofNat (o + i))), .val (.ref d), .val (.int (Int32.ofNat (q + i))), .val (.int (Int32.ofNat len)), .val (.int (Int32.ofNat i)), .val (.int (cv A (o + i)))] [])) := c6.trans (st7 _ (Steps.refl _))
      have c9 : Steps p.tables e below (s₁.setTop (entryFrame m #[.ref b, .int (Int32.ofNat o), .ref d, .int (Int32.ofNat q), .int (Int32.ofNat len)] 7)) (T7.setTop (mkF m 3 #[.val (.ref b), .val (.int (Int32.ofNat (o + i) + 1)), .val (.ref d), .val (.int (Int32.ofNat (q + i) + 1)), .val (.int (Int32.ofNat len)), .val (.int (Int32.ofNat i + 1)), .val (.int (cv A (o + i)))] [])) := c8.trans (by
        refine iincV X7.here hexec rfl 1 (hb hbytes d32) (by decide) rfl rfl ?_
        refine iincV X7.here hexec rfl 1 (hb hbytes d35) (by decide) rfl rfl ?_
        refine iincV X7.here hexec rfl 1 (hb hbytes d38) (by decide) rfl rfl ?_
        refine XS.goto X7.here hexec rfl (pc0 := 41) rfl (hb hbytes d41) (by decide) rfl ?_
        exact Steps.refl _)
      have c10 : Steps p.tables e below (s₁.setTop (entryFrame m #[.ref b, .int (Int32.ofNat o), .ref d, .int (Int32.ofNat q), .int (Int32.ofNat len)] 7)) (T7.setTop (mkF m 3 #[.val (.ref b), .val (.int (Int32.ofNat (o + (i + 1)))), .val (.ref d), .val (.int (Int32.ofNat (q + (i + 1)))), .val (.int (Int32.ofNat len)), .val (.int (Int32.ofNat (i + 1))), .val (.int (cv A (o + i)))] [])) := by
        have := c9
        rw [succ32, succ32, succ32] at this
        exact this
      exact ih (i + 1) (by omega) _ (Or.inr ⟨_, rfl, rfl⟩) T7 _ (by rw [copyLocs_step, ← List.append_assoc]; exact X7) (pl.trans p7) (fl.step (by omega) hlt (by simp)) c10
  obtain ⟨T9, B9, z9, X9, p9, f9, g9⟩ := loop len 0 (by omega) .unset (Or.inl rfl) s₁ B (by simpa [copyLocs] using X0) ⟨hB0.1, fun _ _ => rfl, rfl⟩ (Laid.zero _ _ _) c2
  have c11 : Steps p.tables e below (s₁.setTop (entryFrame m #[.ref b, .int (Int32.ofNat o), .ref d, .int (Int32.ofNat q), .int (Int32.ofNat len)] 7)) (T9.setTop (mkF m 46 #[.val (.ref b), .val (.int (Int32.ofNat (o + len))), .val (.ref d), .val (.int (Int32.ofNat (q + len))), .val (.int (Int32.ofNat len)), .val (.int (Int32.ofNat len)), z9] [.int (Int32.ofNat len)])) := g9.trans (by
    refine XS.iload X9.here hexec rfl (hb hbytes d3) rfl ?_
    refine XS.iload X9.here hexec rfl (hb hbytes d5) rfl ?_
    refine XS.icmpYes X9.here hexec rfl (pc0 := 7) rfl (hb hbytes d7) rfl (ii_ge_t (nlt32 (by omega) (Nat.le_refl _))) (by decide) rfl ?_
    refine XS.iload X9.here hexec rfl (hb hbytes d44) rfl ?_
    exact Steps.refl _)
  exact ⟨T9, some (.int (Int32.ofNat len)), _, _, _, X9, by simp, rfl, rfl, (fun h => by cases h), ⟨rfl, B9, p9.from hh0, f9⟩, fun fs hl => c11.trans (X9.ireturnOut hexec hret rfl (Or.inl rfl) (hb hbytes d46) hl)⟩
end Cmp5
namespace Cmp3
def yN : MethodName := ⟨"java/lang/StringUTF16", "compress", "([CII)[B"⟩
abbrev yB : ByteArray := jdk_52_method_16_code
theorem d0 : decode yB 0 = .ok (.iload_n 2, 1) := by decide +kernel
theorem d1 : decode yB 1 = .ok (.newarray .byte, 2) := by decide +kernel
theorem d3 : decode yB 3 = .ok (.astore_n 3, 1) := by decide +kernel
theorem d4 : decode yB 4 = .ok (.aload_n 0, 1) := by decide +kernel
theorem d5 : decode yB 5 = .ok (.iload_n 1, 1) := by decide +kernel
theorem d6 : decode yB 6 = .ok (.aload_n 3, 1) := by decide +kernel
theorem d7 : decode yB 7 = .ok (.iconst 0, 1) := by decide +kernel
theorem d8 : decode yB 8 = .ok (.iload_n 2, 1) := by decide +kernel
theorem d9 : decode yB 9 = .ok (.invokestatic 115, 3) := by decide +kernel
theorem d12 : decode yB 12 = .ok (.istore 4, 2) := by decide +kernel
theorem d14 : decode yB 14 = .ok (.iload 4, 2) := by decide +kernel
theorem d16 : decode yB 16 = .ok (.iload_n 2, 1) := by decide +kernel
theorem d17 : decode yB 17 = .ok (.if_icmp (.eq) 40, 3) := by decide +kernel
theorem d57 : decode yB 57 = .ok (.aload_n 3, 1) := by decide +kernel
theorem d58 : decode yB 58 = .ok (.areturn, 1) := by decide +kernel
def site : List Cond := [.arrayClass .byte, Cmp5.tab] ++ staticW U16 115 Cmp5.yN
def tab : Cond := tabOf yN yB 6 (some (.array .byte)) site
def P (b : Addr) (A : Cell) (o len : Nat) (args : Array Value) (s : State) : Prop := args = #[.ref b, .int (Int32.ofNat o), .int (Int32.ofNat len)] ∧ Ch b A s ∧ o + len ≤ A.slots.size ∧ len ≤ 536870912 ∧ ∀ i, i < len → ¬ 255 < cv A (o + i)
def E (b : Addr) (A : Cell) (o len : Nat) (r : Option Value) (s u : State) : Prop := NewArr .byte "[B" len (fun j => .int (lo8 (cv A (o + j)))) r s u ∧ u.heap.size = s.heap.size + 1
/-- no char of the range above 255: a new byte[] of their low bytes -/
theorem law (l : Launch) (b : Addr) (A : Cell) (o len : Nat) : Law l yN 3 3 1 18 yB 6 (some (.array .byte)) site (P b A o len) (E b A o len) [] 1 len := by
  refine Law.of_walk (plainFor_of_name (by decide +kernel)) (by decide +kernel) (by decide +kernel) (by decide) (fun _ _ h => by rw [h.1]; rfl) (fun _ U U' hal hh h => ⟨h.1, h.2.1.mv hal hh, h.2.2⟩) (fun r U U' V V' h1 hal h2 h => ⟨NewArr.mv r U U' V V' h1 hal h2 h.1, by rw [h1, h2]; exact h.2⟩) ?_
  intro p e s m args below meth c s₁ X0 hexec hbytes hml hret hlk hnm hown hh0 W hP
  obtain ⟨rfl, hA, l1, l2, hp⟩ := hP
  have a31 := hA.1.2.2.2
  have c1 : Steps p.tables e below (s₁.setTop (entryFrame m #[.ref b, .int (Int32.ofNat o), .int (Int32.ofNat len)] 6)) (s₁.setTop (mkF m 0 #[.val (.ref b), .val (.int (Int32.ofNat o)), .val (.int (Int32.ofNat len)), .unset, .unset, .unset] [])) := entry rfl
  have c2 : Steps p.tables e below (s₁.setTop (entryFrame m #[.ref b, .int (Int32.ofNat o), .int (Int32.ofNat len)] 6)) (s₁.setTop (mkF m 1 #[.val (.ref b), .val (.int (Int32.ofNat o)), .val (.int (Int32.ofNat len)), .unset, .unset, .unset] [.int (Int32.ofNat len)])) := c1.trans (by
    refine XS.iloadN X0.here hexec rfl (hb hbytes d0) rfl ?_
    exact Steps.refl _)
  obtain ⟨T3, B3, X3, ba3, bs3, bv3, bh3, bf3, st3⟩ := X0.anew hexec (atype := .byte) (wk W (.arrayClass .byte)) rfl (by show len * 1 ≤ _; omega) (by omega) (g := (mkF m 1 #[.val (.ref b), .val (.int (Int32.ofNat o)), .val (.int (Int32.ofNat len)), .unset, .unset, .unset] [.int (Int32.ofNat len)])) rfl (hb hbytes d1) (rest := []) rfl (Nat.le_refl _) (by show 0 + len ≤ len; omega)
  rw [hh0] at ba3 st3
  have kp3 : XT.Kept s T3 := (XT.Kept.of_eq hh0).push bh3
  have hA3 := hA.keep X3.warmed.alike (kp3 _ _ hA.1.1)
  have hne : b ≠ s.heap.size := hA.1.ne
  have c4 : Steps p.tables e below (s₁.setTop (entryFrame m #[.ref b, .int (Int32.ofNat o), .int (Int32.ofNat len)] 6)) (T3.setTop (mkF m 3 #[.val (.ref b), .val (.int (Int32.ofNat o)), .val (.int (Int32.ofNat len)), .unset, .unset, .unset] [.ref s.heap.size])) := c2.trans (st3 _ (Steps.refl _))
  have c5 : Steps p.tables e below (s₁.setTop (entryFrame m #[.ref b, .int (Int32.ofNat o), .int (Int32.ofNat len)] 6)) (T3.setTop (mkF m 9 #[.val (.ref b), .val (.int (Int32.ofNat o)), .val (.int (Int32.ofNat len)), .val (.ref s.heap.size), .unset, .unset] [.int (Int32.ofNat len), .int 0, .ref s.heap.size, .int (Int32.ofNat o), .ref b])) := c4.trans (by
    refine XS.astoreN X3.here hexec rfl (hb hbytes d3) rfl rfl rfl ?_
    refine XS.aloadN X3.here hexec rfl (hb hbytes d4) rfl rfl ?_
    refine XS.iloadN X3.here hexec rfl (hb hbytes d5) rfl ?_
    refine XS.aloadN X3.here hexec rfl (hb hbytes d6) rfl rfl ?_
    refine iconstV X3.here hexec rfl 0 (hb hbytes d7) (by decide) ?_
    refine XS.iloadN X3.here hexec rfl (hb hbytes d8) rfl ?_
    exact Steps.refl _)
  obtain ⟨v6, T6, X6, E6, g6⟩ := X3.callS hexec (Cmp5.law l b A s.heap.size B3 o 0 len) hown (wks W (staticW U16 115 Cmp5.yN)) (wk W Cmp5.tab) (W := 0) (Nat.le_of_ble_eq_true rfl) (Nat.le_of_ble_eq_true rfl) (Nat.le_refl _) (by show 0 + len + 0 ≤ len; omega) (g := (mkF m 9 #[.val (.ref b), .val (.int (Int32.ofNat o)), .val (.int (Int32.ofNat len)), .val (.ref s.heap.size), .unset, .unset] [.int (Int32.ofNat len), .int (Int32.ofNat 0), .ref s.heap.size, .int (Int32.ofNat o), .ref b])) rfl (by rw [hml]; rfl) c5 (argsL := [.ref b, .int (Int32.ofNat o), .ref s.heap.size, .int (Int32.ofNat 0), .int (Int32.ofNat len)]) (rest := []) rfl rfl (by show 2 * 0 + 0 ≤ _; decide) (hb hbytes d9) (⟨rfl, hA3, ba3, hne, l1, by rw [bs3]; simp, hp⟩)
  obtain ⟨rfl, B6, p6, f6⟩ := E6
  have c7 : Steps p.tables e below (s₁.setTop (entryFrame m #[.ref b, .int (Int32.ofNat o), .int (Int32.ofNat len)] 6)) (T6.setTop (mkF m 12 #[.val (.ref b), .val (.int (Int32.ofNat o)), .val (.int (Int32.ofNat len)), .val (.ref s.heap.size), .unset, .unset] [.int (Int32.ofNat len)])) := g6
  have c8 : Steps p.tables e below (s₁.setTop (entryFrame m #[.ref b, .int (Int32.ofNat o), .int (Int32.ofNat len)] 6)) (T6.setTop (mkF m 58 #[.val (.ref b), .val (.int (Int32.ofNat o)), .val (.int (Int32.ofNat len)), .val (.ref s.heap.size), .val (.int (Int32.ofNat len)), .unset] [.ref s.heap.size])) := c7.trans (by
    refine XS.istore X6.here hexec rfl (hb hbytes d12) rfl rfl ?_
    refine XS.iload X6.here hexec rfl (hb hbytes d14) rfl ?_
    refine XS.iloadN X6.here hexec rfl (hb hbytes d16) rfl ?_
    refine XS.icmpYes X6.here hexec rfl (pc0 := 17) rfl (hb hbytes d17) rfl (ii_eq_t rfl) (by decide) rfl ?_
    refine XS.aloadN X6.here hexec rfl (hb hbytes d57) rfl rfl ?_
    exact Steps.refl _)
  have X8 := X6.wide (L' := []) (cells' := 1) (slots' := len) (fun x hx hlt => by
    simp only [List.nil_append, copyLocs, List.mem_map, List.mem_range] at hx
    obtain ⟨i, -, rfl⟩ := hx
    exact absurd hlt (Nat.lt_irrefl _)) (Nat.le_refl _) (by omega)
  exact ⟨T6, some (.ref s.heap.size), _, _, _, X8, rfl, rfl, rfl, (fun h => by cases h), ⟨⟨rfl, B6, ba3.like (X3.warmed.alike.symm.trans X6.warmed.alike) p6.1 f6.1 f6.2.1 f6.2.2.1, f6.2.1.trans bv3, by rw [X6.warmed.alike.findClass, f6.1]; exact bf3, by rw [f6.2.2.1, bs3]; simp, fun j hj => by rw [f6.2.2.2 j, if_pos (by omega)]; rfl, kp3.put p6 (Nat.le_refl _)⟩, by rw [p6.2.2, bh3, hh0]; simp⟩, fun fs hl => c8.trans (X8.areturnOut hexec rfl hret rfl (hb hbytes d58) hl)⟩
end Cmp3
namespace CodL
def yN : MethodName := ⟨"java/lang/StringUTF16", "coderFromArrayLen", "([BI)B"⟩
abbrev yB : ByteArray := jdk_52_method_15_code
theorem d0 : decode yB 0 = .ok (.iload_n 1, 1) := by decide +kernel
theorem d1 : decode yB 1 = .ok (.aload_n 0, 1) := by decide +kernel
theorem d2 : decode yB 2 = .ok (.arraylength, 1) := by decide +kernel
theorem d3 : decode yB 3 = .ok (.isub, 1) := by decide +kernel
theorem d4 : decode yB 4 = .ok (.bipush 31, 2) := by decide +kernel
theorem d6 : decode yB 6 = .ok (.iushr, 1) := by decide +kernel
theorem d7 : decode yB 7 = .ok (.i2b, 1) := by decide +kernel
theorem d8 : decode yB 8 = .ok (.ireturn, 1) := by decide +kernel
def site : List Cond := []
def tab : Cond := tabOf yN yB 2 (some .byte) site
def P (d : Addr) (B : Cell) (args : Array Value) (s : State) : Prop := args = #[.ref d, .int (Int32.ofNat B.slots.size)] ∧ Arr .byte d B s
def E (r : Option Value) (s u : State) : Prop := XT.PureE (some (.int 0)) r s u
/-- an array as long as the number of chars: LATIN1 -/
theorem law (l : Launch) (d : Addr) (B : Cell) : Law l yN 2 2 0 0 yB 2 (some .byte) site (P d B) E [] 0 0 := by
  refine Law.of_walk (plainFor_of_name (by decide +kernel)) (by decide +kernel) (by decide +kernel) (by decide) (fun _ _ h => by rw [h.1]; rfl) (fun _ U U' hal hh h => ⟨h.1, h.2.mv hal hh⟩) (fun r U U' V V' h1 hal h2 h => XT.PureE.mv r U U' V V' h1 hal h2 h) ?_
  intro p e s m args below meth c s₁ X0 hexec hbytes hml hret hlk hnm hown hh0 W hP
  obtain ⟨rfl, hB⟩ := hP
  have hB0 := hB.mv X0.warmed.alike hh0
  have c1 : Steps p.tables e below (s₁.setTop (entryFrame m #[.ref d, .int (Int32.ofNat B.slots.size)] 2)) (s₁.setTop (mkF m 0 #[.val (.ref d), .val (.int (Int32.ofNat B.slots.size))] [])) := entry rfl
  have c2 : Steps p.tables e below (s₁.setTop (entryFrame m #[.ref d, .int (Int32.ofNat B.slots.size)] 2)) (s₁.setTop (mkF m 2 #[.val (.ref d), .val (.int (Int32.ofNat B.slots.size))] [.ref d, .int (Int32.ofNat B.slots.size)])) := c1.trans (by
    refine XS.iloadN X0.here hexec rfl (hb hbytes d0) rfl ?_
    refine XS.aloadN X0.here hexec rfl (hb hbytes d1) rfl rfl ?_
    exact Steps.refl _)
  have c3 : Steps p.tables e below (s₁.setTop (entryFrame m #[.ref d, .int (Int32.ofNat B.slots.size)] 2)) (s₁.setTop (mkF m 8 #[.val (.ref d), .val (.int (Int32.ofNat B.slots.size))] [.int (lo8 (ushr (Int32.ofNat B.slots.size - Int32.ofNat B.slots.size) 31))])) := c2.trans (by
    refine X0.alen hexec hB0 rfl rfl (hb hbytes d2) ?_
    refine XS.isub X0.here hexec rfl (hb hbytes d3) rfl ?_
    refine bipushV X0.here hexec rfl 31 (hb hbytes d4) (by decide) ?_
    refine iushr X0.here hexec rfl (hb hbytes d6) rfl ?_
    refine i2b X0.here hexec rfl (hb hbytes d7) rfl ?_
    exact Steps.refl _)
  have e0 : lo8 (ushr (Int32.ofNat B.slots.size - Int32.ofNat B.slots.size) 31) = 0 := by rw [Int32.sub_self]; decide
  rw [e0] at c3
  exact ⟨s₁, some (.int 0), _, _, _, X0, rfl, rfl, rfl, (fun h => by cases h), ⟨rfl, hh0⟩, fun fs hl => c3.trans (X0.ireturnOut hexec hret rfl (Or.inr (Or.inr (Or.inl rfl))) (hb hbytes d8) hl)⟩
end CodL
/-- the String at a is Latin-1 over a new byte[] (the heap's one new cell): the low bytes of the len chars of A from o on; every cell but a is kept -/
def Got (a : Addr) (D : Cell) (fV fC : Field) (A : Cell) (o len : Nat) (r : Option Value) (s u : State) : Prop := r = none ∧ ∃ D' V : Cell, Blank "java/lang/String" a D' u ∧ Same D D' [fV.slot, fC.slot] ∧ D'.slots[fV.slot]? = some (.ref s.heap.size) ∧ D'.slots[fC.slot]? = some (.int 0) ∧ Arr .byte s.heap.size V u ∧ V.vm = .none ∧ u.vm.findClass "[B" = some V.cls ∧ V.slots.size = len ∧ (∀ j, j < len → V.slots[j]? = some (.int (lo8 (cv A (o + j))))) ∧ (∀ (y : Addr) (c : Cell), y ≠ a → s.heap[y]? = some c → u.heap[y]? = some c) ∧ u.heap.size = s.heap.size + 1
theorem Got.mv {a : Addr} {D A : Cell} {fV fC : Field} {o len : Nat} : ∀ r (U U' V V' : State), U'.heap = U.heap → V.vm.Alike V'.vm → V'.heap = V.heap → Got a D fV fC A o len r U V → Got a D fV fC A o len r U' V' :=
  fun r U U' V V' h1 hal h2 ⟨e0, D', X, a1, a2, a3, a4, a5, a6, a7, a8, a9, a10, a11⟩ => ⟨e0, D', X, a1.mv hal h2, a2, by rw [h1]; exact a3, a4, by rw [h1]; exact a5.mv hal h2, a6, by rw [hal.findClass]; exact a7, a8, a9, by rw [h1, h2]; exact a10, by rw [h1, h2]; exact a11⟩
namespace New4
def yN : MethodName := ⟨"java/lang/String", "<init>", "([CIILjava/lang/Void;)V"⟩
abbrev yB : ByteArray := jdk_42_method_149_code
theorem d0 : decode yB 0 = .ok (.aload_n 0, 1) := by decide +kernel
theorem d1 : decode yB 1 = .ok (.invokespecial 1, 3) := by decide +kernel
theorem d4 : decode yB 4 = .ok (.iload_n 3, 1) := by decide +kernel
theorem d5 : decode yB 5 = .ok (.ifCond (.ne) 22, 3) := by decide +kernel
theorem d27 : decode yB 27 = .ok (.getstatic 38, 3) := by decide +kernel
theorem d30 : decode yB 30 = .ok (.ifCond (.eq) 28, 3) := by decide +kernel
theorem d33 : decode yB 33 = .ok (.aload_n 1, 1) := by decide +kernel
theorem d34 : decode yB 34 = .ok (.iload_n 2, 1) := by decide +kernel
theorem d35 : decode yB 35 = .ok (.iload_n 3, 1) := by decide +kernel
theorem d36 : decode yB 36 = .ok (.invokestatic 177, 3) := by decide +kernel
theorem d39 : decode yB 39 = .ok (.astore 5, 2) := by decide +kernel
theorem d41 : decode yB 41 = .ok (.aload_n 0, 1) := by decide +kernel
theorem d42 : decode yB 42 = .ok (.aload 5, 2) := by decide +kernel
theorem d44 : decode yB 44 = .ok (.iload_n 3, 1) := by decide +kernel
theorem d45 : decode yB 45 = .ok (.invokestatic 47, 3) := by decide +kernel
theorem d48 : decode yB 48 = .ok (.putfield 15, 3) := by decide +kernel
theorem d51 : decode yB 51 = .ok (.aload_n 0, 1) := by decide +kernel
theorem d52 : decode yB 52 = .ok (.aload 5, 2) := by decide +kernel
theorem d54 : decode yB 54 = .ok (.putfield 9, 3) := by decide +kernel
theorem d57 : decode yB 57 = .ok (.return_, 1) := by decide +kernel
def site : List Cond := [.fieldLink "java/lang/String" 38 "java/lang/String" "COMPACT_STRINGS" "Z", Cmp3.tab, CodL.tab, .laysFinal "java/lang/String" "java/lang/String" "value" "[B", .fieldLink "java/lang/String" 9 "java/lang/String" "value" "[B", .laysFinal "java/lang/String" "java/lang/String" "coder" "B", .fieldLink "java/lang/String" 15 "java/lang/String" "coder" "B"] ++ objW "java/lang/String" 1 ++ staticW "java/lang/String" 177 Cmp3.yN ++ staticW "java/lang/String" 47 CodL.yN
def tab : Cond := tabOf yN yB 6 none site
def P (a : Addr) (D : Cell) (fV fC : Field) (b : Addr) (A : Cell) (z : Int32) (o len : Nat) (args : Array Value) (s : State) : Prop := args = #[.ref a, .ref b, .int (Int32.ofNat o), .int (Int32.ofNat len), .null] ∧ Blank "java/lang/String" a D s ∧ Found "java/lang/String" "value" "[B" fV s ∧ Found "java/lang/String" "coder" "B" fC s ∧ Ch b A s ∧ StaticIs s "java/lang/String" "COMPACT_STRINGS" "Z" (.int z) ∧ ¬ z = 0 ∧ 0 < len ∧ o + len ≤ A.slots.size ∧ len ≤ 536870912 ∧ ∀ i, i < len → ¬ 255 < cv A (o + i)
def E (a : Addr) (D : Cell) (fV fC : Field) (A : Cell) (o len : Nat) (r : Option Value) (s u : State) : Prop := Got a D fV fC A o len r s u
/-- len > 0, no char of the range above 255: a Latin-1 String of their low bytes -/
theorem law (l : Launch) (a : Addr) (D : Cell) (fV fC : Field) (b : Addr) (A : Cell) (z : Int32) (o len : Nat) : Law l yN 5 4 2 35 yB 6 none site (P a D fV fC b A z o len) (E a D fV fC A o len) [⟨a, fC.slot⟩, ⟨a, fV.slot⟩] 1 len := by
  refine Law.of_walk (plainFor_of_name (by decide +kernel)) (by decide +kernel) (by decide +kernel) (by decide) (fun _ _ h => by rw [h.1]; rfl) (fun _ U U' hal hh h => ⟨h.1, h.2.1.mv hal hh, h.2.2.1.al hal, h.2.2.2.1.al hal, h.2.2.2.2.1.mv hal hh, h.2.2.2.2.2.1.there hal hh, h.2.2.2.2.2.2⟩) (fun r U U' V V' h1 hal h2 h => Got.mv r U U' V V' h1 hal h2 h) ?_
  intro p e s m args below meth c s₁ X0 hexec hbytes hml hret hlk hnm hown hh0 W hP
  obtain ⟨rfl, hB, f1, f2, hA, s1, hz, l0, l1, l2, hp⟩ := hP
  have a31 := hA.1.2.2.2
  have c1 : Steps p.tables e below (s₁.setTop (entryFrame m #[.ref a, .ref b, .int (Int32.ofNat o), .int (Int32.ofNat len), .null] 6)) (s₁.setTop (mkF m 0 #[.val (.ref a), .val (.ref b), .val (.int (Int32.ofNat o)), .val (.int (Int32.ofNat len)), .val .null, .unset] [])) := entry rfl
  have c2 : Steps p.tables e below (s₁.setTop (entryFrame m #[.ref a, .ref b, .int (Int32.ofNat o), .int (Int32.ofNat len), .null] 6)) (s₁.setTop (mkF m 1 #[.val (.ref a), .val (.ref b), .val (.int (Int32.ofNat o)), .val (.int (Int32.ofNat len)), .val .null, .unset] [.ref a])) := c1.trans (by
    refine XS.aloadN X0.here hexec rfl (hb hbytes d0) rfl rfl ?_
    exact Steps.refl _)
  obtain ⟨T3, X3, q3, st3⟩ := X0.oinit hexec hown (wks W (objW "java/lang/String" 1)) (g := (mkF m 1 #[.val (.ref a), .val (.ref b), .val (.int (Int32.ofNat o)), .val (.int (Int32.ofNat len)), .val .null, .unset] [.ref a])) rfl (by rw [hml]; rfl) (rest := []) rfl (hb hbytes d1) (W := 0) (by show 2 * 0 + 0 ≤ _; decide) (Nat.le_of_ble_eq_true rfl) (Nat.le_of_ble_eq_true rfl)
  have hh3 := q3.trans hh0
  have c4 : Steps p.tables e below (s₁.setTop (entryFrame m #[.ref a, .ref b, .int (Int32.ofNat o), .int (Int32.ofNat len), .null] 6)) (T3.setTop (mkF m 27 #[.val (.ref a), .val (.ref b), .val (.int (Int32.ofNat o)), .val (.int (Int32.ofNat len)), .val .null, .unset] [])) := (c2.trans (st3 _ (Steps.refl _))).trans (by
    refine XS.iloadN X3.here hexec rfl (hb hbytes d4) rfl ?_
    refine XS.ifYes X3.here hexec rfl (pc0 := 5) rfl (hb hbytes d5) rfl (i0_ne_t (nz32 (by omega) l0)) (by decide) rfl ?_
    exact Steps.refl _)
  obtain ⟨T5, X5, q5, st5⟩ := X3.sget hexec hown (wk W (.fieldLink "java/lang/String" 38 "java/lang/String" "COMPACT_STRINGS" "Z")) s1 (fun _ _ h => by rw [hh3]; exact h) (g := (mkF m 27 #[.val (.ref a), .val (.ref b), .val (.int (Int32.ofNat o)), .val (.int (Int32.ofNat len)), .val .null, .unset] [])) rfl (hb hbytes d27)
  have hh5 := q5.trans hh3
  have c6 : Steps p.tables e below (s₁.setTop (entryFrame m #[.ref a, .ref b, .int (Int32.ofNat o), .int (Int32.ofNat len), .null] 6)) (T5.setTop (mkF m 30 #[.val (.ref a), .val (.ref b), .val (.int (Int32.ofNat o)), .val (.int (Int32.ofNat len)), .val .null, .unset] [.int z])) := c4.trans (st5 _ (Steps.refl _))
  have c7 : Steps p.tables e below (s₁.setTop (entryFrame m #[.ref a, .ref b, .int (Int32.ofNat o), .int (Int32.ofNat len), .null] 6)) (T5.setTop (mkF m 36 #[.val (.ref a), .val (.ref b), .val (.int (Int32.ofNat o)), .val (.int (Int32.ofNat len)), .val .null, .unset] [.int (Int32.ofNat len), .int (Int32.ofNat o), .ref b])) := c6.trans (by
    refine XS.ifNo X5.here hexec rfl (hb hbytes d30) rfl (i0_eq_f hz) ?_
    refine XS.aloadN X5.here hexec rfl (hb hbytes d33) rfl rfl ?_
    refine XS.iloadN X5.here hexec rfl (hb hbytes d34) rfl ?_
    refine XS.iloadN X5.here hexec rfl (hb hbytes d35) rfl ?_
    exact Steps.refl _)
  obtain ⟨v8, T8, X8, E8, g8⟩ := X5.callS hexec (Cmp3.law l b A o len) hown (wks W (staticW "java/lang/String" 177 Cmp3.yN)) (wk W Cmp3.tab) (W := 0) (Nat.le_of_ble_eq_true rfl) (Nat.le_of_ble_eq_true rfl) (Nat.le_refl _) (by show 0 + len ≤ len; omega) (g := (mkF m 36 #[.val (.ref a), .val (.ref b), .val (.int (Int32.ofNat o)), .val (.int (Int32.ofNat len)), .val .null, .unset] [.int (Int32.ofNat len), .int (Int32.ofNat o), .ref b])) rfl (by rw [hml]; rfl) c7 (argsL := [.ref b, .int (Int32.ofNat o), .int (Int32.ofNat len)]) (rest := []) rfl rfl (by show 2 * 0 + 0 ≤ _; decide) (hb hbytes d36) (⟨rfl, hA.mv X5.warmed.alike hh5, l1, l2, hp⟩)
  obtain ⟨e8, z8⟩ := E8
  obtain ⟨rfl, N, n1, n2, n3, n4, n5, n6⟩ := NewArr.mv _ T5 s _ _ hh5.symm (Vm.Alike.refl _) rfl e8
  rw [hh5] at z8
  have hB1 := hB.keep X8.warmed.alike (n6 _ _ hB.1)
  have hne : s.heap.size ≠ a := (Nat.ne_of_lt (Array.getElem?_eq_some_iff.mp hB.1).1).symm
  have c9 : Steps p.tables e below (s₁.setTop (entryFrame m #[.ref a, .ref b, .int (Int32.ofNat o), .int (Int32.ofNat len), .null] 6)) (T8.setTop (mkF m 39 #[.val (.ref a), .val (.ref b), .val (.int (Int32.ofNat o)), .val (.int (Int32.ofNat len)), .val .null, .unset] [.ref s.heap.size])) := g8
  have c10 : Steps p.tables e below (s₁.setTop (entryFrame m #[.ref a, .ref b, .int (Int32.ofNat o), .int (Int32.ofNat len), .null] 6)) (T8.setTop (mkF m 45 #[.val (.ref a), .val (.ref b), .val (.int (Int32.ofNat o)), .val (.int (Int32.ofNat len)), .val .null, .val (.ref s.heap.size)] [.int (Int32.ofNat N.slots.size), .ref s.heap.size, .ref a])) := by
    have hc : Steps p.tables e below (s₁.setTop (entryFrame m #[.ref a, .ref b, .int (Int32.ofNat o), .int (Int32.ofNat len), .null] 6)) (T8.setTop (mkF m 45 #[.val (.ref a), .val (.ref b), .val (.int (Int32.ofNat o)), .val (.int (Int32.ofNat len)), .val .null, .val (.ref s.heap.size)] [.int (Int32.ofNat len), .ref s.heap.size, .ref a])) := c9.trans (by
      refine XS.astore X8.here hexec rfl (hb hbytes d39) rfl rfl rfl ?_
      refine XS.aloadN X8.here hexec rfl (hb hbytes d41) rfl rfl ?_
      refine XS.aload X8.here hexec rfl (hb hbytes d42) rfl rfl ?_
      refine XS.iloadN X8.here hexec rfl (hb hbytes d44) rfl ?_
      exact Steps.refl _)
    rw [n4]; exact hc
  obtain ⟨v11, T11, X11, E11, g11⟩ := X8.callS hexec (CodL.law l s.heap.size N) hown (wks W (staticW "java/lang/String" 47 CodL.yN)) (wk W CodL.tab) (W := 1) (Nat.le_of_ble_eq_true rfl) (Nat.le_of_ble_eq_true rfl) (Nat.le_refl _) (by show 0 + len + 0 ≤ len; omega) (g := (mkF m 45 #[.val (.ref a), .val (.ref b), .val (.int (Int32.ofNat o)), .val (.int (Int32.ofNat len)), .val .null, .val (.ref s.heap.size)] [.int (Int32.ofNat N.slots.size), .ref s.heap.size, .ref a])) rfl (by rw [hml]; rfl) c10 (argsL := [.ref s.heap.size, .int (Int32.ofNat N.slots.size)]) (rest := [.ref a]) rfl rfl (by show 2 * 0 + (1 + 0) ≤ _; decide) (hb hbytes d45) (⟨rfl, n1⟩)
  obtain ⟨rfl, q11⟩ := E11
  have hB11 := hB1.mv (X8.warmed.alike.symm.trans X11.warmed.alike) q11
  have c12 : Steps p.tables e below (s₁.setTop (entryFrame m #[.ref a, .ref b, .int (Int32.ofNat o), .int (Int32.ofNat len), .null] 6)) (T11.setTop (mkF m 48 #[.val (.ref a), .val (.ref b), .val (.int (Int32.ofNat o)), .val (.int (Int32.ofNat len)), .val .null, .val (.ref s.heap.size)] [.int 0, .ref a])) := g11
  obtain ⟨T13, X13, p13, bl13, sl13, st13⟩ := X11.finit hexec hown (wk W (.fieldLink "java/lang/String" 15 "java/lang/String" "coder" "B")) (Or.inr ⟨_, (wk W (.laysFinal "java/lang/String" "java/lang/String" "coder" "B"))⟩) (Or.inl ⟨rfl, hnm⟩) f2 (Or.inl rfl) hB11 (t := .byte) (by decide +kernel) rfl (g := (mkF m 48 #[.val (.ref a), .val (.ref b), .val (.int (Int32.ofNat o)), .val (.int (Int32.ofNat len)), .val .null, .val (.ref s.heap.size)] [.int 0, .ref a])) rfl (rest := []) rfl (hb hbytes d48)
  have c14 : Steps p.tables e below (s₁.setTop (entryFrame m #[.ref a, .ref b, .int (Int32.ofNat o), .int (Int32.ofNat len), .null] 6)) (T13.setTop (mkF m 54 #[.val (.ref a), .val (.ref b), .val (.int (Int32.ofNat o)), .val (.int (Int32.ofNat len)), .val .null, .val (.ref s.heap.size)] [.ref s.heap.size, .ref a])) := (c12.trans (st13 _ (Steps.refl _))).trans (by
    refine XS.aloadN X13.here hexec rfl (hb hbytes d51) rfl rfl ?_
    refine XS.aload X13.here hexec rfl (hb hbytes d52) rfl rfl ?_
    exact Steps.refl _)
  obtain ⟨T15, X15, p15, bl15, sl15, st15⟩ := X13.finit hexec hown (wk W (.fieldLink "java/lang/String" 9 "java/lang/String" "value" "[B")) (Or.inr ⟨_, (wk W (.laysFinal "java/lang/String" "java/lang/String" "value" "[B"))⟩) (Or.inl ⟨rfl, hnm⟩) f1 (Or.inl rfl) bl13 (t := (.array .byte)) (by decide +kernel) rfl (g := (mkF m 54 #[.val (.ref a), .val (.ref b), .val (.int (Int32.ofNat o)), .val (.int (Int32.ofNat len)), .val .null, .val (.ref s.heap.size)] [.ref s.heap.size, .ref a])) rfl (rest := []) rfl (hb hbytes d54)
  have c16 : Steps p.tables e below (s₁.setTop (entryFrame m #[.ref a, .ref b, .int (Int32.ofNat o), .int (Int32.ofNat len), .null] 6)) (T15.setTop (mkF m 57 #[.val (.ref a), .val (.ref b), .val (.int (Int32.ofNat o)), .val (.int (Int32.ofNat len)), .val .null, .val (.ref s.heap.size)] [])) := c14.trans (st15 _ (Steps.refl _))
  have ap := apart (Or.inr ⟨_, (wk W (.laysFinal "java/lang/String" "java/lang/String" "value" "[B"))⟩) (Or.inr ⟨_, (wk W (.laysFinal "java/lang/String" "java/lang/String" "coder" "B"))⟩) f1 f2 (t₁ := .array .byte) (t₂ := .byte) (by decide +kernel) (by decide +kernel) (by decide)
  have al := X8.warmed.alike.symm.trans X15.warmed.alike
  have n7 : T11.heap[s.heap.size]? = some N := by rw [q11]; exact n1.1
  exact ⟨T15, none, _, _, _, X15, by simp, rfl, by omega, (fun _ => rfl), ⟨rfl, _, N, bl15, ((Same.refl D _).set _ (by simp)).set _ (by simp), sl15, (Cell.slots_setSlot_ne _ ap).trans sl13, n1.keep al (p15.other hne (p13.other hne n7)), n2, by rw [al.findClass]; exact n3, n4, n5, fun y c h1 h2 => p15.other h1 (p13.other h1 (by rw [q11]; exact n6 y c h2)), by rw [p15.2.2, p13.2.2, q11]; exact z8⟩, fun fs hl => c16.trans (X15.returnOut hexec hret (hb hbytes d57) hl)⟩
end New4
namespace New1
def yN : MethodName := ⟨"java/lang/String", "<init>", "([C)V"⟩
abbrev yB : ByteArray := jdk_42_method_3_code
theorem d0 : decode yB 0 = .ok (.aload_n 0, 1) := by decide +kernel
theorem d1 : decode yB 1 = .ok (.aload_n 1, 1) := by decide +kernel
theorem d2 : decode yB 2 = .ok (.iconst 0, 1) := by decide +kernel
theorem d3 : decode yB 3 = .ok (.aload_n 1, 1) := by decide +kernel
theorem d4 : decode yB 4 = .ok (.arraylength, 1) := by decide +kernel
theorem d5 : decode yB 5 = .ok (.aconst_null, 1) := by decide +kernel
theorem d6 : decode yB 6 = .ok (.invokespecial 27, 3) := by decide +kernel
theorem d9 : decode yB 9 = .ok (.return_, 1) := by decide +kernel
def site : List Cond := [New4.tab] ++ initW "java/lang/String" 27 New4.yN
def tab : Cond := tabOf yN yB 2 none site
def P (a : Addr) (D : Cell) (fV fC : Field) (b : Addr) (A : Cell) (z : Int32) (args : Array Value) (s : State) : Prop := args = #[.ref a, .ref b] ∧ Blank "java/lang/String" a D s ∧ Found "java/lang/String" "value" "[B" fV s ∧ Found "java/lang/String" "coder" "B" fC s ∧ Ch b A s ∧ StaticIs s "java/lang/String" "COMPACT_STRINGS" "Z" (.int z) ∧ ¬ z = 0 ∧ 0 < A.slots.size ∧ A.slots.size ≤ 536870912 ∧ ∀ i, i < A.slots.size → ¬ 255 < cv A i
def E (a : Addr) (D : Cell) (fV fC : Field) (A : Cell) (r : Option Value) (s u : State) : Prop := Got a D fV fC A 0 A.slots.size r s u
/-- new String(chars), not empty, no char above 255: a Latin-1 String of their low bytes -/
theorem law (l : Launch) (a : Addr) (D : Cell) (fV fC : Field) (b : Addr) (A : Cell) (z : Int32) : Law l yN 2 1 3 52 yB 2 none site (P a D fV fC b A z) (E a D fV fC A) [⟨a, fC.slot⟩, ⟨a, fV.slot⟩] 1 A.slots.size := by
  refine Law.of_walk (plainFor_of_name (by decide +kernel)) (by decide +kernel) (by decide +kernel) (by decide) (fun _ _ h => by rw [h.1]; rfl) (fun _ U U' hal hh h => ⟨h.1, h.2.1.mv hal hh, h.2.2.1.al hal, h.2.2.2.1.al hal, h.2.2.2.2.1.mv hal hh, h.2.2.2.2.2.1.there hal hh, h.2.2.2.2.2.2⟩) (fun r U U' V V' h1 hal h2 h => Got.mv r U U' V V' h1 hal h2 h) ?_
  intro p e s m args below meth c s₁ X0 hexec hbytes hml hret hlk hnm hown hh0 W hP
  obtain ⟨rfl, hB, f1, f2, hA, s1, hz, l0, l2, hp⟩ := hP
  have c1 : Steps p.tables e below (s₁.setTop (entryFrame m #[.ref a, .ref b] 2)) (s₁.setTop (mkF m 0 #[.val (.ref a), .val (.ref b)] [])) := entry rfl
  have c2 : Steps p.tables e below (s₁.setTop (entryFrame m #[.ref a, .ref b] 2)) (s₁.setTop (mkF m 6 #[.val (.ref a), .val (.ref b)] [.null, .int (Int32.ofNat A.slots.size), .int 0, .ref b, .ref a])) := c1.trans (by
    refine XS.aloadN X0.here hexec rfl (hb hbytes d0) rfl rfl ?_
    refine XS.aloadN X0.here hexec rfl (hb hbytes d1) rfl rfl ?_
    refine iconstV X0.here hexec rfl 0 (hb hbytes d2) (by decide) ?_
    refine XS.aloadN X0.here hexec rfl (hb hbytes d3) rfl rfl ?_
    refine X0.alen hexec (hA.1.mv X0.warmed.alike hh0) rfl rfl (hb hbytes d4) ?_
    refine XS.aconstNull X0.here hexec rfl (hb hbytes d5) ?_
    exact Steps.refl _)
  obtain ⟨v3, T3, X3, E3, g3⟩ := X0.callN hexec (New4.law l a D fV fC b A z 0 A.slots.size) rfl hown (wks W (initW "java/lang/String" 27 New4.yN)) (W New4.tab (by simp only [site, List.mem_cons, List.mem_append, true_or, or_true])) (W := 0) (Nat.le_of_ble_eq_true rfl) (Nat.le_of_ble_eq_true rfl) (Nat.le_refl _) (by show 0 + A.slots.size ≤ A.slots.size; omega) (g := (mkF m 6 #[.val (.ref a), .val (.ref b)] [.null, .int (Int32.ofNat A.slots.size), .int (Int32.ofNat 0), .ref b, .ref a])) rfl (by rw [hml]; rfl) c2 (argsL := [.ref b, .int (Int32.ofNat 0), .int (Int32.ofNat A.slots.size), .null]) (rest := []) rfl rfl (by show 2 * 0 + 0 ≤ _; decide) (hb hbytes d6) (⟨rfl, hB.mv X0.warmed.alike hh0, f1.al X0.warmed.alike, f2.al X0.warmed.alike, hA.mv X0.warmed.alike hh0, s1.there X0.warmed.alike hh0, hz, l0, by omega, l2, fun i hi => by rw [Nat.zero_add]; exact hp i hi⟩)
  have e0 := Got.mv _ s₁ s _ _ hh0.symm (Vm.Alike.refl _) rfl E3
  obtain rfl := e0.1
  have c4 : Steps p.tables e below (s₁.setTop (entryFrame m #[.ref a, .ref b] 2)) (T3.setTop (mkF m 9 #[.val (.ref a), .val (.ref b)] [])) := g3
  exact ⟨T3, none, _, _, _, X3, by simp, rfl, by omega, (fun _ => rfl), e0, fun fs hl => c4.trans (X3.returnOut hexec hret (hb hbytes d9) hl)⟩
theorem pays {l : Launch} {R : Room} {p : Program} {e : Env} {below : List Frame} {s : State} {sargs : Array Value} {len W : Nat} (a : Addr) (D : Cell) (fV fC : Field) (b : Addr) (A : Cell) (z : Int32) (htab : tab.before sargs s = true) (hfr : 4 ≤ R.frames) (hlo : W + 65 ≤ R.locals) :
    Back l R p e below s sargs yN len W (fun A₁ a₁ => A₁.cells + 1 ≤ R.cells ∧ A₁.slots + A.slots.size ≤ R.slots ∧ P a D fV fC b A z a₁ A₁.U) (fun A₁ _ v₁ B₁ => E a D fV fC A v₁ A₁.U B₁.U ∧ B₁.locs = A₁.locs ++ [⟨a, fC.slot⟩, ⟨a, fV.slot⟩] ∧ B₁.cells = A₁.cells + 1 ∧ B₁.slots = A₁.slots + A.slots.size) :=
  (law l a D fV fC b A z).pays htab hfr (by omega)
end New1
end StrChars
namespace StrChars.Road
open Jvm Sem ClassFile Op Lib Jvm.Stand Jvm.Free Jvm.Free.XT
open Jvm.Lib.Cold (StaticIs)
abbrev ST : String := "java/lang/String"
/-- every table word that New1's law asks, flat -/
abbrev words : List Jvm.Cond := [.code New1.yN New1.yB 2 none, .initialized ST, .methodLink ST 27 New4.yN, .instanceMethod New4.yN,
  .code New4.yN New4.yB 6 none, .fieldLink ST 38 ST "COMPACT_STRINGS" "Z", .laysFinal ST ST "value" "[B", .fieldLink ST 9 ST "value" "[B", .laysFinal ST ST "coder" "B", .fieldLink ST 15 ST "coder" "B",
  .methodLink ST 1 Lib.objectInit, .instanceMethod Lib.objectInit, .code Lib.objectInit ⟨#[0xb1]⟩ 1 none, .methodLink ST 177 Cmp3.yN, .static Cmp3.yN, .methodLink ST 47 CodL.yN, .static CodL.yN,
  .code Cmp3.yN Cmp3.yB 6 (some (.array .byte)), .initialized U16, .arrayClass .byte, .methodLink U16 115 Cmp5.yN, .static Cmp5.yN, .code Cmp5.yN Cmp5.yB 7 (some .int), .code CodL.yN CodL.yB 2 (some .byte)]
theorem tab_of {a : Array Value} {s : State} (h : ∀ w ∈ words, w.before a s = true) : New1.tab.before a s = true := by
  have h5 : Cmp5.tab.before a s = true := unparts (wk h (.code Cmp5.yN Cmp5.yB 7 (some .int))) (wks h (.initialized Cmp5.yN.cls :: Cmp5.site))
  have hc : CodL.tab.before a s = true := unparts (wk h (.code CodL.yN CodL.yB 2 (some .byte))) (wks h (.initialized CodL.yN.cls :: CodL.site))
  have q5 : ∀ w ∈ Cmp5.tab :: words, w.before a s = true := fun w hw => (List.mem_cons.mp hw).elim (fun e => e ▸ h5) (h w)
  have h3 : Cmp3.tab.before a s = true := unparts (wk q5 (.code Cmp3.yN Cmp3.yB 6 (some (.array .byte)))) (wks q5 (.initialized Cmp3.yN.cls :: Cmp3.site))
  have q3 : ∀ w ∈ Cmp3.tab :: CodL.tab :: words, w.before a s = true := fun w hw => (List.mem_cons.mp hw).elim (fun e => e ▸ h3) fun hw => (List.mem_cons.mp hw).elim (fun e => e ▸ hc) (h w)
  have h4 : New4.tab.before a s = true := unparts (wk q3 (.code New4.yN New4.yB 6 none)) (wks q3 (.initialized New4.yN.cls :: New4.site))
  have q4 : ∀ w ∈ New4.tab :: words, w.before a s = true := fun w hw => (List.mem_cons.mp hw).elim (fun e => e ▸ h4) (h w)
  exact unparts (wk q4 (.code New1.yN New1.yB 2 none)) (wks q4 (.initialized New1.yN.cls :: New1.site))
/-- the words ride from the start Z to the walk's own state -/
theorem moved {Z s : State} {a0 args : Array Value} (hZ : Z.Warmed39 s.vm) (hw : ∀ d ∈ words, d.before a0 Z = true) : ∀ d ∈ words, d.before args s = true := fun d hd => by
  have q := hw d hd
  have t : ∀ d ∈ words, d = .arrayClass .byte ∨ (d.onTables && d.keepsFace) = true := by decide +kernel
  rcases t d hd with rfl | t
  · exact RoadKit.mvA hZ q
  · exact RoadKit.mv hZ q t
/-- WHAT COMES BACK, over the tables of the start Z: h the heap at the call, h' behind it -/
def Q (Z : State) (x : Addr) (A : Cell) (h : Heap) (v : Option Value) (h' : Heap) (L : List Loc) : Prop := v = none ∧ (∀ y ∈ L, y.base = x) ∧ RoadKit.Keep h h' [x] ∧ h'.size = h.size + 1 ∧ RoadKit.Exa Z h' x ST ∧ RoadKit.Fld Z h' x ST "value" "[B" (.ref h.size) ∧ RoadKit.Fld Z h' x ST "coder" "B" (.int 0) ∧
  (∃ V : Cell, RoadKit.Arr Z h' h.size V .byte ∧ V.vm = .none ∧ Z.vm.findClass "[B" = some V.cls ∧ V.slots.size = A.slots.size ∧ ∀ j, j < A.slots.size → V.slots[j]? = some (.int (lo8 (cv A j)))) ∧
  ∀ (O n d : String) (w : Value), RoadKit.Fld Z h x O n d w → RoadKit.slotOf Z O n d ≠ RoadKit.slotOf Z ST "value" "[B" → RoadKit.slotOf Z O n d ≠ RoadKit.slotOf Z ST "coder" "B" → RoadKit.Fld Z h' x O n d w
/-- **new String(chars) AT A CALL, IN THE ROAD'S FORM**: for specialBack behind newO: x the fresh String, b the char[] with the cell A -/
theorem back {p : Program} {l : Launch} {e : Env} {R : Room} {s : State} {args : Array Value} {below : List Frame} {len W : Nat} {Z : State} {a0 : Array Value} {h : Heap} (hZ : Z.Warmed39 s.vm) (hw : ∀ d ∈ words, d.before a0 Z = true) {kI : Nat} (wi : (Jvm.Cond.instantiable ST kI).before a0 Z = true)
    {x b : Addr} {A : Cell} {z : Int32} {v0 c0 : Value} (E : RoadKit.Exa Z h x ST) (V : RoadKit.Fld Z h x ST "value" "[B" v0) (C : RoadKit.Fld Z h x ST "coder" "B" c0) (K : RoadKit.Arr Z h b A .char) (hty : Typed .char A) (S : RoadKit.Sta Z h ST "COMPACT_STRINGS" "Z" (.int z)) (hz : ¬ z = 0)
    (l0 : 0 < A.slots.size) (l2 : A.slots.size ≤ 536870912) (hp : ∀ i, i < A.slots.size → ¬ 255 < cv A i) (hfr : 4 ≤ R.frames) (hlo : W + 65 ≤ R.locals) :
    Back l R p e below s args New1.yN len W (fun P a => a = #[.ref x, .ref b] ∧ P.U.heap = h ∧ P.cells + 1 ≤ R.cells ∧ P.slots + A.slots.size ≤ R.slots)
      (fun P _ v B => ∃ L, Q Z x A h v B.U.heap L ∧ B.locs = P.locs ++ L ∧ B.cells = P.cells + 1 ∧ B.slots = P.slots + A.slots.size) := by
  intro m meth c P g ig mk a X hg hsize hdg hW hn hp'
  obtain ⟨rfl, rfl, r1, r2⟩ := hp'
  have al : Z.vm.Alike P.U.vm := hZ.alike.trans X.warmed.alike
  obtain ⟨D, cfV, kV, iV, fV, hD, gV, stV, knV, obV, asV, slV⟩ := id V
  obtain ⟨D', cfC, kC, iC, fC, hD', gC, stC, -, -, asC, slC⟩ := id C
  cases hD.symm.trans hD'
  obtain ⟨D2, kD, e1, e2, e3, e4, e5⟩ := id E
  cases hD.symm.trans e1
  obtain ⟨c2, k2, i1, i2, i3, -⟩ := Cond.instantiable_spec wi
  cases e2.symm.trans i1
  cases e3.symm.trans i2
  obtain ⟨kU, u1, u2⟩ := al.2.2 _ _ e3
  have hB : Blank ST x D P.U := ⟨hD, ⟨knV, fun q hq => by rw [hq] at obV; cases obV⟩, by rw [al.findClass]; exact e2, kU, u1, by rw [u2]; exact i3, by rw [u2]; exact e5 i3⟩
  have F1 : Found ST "value" "[B" fV P.U := ⟨SBG.found_only al ⟨cfV, kV, iV, gV⟩, stV⟩
  have F2 : Found ST "coder" "B" fC P.U := ⟨SBG.found_only al ⟨cfC, kC, iC, gC⟩, stC⟩
  have hA : Ch b A P.U := ⟨⟨K.1, State.isArrayOf_alike al K.2.1, K.2.2, by omega⟩, hty⟩
  have hS : StaticIs P.U ST "COMPACT_STRINGS" "Z" (.int z) := by
    obtain ⟨cfS, iS, kS, fS, st, cS, t1, t2, t3, t4, t5, t6, t7⟩ := S
    exact StaticIs.there (s := { Z with heap := P.U.heap }) ⟨cfS, iS, kS, fS, st, cS, t1, t2, t3, t4, t5, (fun q => by rw [q] at t6; cases t6), t7⟩ al rfl
  obtain ⟨v, B, X', ⟨⟨hv, E', V', q1, q2, q3, q4, q5, q6, q7, q8, q9, q10, q11⟩, hl, hc, hs⟩, st⟩ := New1.pays x D fV fC b A z (tab_of (moved hZ hw)) hfr hlo m meth c P g ig mk _ X hg hsize hdg hW hn ⟨r1, r2, rfl, hB, F1, F2, hA, hS, hz, l0, l2, hp⟩
  have al' : Z.vm.Alike B.U.vm := hZ.alike.trans X'.warmed.alike
  have hsz : E'.slots.size = D.slots.size := by
    obtain ⟨-, -, -, kB, w1, w2, w3⟩ := q1
    obtain ⟨kB', y1, y2⟩ := al'.2.2 _ _ e3
    rw [q2.2.1] at w1
    cases w1.symm.trans y1
    rw [w3, e5 i3, y2]
  refine ⟨v, B, X', ⟨_, ⟨hv, ?_, ⟨by omega, fun y cy hy hn' => q10 y cy (by simpa using hn') hy, fun y cy hy => ?_⟩, q11, ⟨E', _, q1.1, by rw [q2.2.1]; exact e2, by rw [q2.2.1]; exact e3, by rw [q2.1]; exact obV, fun _ => by rw [hsz]; exact e5 i3⟩,
    ⟨E', cfV, kV, iV, fV, q1.1, gV, stV, by rw [q2.1]; exact knV, by rw [q2.1]; exact obV, by rw [q2.2.1]; exact asV, q3⟩, ⟨E', cfC, kC, iC, fC, q1.1, gC, stC, by rw [q2.1]; exact knV, by rw [q2.1]; exact obV, by rw [q2.2.1]; exact asC, q4⟩,
    ⟨V', ⟨q5.1, State.isArrayOf_alike al'.symm q5.2.1, q5.2.2.1⟩, q6, by rw [← al'.findClass]; exact q7, q8, fun j hj => by have := q9 j hj; rwa [Nat.zero_add] at this⟩, fun O n d w F n1 n2 => ?_⟩, hl, hc, hs⟩, st⟩
  · intro y hy
    simp only [List.mem_cons, List.not_mem_nil, or_false] at hy
    rcases hy with rfl | rfl <;> rfl
  · by_cases q : y = x
    · subst q
      cases hD.symm.trans hy
      exact ⟨E', q1.1, q2.2.1, q2.1, hsz⟩
    · exact ⟨cy, q10 y cy q hy, rfl, rfl, rfl⟩
  · obtain ⟨D3, cf, k, i, f, g1, g2, g3, g4, g5, g6, g7⟩ := F
    cases hD.symm.trans g1
    simp only [RoadKit.slotOf, g2, gV, gC, Option.map_some, Option.getD_some] at n1 n2
    exact ⟨E', cf, k, i, f, q1.1, g2, g3, by rw [q2.1]; exact g4, by rw [q2.1]; exact g5, by rw [q2.2.1]; exact g6, by rw [q2.2.2 f.slot (by simp [n1, n2])]; exact g7⟩
end StrChars.Road
namespace StrChars.Road
open Jvm Sem ClassFile Op Lib Jvm.Stand Jvm.Free Jvm.Free.XT
/-- WHAT COMES BACK, the byte[] as a list of values -/
def QA (Z : State) (x : Addr) (zn : Int32) (cs : List Int32) (h : Heap) (v : Option Value) (h' : Heap) (L : List Loc) : Prop := v = none ∧ (∀ y ∈ L, y.base = x) ∧ RoadKit.Keep h h' [x] ∧ h'.size = h.size + 1 ∧ RoadKit.Exa Z h' x ST ∧ RoadKit.Fld Z h' x ST "value" "[B" (.ref h.size) ∧ RoadKit.Fld Z h' x ST "coder" "B" (.int 0) ∧
  (∃ kb, Z.vm.findClass "[B" = some kb ∧ RoadKit.Arv Z h' h.size kb .byte zn (cs.map fun c => .int (lo8 c)) (.int 0)) ∧
  ∀ (O n d : String) (w : Value), RoadKit.Fld Z h x O n d w → RoadKit.slotOf Z O n d ≠ RoadKit.slotOf Z ST "value" "[B" → RoadKit.slotOf Z O n d ≠ RoadKit.slotOf Z ST "coder" "B" → RoadKit.Fld Z h' x O n d w
/-- **new String(chars) AT A CALL, THE ARRAYS AS LISTS**: the char[] at b holds cs, not empty, no char above 255 -/
theorem backArv {p : Program} {l : Launch} {e : Env} {R : Room} {s : State} {args : Array Value} {below : List Frame} {len W : Nat} {Z : State} {a0 : Array Value} {h : Heap} (hZ : Z.Warmed39 s.vm) (hw : ∀ d ∈ words, d.before a0 Z = true) {kI : Nat} (wi : (Jvm.Cond.instantiable ST kI).before a0 Z = true)
    {x b : Addr} {k : ClassId} {zn z : Int32} {cs : List Int32} {dv v0 c0 : Value} (E : RoadKit.Exa Z h x ST) (V : RoadKit.Fld Z h x ST "value" "[B" v0) (C : RoadKit.Fld Z h x ST "coder" "B" c0) (K : RoadKit.Arv Z h b k .char zn (cs.map Value.int) dv) (S : RoadKit.Sta Z h ST "COMPACT_STRINGS" "Z" (.int z)) (hz : ¬ z = 0)
    (hlen : zn.toNatClampNeg = cs.length) (h0 : 0 < cs.length) (hbig : cs.length ≤ 536870912) (hall : ∀ c ∈ cs, ¬ 255 < c) (hfr : 4 ≤ R.frames) (hlo : W + 65 ≤ R.locals) :
    Back l R p e below s args New1.yN len W (fun P a => a = #[.ref x, .ref b] ∧ P.U.heap = h ∧ P.cells + 1 ≤ R.cells ∧ P.slots + cs.length ≤ R.slots)
      (fun P _ v B => ∃ L, QA Z x zn cs h v B.U.heap L ∧ B.locs = P.locs ++ L ∧ B.cells = P.cells + 1 ∧ B.slots = P.slots + cs.length) := by
  obtain ⟨A, K1, K2, K3, K4, K5, K6⟩ := K
  have e : A.slots.size = cs.length := K3.trans hlen
  have hat : ∀ (i : Nat) (hi : i < cs.length), A.slots[i]? = some (.int cs[i]) := fun i hi => by rw [K5 i (by omega)]; simp [List.getD_eq_getElem?_getD, hi]
  have hcv : ∀ (i : Nat) (hi : i < cs.length), cv A i = cs[i] := fun i hi => by unfold cv; rw [hat i hi]
  have hty : Typed .char A := fun i v hv => by
    have hi : i < A.slots.size := (Array.getElem?_eq_some_iff.mp hv).1
    have q := K5 i hi
    rw [hv] at q
    rw [Option.some.inj q]
    exact K6 i hi
  refine Back.mono (back hZ hw wi E V C K1 hty S hz (by omega) (by omega) (fun i hi => by rw [hcv i (by omega)]; exact hall _ (List.getElem_mem _)) hfr hlo) (fun P a hp => ⟨hp.1, hp.2.1, hp.2.2.1, by rw [e]; exact hp.2.2.2⟩) (fun P a v B hp hq => ?_)
  obtain ⟨L, ⟨q1, q2, q3, q4, q5, q6, q7, ⟨V', v1, v2, v3, v4, v5⟩, q9⟩, hl, hc, hs⟩ := hq
  refine ⟨L, ⟨q1, q2, q3, q4, q5, q6, q7, ⟨V'.cls, v3, V', v1, rfl, by rw [v4, e, hlen], K4, fun i hi => ?_, fun i hi => ?_⟩, q9⟩, hl, hc, by rw [hs, e]⟩
  · have hi' : i < cs.length := by omega
    rw [v5 i (by omega), hcv i hi']; simp [List.getD_eq_getElem?_getD, hi']
  · have hi' : i < cs.length := by omega
    simp only [List.getD_eq_getElem?_getD, List.getElem?_map, List.getElem?_eq_getElem hi', Option.map_some, Option.getD_some]
    exact fits_lo8 _
end StrChars.Road
namespace StrChars.Road
open Jvm Sem ClassFile Op Lib Jvm.Stand Jvm.Free Jvm.Free.XT
/-- WHAT COMES BACK, in the writer's own shape -/
def QV (Z : State) (x : Addr) (N : Int32) (bs : List Int32) (h : Heap) (n0 : Nat) (v : Option Value) (h' : Heap) (L : List Loc) : Prop := v = none ∧ RoadKit.Fr n0 L ∧ RoadKit.Keep h h' [x] ∧ RoadKit.Exa Z h' x ST ∧ RoadKit.Fld Z h' x ST "coder" "B" (.int 0) ∧
  ∃ (t : Addr) (kb : ClassId), n0 ≤ t ∧ h.size ≤ t ∧ ¬ t = x ∧ RoadKit.Fld Z h' x ST "value" "[B" (.ref t) ∧ RoadKit.Arv Z h' t kb .byte N (bs.map Value.int) (.int 0)
/-- **new String(chars) AT A CALL, FOR THE WRITER**: a char[] of n known ints, each 0 to 255 -/
theorem backV {p : Program} {l : Launch} {e : Env} {R : Room} {s : State} {args : Array Value} {below : List Frame} {len W : Nat} {Z : State} {a0 : Array Value} {h : Heap} (hZ : Z.Warmed39 s.vm) (hw : ∀ d ∈ words, d.before a0 Z = true) {kI : Nat} (wi : (Jvm.Cond.instantiable ST kI).before a0 Z = true)
    {x b : Addr} {kC : ClassId} {cs bs : List Int32} {d v0 c0 : Value} {z N : Int32} {n n0 : Nat} (hx0 : n0 ≤ x) (hh0 : n0 ≤ h.size) (E : RoadKit.Exa Z h x ST) (V : RoadKit.Fld Z h x ST "value" "[B" v0) (C : RoadKit.Fld Z h x ST "coder" "B" c0) (K : RoadKit.Arv Z h b kC .char N (cs.map Value.int) d) (S : RoadKit.Sta Z h ST "COMPACT_STRINGS" "Z" (.int z)) (hz : ¬ z = 0)
    (hn : cs.length = n) (hN : N = Int32.ofNat n) (l0 : 0 < n) (l2 : n ≤ 4000) (hp : ∀ c ∈ cs, ¬ c < 0 ∧ ¬ (255 : Int32) < c) (hb : bs = cs.map (fun c => c.toInt8.toInt32)) (hfr : 4 ≤ R.frames) (hlo : W + 65 ≤ R.locals) :
    Back l R p e below s args (⟨"java/lang/String", "<init>", "([C)V"⟩ : MethodName) len W (fun P a => a = #[.ref x, .ref b] ∧ P.U.heap = h ∧ P.cells + 1 ≤ R.cells ∧ P.slots + n ≤ R.slots)
      (fun P _ v B => ∃ L, QV Z x N bs h n0 v B.U.heap L ∧ B.locs = P.locs ++ L ∧ B.cells = P.cells + 1 ∧ B.slots = P.slots + n) := by
  subst hn hN hb
  refine Back.mono (backArv hZ hw wi E V C K S hz (n32 (by omega)) l0 (by omega) (fun c hc => (hp c hc).2) hfr hlo) (fun P a hp => hp) (fun P a v B hp hq => ?_)
  obtain ⟨L, ⟨q1, q2, q3, q4, q5, q6, q7, ⟨kb, v1, v2⟩, q9⟩, hl, hc, hs⟩ := hq
  exact ⟨L, ⟨q1, fun y hy => by rw [q2 y hy]; exact hx0, q3, q5, q7, h.size, kb, hh0, Nat.le_refl _, Nat.ne_of_gt E.lt, q6, by rw [List.map_map]; exact v2⟩, hl, hc, hs⟩
end StrChars.Road
namespace StrChars
open Jvm Sem ClassFile Op Lib Jvm.Stand Jvm.Free.XT Jvm.Free.ALB Jvm.Free.JM Jvm.Free
open Jvm.Lib.Cold (StaticIs)
def hi8 (x : Int32) : Int32 := lo8 (x >>> ((8 : Int32) &&& 31))
theorem shr0 (c : Int32) : c >>> ((0 : Int32) &&& 31) = c := by
  have e : ((0 : Int32) &&& 31) = 0 := by decide
  rw [e]
  apply Int32.toBitVec_inj.mp
  rw [Int32.toBitVec_shiftRight]
  have e1 : ((0 : Int32).toBitVec.smod 32) = 0#32 := by decide
  rw [e1, BitVec.sshiftRight_eq']
  exact BitVec.sshiftRight_zero
end StrChars
namespace StrChars
open Jvm Sem ClassFile Op Lib Jvm.Stand Jvm.Free.XT Jvm.Free.ALB Jvm.Free.JM Jvm.Free
open Jvm.Lib.Cold (StaticIs)
theorem shr1 {n : Nat} (h : 2 * n < 2 ^ 31) : Int32.ofNat (2 * n) >>> ((1 : Int32) &&& 31) = Int32.ofNat n := by
  have e : ((1 : Int32) &&& 31) = 1 := by decide
  rw [e]
  apply Int32.toBitVec_inj.mp
  rw [Int32.toBitVec_shiftRight]
  have e1 : ((1 : Int32).toBitVec.smod 32) = 1#32 := by decide
  have hm : (BitVec.ofNat 32 (2 * n)).toNat = 2 * n := by rw [BitVec.toNat_ofNat, Nat.mod_eq_of_lt (by omega)]
  rw [e1, BitVec.sshiftRight_eq']
  apply BitVec.eq_of_toNat_eq
  show ((BitVec.ofNat 32 (2 * n)).sshiftRight 1).toNat = (BitVec.ofNat 32 n).toNat
  rw [BitVec.toNat_sshiftRight_of_msb_false (by rw [BitVec.msb_eq_false_iff_two_mul_lt, hm]; omega), hm, BitVec.toNat_ofNat, Nat.shiftRight_eq_div_pow]
  omega
/-- the array's cell V codes the n chars f 0 .. f (n - 1) by the coder cd, as the JDK does: coder 1 just where some char is above 255 -/
def Cod (cd : Int32) (n : Nat) (f : Nat → Int32) (V : Cell) : Prop := (cd = 0 ∧ V.slots.size = n ∧ ∀ j, j < n → V.slots[j]? = some (.int (lo8 (f j))) ∧ ¬ 255 < f j) ∨ (cd = 1 ∧ V.slots.size = 2 * n ∧ (∀ j, j < n → V.slots[2 * j]? = some (.int (lo8 (f j))) ∧ V.slots[2 * j + 1]? = some (.int (hi8 (f j)))) ∧ ∃ j, j < n ∧ 255 < f j)
theorem Cod.cd {cd : Int32} {n : Nat} {f : Nat → Int32} {V : Cell} (h : Cod cd n f V) : cd = 0 ∨ cd = 1 := h.imp (fun q => q.1) fun q => q.1
theorem Cod.len {cd : Int32} {n : Nat} {f : Nat → Int32} {V : Cell} (h : Cod cd n f V) (hs : V.slots.size < 2 ^ 31) : Int32.ofNat V.slots.size >>> (cd &&& 31) = Int32.ofNat n := by
  rcases h with ⟨rfl, h, -⟩ | ⟨rfl, h, -⟩
  · rw [shr0, h]
  · rw [h, shr1 (by omega)]
/-- **x is a String of the n chars f 0 .. f (n - 1)**, Latin-1 or UTF-16; its array at t has the cell V -/
def Txt (x t : Addr) (V : Cell) (cd : Int32) (n : Nat) (f : Nat → Int32) (U : State) : Prop := Exact "java/lang/String" x U ∧ Has x "java/lang/String" "value" "[B" (.ref t) U ∧ Has x "java/lang/String" "coder" "B" (.int cd) U ∧ XT.Arr .byte t V U ∧ Cod cd n f V ∧ ∀ j, j < n → ¬ f j < 0 ∧ ¬ 65535 < f j
theorem Txt.mv {x t : Addr} {V : Cell} {cd : Int32} {n : Nat} {f : Nat → Int32} {U U' : State} (h : Txt x t V cd n f U) (hal : U.vm.Alike U'.vm) (hh : U'.heap = U.heap) : Txt x t V cd n f U' := ⟨h.1.mv hal hh, h.2.1.mv hal hh, h.2.2.1.mv hal hh, h.2.2.2.1.mv hal hh, h.2.2.2.2⟩
namespace Cdr
def yN : MethodName := ⟨"java/lang/String", "coder", "()B"⟩
abbrev yB : ByteArray := jdk_42_method_152_code
theorem d0 : decode yB 0 = .ok (.getstatic 38, 3) := by decide +kernel
theorem d3 : decode yB 3 = .ok (.ifCond (.eq) 10, 3) := by decide +kernel
theorem d6 : decode yB 6 = .ok (.aload_n 0, 1) := by decide +kernel
theorem d7 : decode yB 7 = .ok (.getfield 15, 3) := by decide +kernel
theorem d10 : decode yB 10 = .ok (.goto 4, 3) := by decide +kernel
theorem d14 : decode yB 14 = .ok (.ireturn, 1) := by decide +kernel
def site : List Cond := [.fieldLink "java/lang/String" 38 "java/lang/String" "COMPACT_STRINGS" "Z", .fieldLink "java/lang/String" 15 "java/lang/String" "coder" "B"]
def tab : Cond := tabOf yN yB 1 (some .byte) site
def P (x : Addr) (cd z : Int32) (args : Array Value) (s : State) : Prop := args = #[.ref x] ∧ Has x "java/lang/String" "coder" "B" (.int cd) s ∧ (cd = 0 ∨ cd = 1) ∧ StaticIs s "java/lang/String" "COMPACT_STRINGS" "Z" (.int z) ∧ ¬ z = 0
def E (cd : Int32) (r : Option Value) (s u : State) : Prop := XT.PureE (some (.int cd)) r s u
theorem law (l : Launch) (x : Addr) (cd z : Int32) : Law l yN 1 0 0 0 yB 1 (some .byte) site (P x cd z) (E cd) [] 0 0 := by
  refine Law.of_walk (plainFor_of_name (by decide +kernel)) (by decide +kernel) (by decide +kernel) (by decide) (fun _ _ h => by rw [h.1]; rfl) (fun _ U U' hal hh h => ⟨h.1, h.2.1.mv hal hh, h.2.2.1, h.2.2.2.1.there hal hh, h.2.2.2.2⟩) (fun r U U' V V' h1 hal h2 h => XT.PureE.mv r U U' V V' h1 hal h2 h) ?_
  intro p e s m args below meth c s₁ X0 hexec hbytes hml hret hlk hnm hown hh0 W hP
  obtain ⟨rfl, hx, hc, s1, hz⟩ := hP
  have c1 : Steps p.tables e below (s₁.setTop (entryFrame m #[.ref x] 1)) (s₁.setTop (mkF m 0 #[.val (.ref x)] [])) := entry rfl
  obtain ⟨T2, X2, q2, st2⟩ := X0.sget hexec hown (wk W (.fieldLink "java/lang/String" 38 "java/lang/String" "COMPACT_STRINGS" "Z")) s1 (fun _ _ h => by rw [hh0]; exact h) (g := (mkF m 0 #[.val (.ref x)] [])) rfl (hb hbytes d0)
  have hh2 := q2.trans hh0
  have c3 : Steps p.tables e below (s₁.setTop (entryFrame m #[.ref x] 1)) (T2.setTop (mkF m 7 #[.val (.ref x)] [.ref x])) := (c1.trans (st2 _ (Steps.refl _))).trans (by
    refine XS.ifNo X2.here hexec rfl (hb hbytes d3) rfl (i0_eq_f hz) ?_
    refine XS.aloadN X2.here hexec rfl (hb hbytes d6) rfl rfl ?_
    exact Steps.refl _)
  obtain ⟨T4, X4, q4, st4⟩ := X2.hget hexec hown (wk W (.fieldLink "java/lang/String" 15 "java/lang/String" "coder" "B")) (hx.mv X2.warmed.alike hh2) (g := (mkF m 7 #[.val (.ref x)] [.ref x])) rfl (rest := []) rfl (hb hbytes d7)
  have c5 : Steps p.tables e below (s₁.setTop (entryFrame m #[.ref x] 1)) (T4.setTop (mkF m 14 #[.val (.ref x)] [.int cd])) := (c3.trans (st4 _ (Steps.refl _))).trans (by
    refine XS.goto X4.here hexec rfl (pc0 := 10) rfl (hb hbytes d10) (by decide) rfl ?_
    exact Steps.refl _)
  exact ⟨T4, some (.int cd), _, _, _, X4, rfl, rfl, rfl, (fun h => by cases h), ⟨rfl, q4.trans hh2⟩, fun fs hl => c5.trans (X4.ireturnOut hexec hret (by rcases hc with rfl | rfl <;> rfl) (Or.inr (Or.inr (Or.inl rfl))) (hb hbytes d14) hl)⟩
end Cdr
namespace Len
def yN : MethodName := ⟨"java/lang/String", "length", "()I"⟩
abbrev yB : ByteArray := jdk_42_method_54_code
theorem d0 : decode yB 0 = .ok (.aload_n 0, 1) := by decide +kernel
theorem d1 : decode yB 1 = .ok (.getfield 9, 3) := by decide +kernel
theorem d4 : decode yB 4 = .ok (.arraylength, 1) := by decide +kernel
theorem d5 : decode yB 5 = .ok (.aload_n 0, 1) := by decide +kernel
theorem d6 : decode yB 6 = .ok (.invokevirtual 335, 3) := by decide +kernel
theorem d9 : decode yB 9 = .ok (.ishr, 1) := by decide +kernel
theorem d10 : decode yB 10 = .ok (.ireturn, 1) := by decide +kernel
def site : List Cond := [.fieldLink "java/lang/String" 9 "java/lang/String" "value" "[B", Cdr.tab] ++ virtW "java/lang/String" 335 "java/lang/String" Cdr.yN Cdr.yN
def tab : Cond := tabOf yN yB 1 (some .int) site
def P (x t : Addr) (V : Cell) (cd : Int32) (n : Nat) (f : Nat → Int32) (z : Int32) (args : Array Value) (s : State) : Prop := args = #[.ref x] ∧ Txt x t V cd n f s ∧ StaticIs s "java/lang/String" "COMPACT_STRINGS" "Z" (.int z) ∧ ¬ z = 0
def E (n : Nat) (r : Option Value) (s u : State) : Prop := XT.PureE (some (.int (Int32.ofNat n))) r s u
/-- length() of a String of n chars, in either coding -/
theorem law (l : Launch) (x t : Addr) (V : Cell) (cd : Int32) (n : Nat) (f : Nat → Int32) (z : Int32) : Law l yN 1 0 1 13 yB 1 (some .int) site (P x t V cd n f z) (E n) [] 0 0 := by
  refine Law.of_walk (plainFor_of_name (by decide +kernel)) (by decide +kernel) (by decide +kernel) (by decide) (fun _ _ h => by rw [h.1]; rfl) (fun _ U U' hal hh h => ⟨h.1, h.2.1.mv hal hh, h.2.2.1.there hal hh, h.2.2.2⟩) (fun r U U' V V' h1 hal h2 h => XT.PureE.mv r U U' V V' h1 hal h2 h) ?_
  intro p e s m args below meth c s₁ X0 hexec hbytes hml hret hlk hnm hown hh0 W hP
  obtain ⟨rfl, hx, s1, hz⟩ := hP
  have v31 := hx.2.2.2.1.2.2.2
  have c1 : Steps p.tables e below (s₁.setTop (entryFrame m #[.ref x] 1)) (s₁.setTop (mkF m 1 #[.val (.ref x)] [.ref x])) := Steps.trans (entry rfl) (by
    show Steps p.tables e below (s₁.setTop (mkF m 0 #[.val (.ref x)] [])) _
    refine XS.aloadN X0.here hexec rfl (hb hbytes d0) rfl rfl ?_
    exact Steps.refl _)
  obtain ⟨T2, X2, q2, st2⟩ := X0.hget hexec hown (wk W (.fieldLink "java/lang/String" 9 "java/lang/String" "value" "[B")) (hx.mv X0.warmed.alike hh0).2.1 (g := (mkF m 1 #[.val (.ref x)] [.ref x])) rfl (rest := []) rfl (hb hbytes d1)
  have hh2 := q2.trans hh0
  have hx2 := hx.mv X2.warmed.alike hh2
  have c3 : Steps p.tables e below (s₁.setTop (entryFrame m #[.ref x] 1)) (T2.setTop (mkF m 6 #[.val (.ref x)] [.ref x, .int (Int32.ofNat V.slots.size)])) := (c1.trans (st2 _ (Steps.refl _))).trans (by
    refine X2.alen hexec hx2.2.2.2.1 rfl rfl (hb hbytes d4) ?_
    refine XS.aloadN X2.here hexec rfl (hb hbytes d5) rfl rfl ?_
    exact Steps.refl _)
  obtain ⟨v4, T4, X4, E4, g4⟩ := X2.callV hexec (Cdr.law l x cd z) hown (wks W (virtW "java/lang/String" 335 "java/lang/String" Cdr.yN Cdr.yN)) rfl (by decide) (wk W Cdr.tab) (W := 1) (Nat.le_of_ble_eq_true rfl) (Nat.le_of_ble_eq_true rfl) (Nat.le_refl _) (Nat.le_refl _) (hx2.1.fc X2.warmed.alike) hx2.1.is (g := (mkF m 6 #[.val (.ref x)] [.ref x, .int (Int32.ofNat V.slots.size)])) rfl (by rw [hml]; rfl) c3 (argsL := []) (rest := [.int (Int32.ofNat V.slots.size)]) rfl rfl (by show 2 * 0 + (1 + 0) ≤ _; decide) (hb hbytes d6) (⟨rfl, hx2.2.2.1, hx.2.2.2.2.1.cd, s1.there X2.warmed.alike hh2, hz⟩)
  obtain ⟨rfl, q4⟩ := E4
  have c5 : Steps p.tables e below (s₁.setTop (entryFrame m #[.ref x] 1)) (T4.setTop (mkF m 10 #[.val (.ref x)] [.int (Int32.ofNat V.slots.size >>> (cd &&& 31))])) := Steps.trans g4 (by
    refine ishr X4.here hexec rfl (hb hbytes d9) rfl ?_
    exact Steps.refl _)
  rw [hx.2.2.2.2.1.len v31] at c5
  exact ⟨T4, some (.int (Int32.ofNat n)), _, _, _, X4, rfl, rfl, rfl, (fun h => by cases h), ⟨rfl, q4.trans hh2⟩, fun fs hl => c5.trans (X4.ireturnOut hexec hret rfl (Or.inl rfl) (hb hbytes d10) hl)⟩
theorem pays {l : Launch} {R : Room} {p : Program} {e : Env} {below : List Frame} {s : State} {sargs : Array Value} {len W : Nat} (x t : Addr) (V : Cell) (cd : Int32) (n : Nat) (f : Nat → Int32) (z : Int32) (htab : tab.before sargs s = true) (hfr : 2 ≤ R.frames) (hlo : W + 25 ≤ R.locals) :
    Back l R p e below s sargs yN len W (fun A₁ a₁ => A₁.cells + 0 ≤ R.cells ∧ A₁.slots + 0 ≤ R.slots ∧ P x t V cd n f z a₁ A₁.U) (fun A₁ _ v₁ B₁ => E n v₁ A₁.U B₁.U ∧ B₁.locs = A₁.locs ++ [] ∧ B₁.cells = A₁.cells + 0 ∧ B₁.slots = A₁.slots + 0) :=
  (law l x t V cd n f z).pays htab hfr (by omega)
end Len
end StrChars
namespace StrChars.Road
open Jvm Sem ClassFile Op Lib Jvm.Stand Jvm.Free Jvm.Free.XT
open Jvm.Lib.Cold (StaticIs)
theorem consq {a : Array Value} {s : State} {c : Jvm.Cond} {L : List Jvm.Cond} (h0 : c.before a s = true) (h : ∀ w ∈ L, w.before a s = true) : ∀ w ∈ c :: L, w.before a s = true := fun w hw => (List.mem_cons.mp hw).elim (fun e => e ▸ h0) (h w)
/-- the words of String.length(), either coding -/
abbrev wordsLen : List Jvm.Cond := [.code Len.yN Len.yB 1 (some .int), .initialized ST, .fieldLink ST 9 ST "value" "[B", .fieldLink ST 38 ST "COMPACT_STRINGS" "Z", .fieldLink ST 15 ST "coder" "B", .code Cdr.yN Cdr.yB 1 (some .byte), .methodLink ST 335 Cdr.yN, .declares Cdr.yN, .selects ST Cdr.yN Cdr.yN, .instanceMethod Cdr.yN]
theorem tabLen_of {a : Array Value} {s : State} (h : ∀ w ∈ wordsLen, w.before a s = true) : Len.tab.before a s = true := by
  have hc : Cdr.tab.before a s = true := unparts (wk h (.code Cdr.yN Cdr.yB 1 (some .byte))) (wks h (.initialized Cdr.yN.cls :: Cdr.site))
  have q := consq hc h
  exact unparts (wk q (.code Len.yN Len.yB 1 (some .int))) (wks q (.initialized Len.yN.cls :: Len.site))
theorem movedLen {Z s : State} {a0 args : Array Value} (hZ : Z.Warmed39 s.vm) (hw : ∀ d ∈ wordsLen, d.before a0 Z = true) : ∀ d ∈ wordsLen, d.before args s = true := fun d hd => by
  have q := hw d hd
  have t : ∀ d ∈ wordsLen, d = .arrayClass .byte ∨ (d.onTables && d.keepsFace) = true := by decide +kernel
  rcases t d hd with rfl | t
  · exact RoadKit.mvA hZ q
  · exact RoadKit.mv hZ q t
/-- the bytes of the chars cs, low before high -/
def wideBytes : List Int32 → List Value
  | [] => []
  | c :: cs => .int (lo8 c) :: .int (hi8 c) :: wideBytes cs
theorem wide_lo (d : Value) : ∀ (cs : List Int32) (j : Nat), j < cs.length → (wideBytes cs).getD (2 * j) d = .int (lo8 (cs.getD j 0))
  | [], j, h => absurd h (Nat.not_lt_zero j)
  | c :: cs, 0, _ => rfl
  | c :: cs, j + 1, h => by
    have q := wide_lo d cs j (by simpa using h)
    rw [show 2 * (j + 1) = 2 * j + 1 + 1 from by omega]
    simpa [wideBytes] using q
theorem wide_hi (d : Value) : ∀ (cs : List Int32) (j : Nat), j < cs.length → (wideBytes cs).getD (2 * j + 1) d = .int (hi8 (cs.getD j 0))
  | [], j, h => absurd h (Nat.not_lt_zero j)
  | c :: cs, 0, _ => rfl
  | c :: cs, j + 1, h => by
    have q := wide_hi d cs j (by simpa using h)
    rw [show 2 * (j + 1) + 1 = 2 * j + 1 + 1 + 1 from by omega]
    simpa [wideBytes] using q
theorem low_at (d : Value) (cs : List Int32) (j : Nat) (h : j < cs.length) : (cs.map fun c => Value.int (lo8 c)).getD j d = .int (lo8 (cs.getD j 0)) := by
  simp [List.getD_eq_getElem?_getD, h]
/-- an array of N2 bytes vs codes the chars cs by the coder cd -/
def CodA (cs : List Int32) (cd N2 : Int32) (vs : List Value) : Prop := (cd = 0 ∧ N2 = Int32.ofNat cs.length ∧ vs = (cs.map fun c => Value.int (lo8 c)) ∧ ∀ c ∈ cs, ¬ 255 < c) ∨ (cd = 1 ∧ N2 = Int32.ofNat (2 * cs.length) ∧ vs = wideBytes cs ∧ ∃ c ∈ cs, 255 < c)
theorem CodA.cod {cs : List Int32} {cd N2 : Int32} {vs : List Value} {V : Cell} (h : CodA cs cd N2 vs) (hn : 2 * cs.length < 2 ^ 31) (hs : V.slots.size = N2.toNatClampNeg) (hv : RoadKit.Has V vs (.int 0)) : Cod cd cs.length (fun j => cs.getD j 0) V := by
  rcases h with ⟨rfl, rfl, rfl, h⟩ | ⟨rfl, rfl, rfl, c, hc, hw⟩
  · rw [n32 (by omega)] at hs
    exact Or.inl ⟨rfl, hs, fun j hj => ⟨by rw [hv j (by omega), low_at _ _ _ hj], by
      have e : cs.getD j 0 = cs[j] := by simp [List.getD_eq_getElem?_getD, hj]
      show ¬ 255 < cs.getD j 0
      rw [e]; exact h _ (List.getElem_mem _)⟩⟩
  · rw [n32 (by omega)] at hs
    obtain ⟨j, hj, rfl⟩ := List.getElem_of_mem hc
    exact Or.inr ⟨rfl, hs, fun j hj => ⟨by rw [hv _ (by omega), wide_lo _ _ _ hj], by rw [hv _ (by omega), wide_hi _ _ _ hj]⟩, j, hj, by
      have e : cs.getD j 0 = cs[j] := by simp [List.getD_eq_getElem?_getD, hj]
      show 255 < cs.getD j 0
      rw [e]; exact hw⟩
/-- an object of exactly java/lang/String, its two fields found: as the laws ask it -/
theorem strObj {Z U : State} {a0 : Array Value} {kI : Nat} (wi : (Jvm.Cond.instantiable ST kI).before a0 Z = true) (al : Z.vm.Alike U.vm) {x : Addr} {v0 c0 : Value} (E : RoadKit.Exa Z U.heap x ST) (V : RoadKit.Fld Z U.heap x ST "value" "[B" v0) (C : RoadKit.Fld Z U.heap x ST "coder" "B" c0) :
    ∃ (D : Cell) (fV fC : Field), Blank ST x D U ∧ Found ST "value" "[B" fV U ∧ Found ST "coder" "B" fC U ∧ D.slots[fV.slot]? = some v0 ∧ D.slots[fC.slot]? = some c0 ∧ RoadKit.slotOf Z ST "value" "[B" = fV.slot ∧ RoadKit.slotOf Z ST "coder" "B" = fC.slot := by
  obtain ⟨D, cfV, kV, iV, fV, hD, gV, stV, knV, obV, asV, slV⟩ := V
  obtain ⟨D', cfC, kC, iC, fC, hD', gC, stC, -, -, asC, slC⟩ := C
  cases hD.symm.trans hD'
  obtain ⟨D2, kD, e1, e2, e3, e4, e5⟩ := E
  cases hD.symm.trans e1
  obtain ⟨c2, k2, i1, i2, i3, -⟩ := Cond.instantiable_spec wi
  cases e2.symm.trans i1
  cases e3.symm.trans i2
  obtain ⟨kU, u1, u2⟩ := al.2.2 _ _ e3
  exact ⟨D, fV, fC, ⟨hD, ⟨knV, fun q hq => by rw [hq] at obV; cases obV⟩, by rw [al.findClass]; exact e2, kU, u1, by rw [u2]; exact i3, by rw [u2]; exact e5 i3⟩, ⟨SBG.found_only al ⟨cfV, kV, iV, gV⟩, stV⟩, ⟨SBG.found_only al ⟨cfC, kC, iC, gC⟩, stC⟩, slV, slC, by simp [RoadKit.slotOf, gV], by simp [RoadKit.slotOf, gC]⟩
theorem sta_is {Z U : State} (al : Z.vm.Alike U.vm) {C n d : String} {v : Value} (S : RoadKit.Sta Z U.heap C n d v) : StaticIs U C n d v := by
  obtain ⟨cfS, iS, kS, fS, st, cS, t1, t2, t3, t4, t5, t6, t7⟩ := S
  exact StaticIs.there (s := { Z with heap := U.heap }) ⟨cfS, iS, kS, fS, st, cS, t1, t2, t3, t4, t5, (fun q => by rw [q] at t6; cases t6), t7⟩ al rfl
/-- **length() OF SUCH A STRING** -/
theorem lenW {p : Program} {l : Launch} {e : Env} {R : Room} {s : State} {args : Array Value} {below : List Frame} {len W : Nat} {Z : State} {a0 : Array Value} {h : Heap} (hZ : Z.Warmed39 s.vm) (hw : ∀ d ∈ wordsLen, d.before a0 Z = true) {kI : Nat} (wi : (Jvm.Cond.instantiable ST kI).before a0 Z = true)
    {x t : Addr} {kb : ClassId} {cs : List Int32} {cd N2 z : Int32} {vs : List Value} (E : RoadKit.Exa Z h x ST) (V : RoadKit.Fld Z h x ST "value" "[B" (.ref t)) (C : RoadKit.Fld Z h x ST "coder" "B" (.int cd)) (K : RoadKit.Arv Z h t kb .byte N2 vs (.int 0)) (hc : CodA cs cd N2 vs) (hb : ∀ c ∈ cs, ¬ c < 0 ∧ ¬ (65535 : Int32) < c)
    (S : RoadKit.Sta Z h ST "COMPACT_STRINGS" "Z" (.int z)) (hz : ¬ z = 0) (l2 : cs.length ≤ 4000) (hfr : 2 ≤ R.frames) (hlo : W + 25 ≤ R.locals) :
    Back l R p e below s args (⟨"java/lang/String", "length", "()I"⟩ : MethodName) len W (fun P a => a = #[.ref x] ∧ P.U.heap = h ∧ P.cells + 0 ≤ R.cells ∧ P.slots + 0 ≤ R.slots)
      (fun P _ v B => ∃ L, (v = some (.int (Int32.ofNat cs.length)) ∧ L = [] ∧ B.U.heap = h) ∧ B.locs = P.locs ++ L ∧ B.cells = P.cells + 0 ∧ B.slots = P.slots + 0) := by
  obtain ⟨A, K1, K2, K3, K4, K5, K6⟩ := K
  have hcod := hc.cod (by omega) K3 K5
  intro m meth c P g ig mk a X hg hsize hdg hW hn hp'
  obtain ⟨rfl, rfl, r1, r2⟩ := hp'
  have al : Z.vm.Alike P.U.vm := hZ.alike.trans X.warmed.alike
  obtain ⟨D, fV, fC, hB, F1, F2, g1, g2, -, -⟩ := strObj wi al E V C
  have hx : Txt x t A cd cs.length (fun j => cs.getD j 0) P.U := ⟨⟨_, hB.2.2.1, D, hB.1, rfl, by cases q : D.vm <;> first | rfl | exact absurd q (hB.2.1.2 _)⟩, Has.of hB F1 g1, Has.of hB F2 g2, ⟨K1.1, State.isArrayOf_alike al K1.2.1, K1.2.2, by rcases hcod with ⟨-, q, -⟩ | ⟨-, q, -⟩ <;> omega⟩, hcod, fun j hj => by
    have e : cs.getD j 0 = cs[j] := by simp [List.getD_eq_getElem?_getD, hj]
    show ¬ cs.getD j 0 < 0 ∧ ¬ 65535 < cs.getD j 0
    rw [e]; exact hb _ (List.getElem_mem _)⟩
  obtain ⟨v, B, X', ⟨⟨hv, hh⟩, hl, hk, hs⟩, st⟩ := Len.pays x t A cd cs.length (fun j => cs.getD j 0) z (tabLen_of (movedLen hZ hw)) hfr hlo m meth c P g ig mk _ X hg hsize hdg hW hn ⟨r1, r2, rfl, hx, sta_is al S, hz⟩
  exact ⟨v, B, X', ⟨[], ⟨hv, rfl, hh⟩, hl, hk, hs⟩, st⟩
end StrChars.Road
namespace StrChars.Road
open Jvm Sem ClassFile Op Lib Jvm.Stand Jvm.Free Jvm.Free.XT
open Jvm.Lib.Cold (StaticIs)
/-- what backV says of its String, as the contracts of this text ask it: cs's low bytes, coder 0 -/
theorem codOf {cs : List Int32} {n : Nat} (hn : cs.length = n) (hb : ∀ c ∈ cs, ¬ 255 < c) : CodA cs 0 (Int32.ofNat n) ((cs.map lo8).map Value.int) := Or.inl ⟨rfl, by rw [hn], by simp [List.map_map, Function.comp_def], hb⟩
end StrChars.Road
end Jvm.Pilot.@@N@@
namespace Jvm.Pilot.@@N@@
open Jvm Jvm.ClassFile Sem Op Lib Jvm.Free Jvm.Stand Jvm.LawKit Jvm.RoadKit Bundle Jvm.Pilot.@@N@@.Jvm.D
set_option maxRecDepth 65536
set_option maxHeartbeats 40000000
section OwnKit
variable {p : Program} {l : Launch} {e : Env} {R : Room} {s : State} {m : MethodId} {args : Array Value} {below : List Frame} {meth : Method} {c : Code} {T T' U Z : State} {locs : List Loc} {cells slots : Nat} {h h' h0 : Heap} {a b : Addr} {n0 : Nat}
abbrev HW (Z : State) (a0 : Array Value) : Prop := ∀ d ∈ tables_1, d.before a0 Z = true
abbrev vI (x : Int32) : Slot := .val (.int x)
abbrev vJ (x : Int64) : Slot := .val (.long x)
abbrev vR (x : Addr) : Slot := .val (.ref x)
abbrev vN : Slot := .val .null
abbrev vU : Slot := .unset
abbrev vS : Slot := .second
theorem lb {a b : Nat} (q : Nat.ble a b = true) : a ≤ b := Nat.le_of_ble_eq_true q
/-- from T with the frame f on top the invocation comes to its end, and P holds there -/
def own_Fin (tb : Tables) (e : Env) (below : List Frame) (P : State → Outcome → Prop) (T : State) (f : JFrame) : Prop := ∃ s₂ o, Steps tb e below (T.setTop f) s₂ ∧ s₂.status = .running ∧ Ended s₂ below o ∧ P s₂ o
theorem own_go {tb : Tables} {P : State → Outcome → Prop} {g g' : JFrame} (k : ∀ t, Steps tb e below (T'.setTop g') t → Steps tb e below (T.setTop g) t) (q : own_Fin tb e below P T' g') : own_Fin tb e below P T g := by
  obtain ⟨s₂, o, a, r⟩ := q; exact ⟨s₂, o, k _ a, r⟩
theorem own_to {tb : Tables} {P : State → Outcome → Prop} {g g' : JFrame} (k : Steps tb e below (T.setTop g) (T'.setTop g')) (q : own_Fin tb e below P T' g') : own_Fin tb e below P T g := by
  obtain ⟨s₂, o, a, r⟩ := q; exact ⟨s₂, o, k.trans a, r⟩
theorem og {tb : Tables} {P : State → Outcome → Prop} {g : JFrame} (T' : State) (g' : JFrame) (k : ∀ t, Steps tb e below (T'.setTop g') t → Steps tb e below (T.setTop g) t) (q : own_Fin tb e below P T' g') : own_Fin tb e below P T g := own_go k q
theorem ot {tb : Tables} {P : State → Outcome → Prop} {g : JFrame} (T' : State) (g' : JFrame) (k : Steps tb e below (T.setTop g) (T'.setTop g')) (q : own_Fin tb e below P T' g') : own_Fin tb e below P T g := own_to k q
def own_PN (s : State) (Q : Option Value → Heap → List Loc → Prop) (rc rs : Nat) : State → Outcome → Prop := fun U o => ∃ v L, o = .returned v ∧ Q v U.heap L ∧ FrameEnd s o U L rc rs
/-- a body's contract: from the heap h0 it returns, and Q says what -/
def own_CN (l : Launch) (Z : State) (y : MethodName) (bytes : ByteArray) (maxL : Nat) (ret : Option FieldType) (ws : List Jvm.Cond) (rm : Room) (as : Array Value) (h0 : Heap) (Q : Option Value → Heap → List Loc → Prop) : Prop :=
  MetFree l y (head1 (Jvm.Cond.code y bytes maxL ret :: ws) rm) (fun a U => a = as ∧ Z.Warmed39 U.vm ∧ U.heap = h0) (fun _ _ _ _ _ => True) (fun _ U o U' => ∃ v L, o = .returned v ∧ Q v U'.heap L ∧ FrameEnd U o U' L rm.cells rm.slots)
theorem own_entryN {y : MethodName} {bytes : ByteArray} {maxL : Nat} {ret : Option FieldType} {ws : List Jvm.Cond} {rm : Room} {as : Array Value} {Q : Option Value → Heap → List Loc → Prop} (hpn : plainFor y = true)
    (body : ∀ (p : Program) (e : Env) (s : State) (m : MethodId) (below : List Frame) (meth : Method) (c : Code) (s₁ : State), p.tables.exec = Jvm.exec → c.code = bytes → c.maxLocals = maxL → s.vm.findClass y.cls = some m.cls → meth.name = y.name → meth.sig.returnType = ret → meth.locks = false → Z.Warmed39 s.vm → s.heap = h0 →
      Stand p l e rm s m as below meth c s₁ [] 0 0 → s₁.heap = h0 → own_Fin p.tables e below (own_PN s Q rm.cells rm.slots) s₁ (entryFrame m as maxL)) : own_CN l Z y bytes maxL ret ws rm as h0 Q := by
  refine MetFree.of_bodySF hpn hisR ?_
  intro p e s m args below meth c s₁ Bd hml0 hP hK
  obtain ⟨rfl, hZ, hh⟩ := hP
  exact body p e s m below meth c s₁ Bd.exec Bd.bytes hml0 (findClass_of_methodNamed Bd.named) (name_of_methodNamed Bd.named Bd.method).1 Bd.returns Bd.notSynchronized hZ hh (Stand.of_body Bd) (by rw [← hh, Bd.state]; rfl)
theorem own_leaveN (X : Stand p l e R s m args below meth c T locs cells slots) (hlk : meth.locks = false) {Q : Option Value → Heap → List Loc → Prop} {v : Option Value} (hv : meth.sig.returnType = none → v = none) {rc rs : Nat} (hc : cells ≤ rc) (hs : slots ≤ rs) (hQ : Q v T.heap locs) {f : JFrame}
    (st : ∀ fs, (∀ (f : JFrame) (acts : List Action), f.method = m → f.locked = none → f.entered = [] → (doReturn e (T.setTop f) acts v).1 = T.setFrames fs) → Steps p.tables e below (T.setTop f) (T.setFrames fs)) : own_Fin p.tables e below (own_PN s Q rc rs) T f := by
  obtain ⟨fs, hr, hrun, hended, hW, hsame⟩ := X.leave hv hlk
  exact ⟨_, _, st fs hr, hrun, hended, _, _, rfl, hQ, ⟨_, rfl⟩, hW, hsame.mono hc hs⟩
theorem own_w {a0 : Array Value} (hw : ∀ d ∈ tables_1, d.before a0 Z = true) (i : Nat) {d : Jvm.Cond} (q : tables_1[i]? = some d := by rfl) : d.before a0 Z = true := hw d (List.mem_of_getElem? q)
abbrev own_by (cs : List Int32) : List Value := (cs.map (fun c => c.toInt8.toInt32)).map Value.int
theorem own_by_app (a b : List Int32) : own_by (a ++ b) = own_by a ++ own_by b := by simp [own_by]
theorem own_la {a b : List Int32} {n m : Nat} (h : a.length = n) (k : b.length = m) : (a ++ b).length = n + m := by rw [List.length_append, h, k]
theorem own_happ {a b : List Int32} (h : ∀ c ∈ a, ¬ c < 0 ∧ ¬ (255 : Int32) < c) (k : ∀ c ∈ b, ¬ c < 0 ∧ ¬ (255 : Int32) < c) : ∀ c ∈ a ++ b, ¬ c < 0 ∧ ¬ (255 : Int32) < c := fun c hc => (List.mem_append.mp hc).elim (h c) (k c)
theorem own_hpl (a : List Int32) (h : a.all (fun c => !decide (c < 0) && !decide ((255 : Int32) < c)) = true) : ∀ c ∈ a, ¬ c < 0 ∧ ¬ (255 : Int32) < c := fun c hc => by
  have q := List.all_eq_true.mp h c hc
  simpa using q
theorem own_le4 {a : List Int32} {n : Nat} (h : a.length = n) (q : Nat.ble n 4000 = true) : a.length ≤ 4000 := h ▸ Nat.le_of_ble_eq_true q
theorem own_ltl {a : List Int32} {n i : Nat} (h : a.length = n) (q : Nat.ble (i + 1) n = true) : i < a.length := h ▸ Nat.le_of_ble_eq_true q
theorem own_osz (O : Old Z n0 h) : n0 ≤ h.size := O.1 ▸ O.2.1
theorem own_ne_old (q : a < Z.heap.size) (O : Old Z n0 h) (r : n0 ≤ b) : a ≠ b := O.ne q r
theorem own_ne_arv {a0 : Array Value} {C : String} {k : Nat} {kc : ClassId} {ty : FieldType} {z : Int32} {vs : List Value} {dv : Value} (F : Exa Z h a C) (wi : (Jvm.Cond.instantiable C k).before a0 Z = true) (G : Arv Z h b kc ty z vs dv) : a ≠ b := by
  obtain ⟨_, A, -⟩ := G; exact ne_arr F wi A
theorem own_cat {v : Value} (q : v.isRef = true) : v.category = 1 := by rcases ref_cases q with rfl | ⟨_, rfl⟩ <;> rfl
theorem own_nx {v : Value} {C : String} (q : v.isRef = true) : narrow (.object C) v = v := by rcases ref_cases q with rfl | ⟨_, rfl⟩ <;> rfl
theorem own_fx {v : Value} {C : String} (q : v.isRef = true) : fits (.object C) v = true := by rcases ref_cases q with rfl | ⟨_, rfl⟩ <;> rfl
theorem own_castz {k : ClassId} {ty : FieldType} {z z' : Int32} {vs : List Value} {d : Value} (q : z = z') (F : Arv Z h a k ty z vs d) : Arv Z h a k ty z' vs d := q ▸ F
/-- the same place of the walk, the state another (no cell written or made meanwhile) -/
def own_at2 (_ : Stand p l e R s m args below meth c T locs cells slots) (T' : State) (locs' : List Loc) (c' s' : Nat) : Prop := Stand p l e R s m args below meth c T' locs' c' s'
theorem own_wk (X : Stand p l e R s m args below meth c T locs cells slots) {c' s' : Nat} (hc : cells ≤ c') (hs : slots ≤ s') : Stand p l e R s m args below meth c T locs c' s' := { X with same := X.same.mono hc hs }
def own_at (_ : Stand p l e R s m args below meth c T locs cells slots) (T' : State) : Prop := Stand p l e R s m args below meth c T' locs cells slots
theorem own_ne_lo (q : a < h.size) (r : h.size ≤ b) : a ≠ b := Nat.ne_of_lt (Nat.lt_of_lt_of_le q r)
end OwnKit
def own_EL : List (String × Nat) := [("java/lang/String", 7)]
theorem own_EW {a0 : Array Value} {Z : State} (hw : ∀ d ∈ tables_1, d.before a0 Z = true) : EW Z a0 own_EL := (EW.cons (own_w hw 41) (by decide) EW.nil)
theorem own_wS {a0 : Array Value} {Z : State} (hw : ∀ d ∈ tables_1, d.before a0 Z = true) : ∀ d ∈ Bundle.stringAtoms, d.before a0 Z = true := fun d hd => hw d ((by decide +kernel : ∀ d ∈ Bundle.stringAtoms, d ∈ tables_1) d hd)
theorem own_wa {a0 : Array Value} {Z : State} (hw : ∀ d ∈ tables_1, d.before a0 Z = true) : (Jvm.Cond.arrayClass .byte).before a0 Z = true := (own_w hw 30)
theorem own_wi {a0 : Array Value} {Z : State} (hw : ∀ d ∈ tables_1, d.before a0 Z = true) : (Jvm.Cond.instantiable "java/lang/String" 4).before a0 Z = true := (own_w hw 13)
theorem own_held {tb : Tables} {e : Env} {args : Array Value} {s : State} (hc : Calls_1 tb e args s) : ∀ p ∈ own_EL, Jvm.Lit.constHeld s p.1 p.2 := fun p hp => hc.1 p hp
section OwnKitW
variable {p : Program} {l : Launch} {e : Env} {R : Room} {s : State} {m : MethodId} {args : Array Value} {below : List Frame} {meth : Method} {c : Code} {T T' U Z : State} {locs : List Loc} {cells slots : Nat} {h h' h0 : Heap} {a b : Addr} {n0 : Nat} {vm0 : Vm} {EL : List (String × Nat)} {a0 : Array Value}
def own_PW (s Z : State) (EL : List (String × Nat)) (Q : Option Value → Heap → List Loc → Prop) (rc rs : Nat) : State → Outcome → Prop := fun U o => ∃ v L, o = .returned v ∧ Q v U.heap L ∧ CHr Z EL s.vm s.heap U.vm U.heap ∧ ReturnedEndW s o U L rc rs
def own_K (kn : Bool) : Program → Env → List Frame → State → Array Value → Prop := fun _ _ bl s _ => kn = true → s.vm.MethodsKnown ∧ s.vm.FramesKnown bl
def own_CW (l : Launch) (Z : State) (kn : Bool) (y : MethodName) (bytes : ByteArray) (maxL : Nat) (ret : Option FieldType) (ws : List Jvm.Cond) (rm : Room) (as : Array Value) (h0 : Heap) (sx : List Addr) (Q : Option Value → Heap → List Loc → Prop) : Prop :=
  MetFree l y (head1 (Jvm.Cond.code y bytes maxL ret :: ws) rm) (fun a U => a = as ∧ Z.Warmed39 U.vm ∧ U.heap = h0 ∧ CHv Z own_EL U.vm h0 ∧ ∀ x ∈ sx, Safe Z own_EL U.vm h0 x) (own_K kn) (fun _ U o U' => ∃ v L, o = .returned v ∧ Q v U'.heap L ∧ CHr Z own_EL U.vm U.heap U'.vm U'.heap ∧ ReturnedEndW U o U' L rm.cells rm.slots)
theorem own_entryW {kn : Bool} {y : MethodName} {bytes : ByteArray} {maxL : Nat} {ret : Option FieldType} {ws : List Jvm.Cond} {rm : Room} {as : Array Value} {sx : List Addr} {Q : Option Value → Heap → List Loc → Prop} (hpn : plainFor y = true)
    (body : ∀ (p : Program) (e : Env) (s : State) (m : MethodId) (below : List Frame) (meth : Method) (c : Code) (s₁ : State), p.tables.exec = Jvm.exec → c.code = bytes → c.maxLocals = maxL → s.vm.findClass y.cls = some m.cls → meth.name = y.name → meth.sig.returnType = ret → meth.locks = false → Z.Warmed39 s.vm → s.heap = h0 → CHv Z own_EL s.vm h0 → (∀ x ∈ sx, Safe Z own_EL s.vm h0 x) → (kn = true → s.vm.MethodsKnown ∧ s.vm.FramesKnown below) →
      Stand p l e rm (s.setVm s.vm) m as below meth c s₁ [] 0 0 → s₁.heap = h0 → own_Fin p.tables e below (own_PW s Z own_EL Q rm.cells rm.slots) s₁ (entryFrame m as maxL)) : own_CW l Z kn y bytes maxL ret ws rm as h0 sx Q := by
  refine MetFree.of_bodySF hpn hisR ?_
  intro p e s m args below meth c s₁ Bd hml0 hP hK
  obtain ⟨rfl, hZ, hh, hCH, hSf⟩ := hP
  exact body p e s m below meth c s₁ Bd.exec Bd.bytes hml0 (findClass_of_methodNamed Bd.named) (name_of_methodNamed Bd.named Bd.method).1 Bd.returns Bd.notSynchronized hZ hh hCH hSf hK (Stand.of_body Bd) (by rw [← hh, Bd.state]; rfl)
theorem own_leaveW (X : Stand p l e R (s.setVm vm0) m args below meth c T locs cells slots) {k0 : Nat} (hS : s.Since vm0 k0) (hk : k0 ≤ h.size) (hZ : Z.Warmed39 vm0) (hEL : EW Z a0 EL) (eT : T.heap = h) (hCH : CHr Z EL s.vm h0 vm0 h) (hh : s.heap = h0) (hlk : meth.locks = false) {Q : Option Value → Heap → List Loc → Prop} {v : Option Value} (hv : meth.sig.returnType = none → v = none) {rc rs : Nat} (hc : cells ≤ rc) (hs : slots ≤ rs) (hQ : Q v T.heap locs) {f : JFrame}
    (st : ∀ fs, (∀ (f : JFrame) (acts : List Action), f.method = m → f.locked = none → f.entered = [] → (doReturn e (T.setTop f) acts v).1 = T.setFrames fs) → Steps p.tables e below (T.setTop f) (T.setFrames fs)) : own_Fin p.tables e below (own_PW s Z EL Q rc rs) T f := by
  subst eT
  obtain ⟨fs, hr, hrun, hended, hv', hW, hI, hsame⟩ := X.leaveW hS hk hv hlk
  have q := CHr.trans hCH (CHv.at X hZ hEL hCH.1)
  exact ⟨_, _, st fs hr, hrun, hended, _, _, rfl, hQ, by rw [hh]; exact q, hv', hW, hI, hsame.mono hc hs⟩
theorem own_reb {vm1 : Vm} (X : Stand p l e R ((s.setVm vm0).setVm vm1) m args below meth c T locs cells slots) : Stand p l e R (s.setVm vm1) m args below meth c T locs cells slots := X
theorem own_since (s : State) (n : Nat) : s.Since s.vm n := (State.WarmedH.refl s).since n
theorem own_after (hZ : Z.Warmed39 vm0) {k0 : Nat} (hS : s.Since vm0 k0) (eT : T.heap = h) (hk : k0 ≤ h.size) (h2 : (s.setVm vm0).Since U.vm U.heap.size) (g : T.heap.size ≤ U.heap.size) {own : String} {k : ClassId} (hown : vm0.findClass own = some k) : Z.Warmed39 (s.setVm U.vm).vm ∧ s.Since U.vm U.heap.size ∧ (s.setVm U.vm).vm.findClass own = some k := by
  subst eT
  refine ⟨State.Warmed39.trans (t := s.setVm vm0) hZ h2.1, foldS hS hk h2 g, ?_⟩
  show U.vm.findClass own = some k
  rw [h2.1.alike.findClass]; exact hown
theorem own_backSH {kn : Bool} {y : MethodName} {bytes : ByteArray} {maxL : Nat} {ret : Option FieldType} {rm : Room} {len W : Nat} {as' : Array Value} {Q : Option Value → Heap → List Loc → Prop} {sx : List Addr}
    (hM : MetFree l y (head1 [Cond.code y bytes maxL ret] rm) (fun a U => a = as' ∧ Z.Warmed39 U.vm ∧ U.heap = h ∧ CHv Z EL U.vm h ∧ ∀ x ∈ sx, Safe Z EL U.vm h x) (own_K kn) (fun _ U o U' => ∃ v L, o = .returned v ∧ Q v U'.heap L ∧ CHr Z EL U.vm U.heap U'.vm U'.heap ∧ ReturnedEndW U o U' L rm.cells rm.slots))
    (hZ : Z.Warmed39 vm0) (wc : (Cond.code y bytes maxL ret).before a0 Z = true) (wz : (Cond.initialized y.cls).before a0 Z = true) (hf : rm.frames + 1 ≤ R.frames) (hl : W + (maxL + 11) + rm.locals ≤ R.locals) (hEL : EW Z a0 EL) (H : CHv Z EL vm0 h) (hsx : ∀ x ∈ sx, x < h.size ∧ Safe Z EL vm0 h x) (hkn : kn = true → vm0.MethodsKnown ∧ vm0.FramesKnown below) :
    BackS l R p e below (s.setVm vm0) args y len W (fun A a => a = as' ∧ A.U.heap = h ∧ A.cells + rm.cells ≤ R.cells ∧ A.slots + rm.slots ≤ R.slots)
      (fun A _ v B => ∃ L, Q v B.U.heap L ∧ B.locs = A.locs ++ L ∧ B.cells = A.cells + rm.cells ∧ B.slots = A.slots + rm.slots ∧ CHr Z EL vm0 h B.U.vm B.U.heap) :=
  BackS.of_freeWG (bytes := bytes) (maxL := maxL) (ret := ret) (E := fun _ u o t L k n => (k = rm.cells ∧ n = rm.slots) ∧ (∃ v, o = .returned v ∧ Q v t.heap L) ∧ CHr Z EL u.vm u.heap t.vm t.heap) hM hf hl
    (fun m meth c A a Y hp => by
      have hU : Z.Warmed39 A.U.vm := wtrans (s := s.setVm vm0) hZ Y.warmed
      refine ⟨?_, mv hU wc, mv hU wz, hp.2.2.1, hp.2.2.2⟩
      show (Cond.and _ .tt).before a A.U = true
      rw [Cond.before_and, mv hU wc]; rfl)
    (fun m meth c A a g mk Y hp => ⟨hp.1, wtrans (s := s.setVm vm0) hZ Y.warmed, hp.2.1, (CHv.at Y hZ hEL H).1, fun x hx => CHr.safe (CHv.at Y hZ hEL H) (hsx x hx).1 (hsx x hx).2⟩) (fun m meth c A a g mk Y _ hg hk => Jvm.Free.known_frames Y hg (hkn hk).1 (hkn hk).2)
    (fun _ _ _ _ ⟨v, L, q1, q2, q3, q4⟩ => ⟨L, _, _, q4, ⟨rfl, rfl⟩, ⟨v, q1, q2⟩, q3⟩)
    (fun m meth c A a g mk v t L k n Y hp _ _ ⟨⟨q1, q2⟩, ⟨v', q3, q4⟩, q5⟩ => by
      cases q3; subst q1 q2
      refine ⟨L, q4, rfl, rfl, rfl, CHr.trans (CHv.at Y hZ hEL H) ?_⟩
      rw [← hp.2.1]; exact q5)
theorem own_safe_new {vm : Vm} (H : CHv Z EL vm h) (E : Ext h h') (q : h.size ≤ a) : Safe Z EL vm h' a := Safe.ext E H (Safe.new q)
end OwnKitW
theorem own_of255 (x : Int32) : ∃ k : Fin 256, (x &&& 255) = Int32.ofNat k.val := by
  refine ⟨⟨(x &&& 255).toBitVec.toNat, ?_⟩, ?_⟩
  · simp only [Int32.toBitVec_and, BitVec.toNat_and]
    exact Nat.lt_succ_of_le Nat.and_le_right
  · apply Int32.toBitVec_inj.mp
    show _ = BitVec.ofNat 32 _
    rw [BitVec.ofNat_toNat]; simp
theorem own_m255 (x : Int32) : ¬ (x &&& (255 : Int32)) < 0 ∧ ¬ (255 : Int32) < (x &&& (255 : Int32)) := by
  have t : ∀ k : Fin 256, ¬ (Int32.ofNat k.val) < 0 ∧ ¬ (255 : Int32) < (Int32.ofNat k.val) := by decide +kernel
  obtain ⟨k, hk⟩ := own_of255 x
  rw [hk]; exact t k
theorem own_nc255 (x : Int32) : nar .char (x &&& (255 : Int32)) = (x &&& (255 : Int32)) := i2c_mask x
theorem own_fin {c : Int32} (h : ¬ c < 0 ∧ ¬ (255 : Int32) < c) : ∃ k : Fin 256, c = Int32.ofNat k.val := by
  have h1 := h.1; have h2 := h.2
  rw [Int32.lt_iff_toInt_lt] at h1 h2
  have e0 : (0 : Int32).toInt = 0 := rfl
  have e1 : (255 : Int32).toInt = 255 := rfl
  obtain ⟨k, hk⟩ : ∃ k : Nat, c.toInt = k := ⟨c.toInt.toNat, by omega⟩
  exact ⟨⟨k, by omega⟩, Int32.toInt_inj.mp (by rw [hk, Int32.toInt_ofNat_small (by omega)])⟩
theorem own_ncl {c : Int32} (h : ¬ c < 0 ∧ ¬ (255 : Int32) < c) : nar .char c = c := by
  have t : ∀ k : Fin 256, nar .char (Int32.ofNat k.val) = Int32.ofNat k.val := by decide +kernel
  obtain ⟨k, rfl⟩ := own_fin h
  exact t k
theorem own_nc16 (x : Int32) : nar .char (x.toUInt32.toUInt16.toUInt32.toInt32) = x.toUInt32.toUInt16.toUInt32.toInt32 := by
  show (x.toUInt32.toUInt16.toUInt32.toInt32).toUInt32.toUInt16.toUInt32.toInt32 = _
  simp only [UInt32.toUInt32_toInt32, UInt16.toUInt16_toUInt32]
theorem own_b8 (x : Int32) : nar .byte (x.toInt8.toInt32) = x.toInt8.toInt32 := by
  show (x.toInt8.toInt32).toInt8.toInt32 = _
  rw [Int8.toInt8_toInt32]
def own_kd (i : Int32) (K0 K1 K2 K3 K4 K5 K6 : Addr) : Addr := if i = (0 : Int32) then K0 else if i = (1 : Int32) then K1 else if i = (2 : Int32) then K2 else if i = (3 : Int32) then K3 else if i = (4 : Int32) then K4 else if i = (5 : Int32) then K5 else K6
theorem own_kdE {Z : State} {h : Heap} {C : String} {i : Int32} {K0 K1 K2 K3 K4 K5 K6 : Addr} (e0 : Exa Z h K0 C) (e1 : Exa Z h K1 C) (e2 : Exa Z h K2 C) (e3 : Exa Z h K3 C) (e4 : Exa Z h K4 C) (e5 : Exa Z h K5 C) (e6 : Exa Z h K6 C) : Exa Z h (own_kd i K0 K1 K2 K3 K4 K5 K6) C := by
  unfold own_kd
  split
  · exact e0
  split
  · exact e1
  split
  · exact e2
  split
  · exact e3
  split
  · exact e4
  split
  · exact e5
  exact e6
def own_ac (t o m : Int32) : Int32 := if m = (0 : Int32) then t else if m = (1 : Int32) then (t ^^^ (32 : Int32)) else if m = (2 : Int32) then o else (t ^^^ (1 : Int32))
theorem own_x32 {c : Int32} (h : ¬ c < 0 ∧ ¬ (255 : Int32) < c) : ¬ (c ^^^ (32 : Int32)) < 0 ∧ ¬ (255 : Int32) < (c ^^^ (32 : Int32)) := by
  have t : ∀ k : Fin 256, ¬ ((Int32.ofNat k.val) ^^^ (32 : Int32)) < 0 ∧ ¬ (255 : Int32) < ((Int32.ofNat k.val) ^^^ (32 : Int32)) := by decide +kernel
  obtain ⟨k, rfl⟩ := own_fin h
  exact t k
theorem own_x1 {c : Int32} (h : ¬ c < 0 ∧ ¬ (255 : Int32) < c) : ¬ (c ^^^ (1 : Int32)) < 0 ∧ ¬ (255 : Int32) < (c ^^^ (1 : Int32)) := by
  have t : ∀ k : Fin 256, ¬ ((Int32.ofNat k.val) ^^^ (1 : Int32)) < 0 ∧ ¬ (255 : Int32) < ((Int32.ofNat k.val) ^^^ (1 : Int32)) := by decide +kernel
  obtain ⟨k, rfl⟩ := own_fin h
  exact t k
theorem own_acl {t o m : Int32} (h : ¬ t < 0 ∧ ¬ (255 : Int32) < t) (h' : ¬ o < 0 ∧ ¬ (255 : Int32) < o) : ¬ own_ac t o m < 0 ∧ ¬ (255 : Int32) < own_ac t o m := by
  unfold own_ac
  split
  · exact h
  split
  · exact own_x32 h
  split
  · exact h'
  exact own_x1 h
def own_fold (x : Int32) : Int32 := if x < (97 : Int32) then (if x < (224 : Int32) then x else if (254 : Int32) < x then x else if x = (247 : Int32) then x else (x - (32 : Int32))) else if (122 : Int32) < x then (if x < (224 : Int32) then x else if (254 : Int32) < x then x else if x = (247 : Int32) then x else (x - (32 : Int32))) else (x - (32 : Int32))
def own_eqv (x y : Int32) : Int32 := if own_fold x = own_fold y then 1 else 0
def own_ic (x y : Int32) : Int32 := if x = y then 1 else if (x &&& (223 : Int32)) < (65 : Int32) then 0 else if (90 : Int32) < (x &&& (223 : Int32)) then (if (x &&& (223 : Int32)) < (192 : Int32) then 0 else if (222 : Int32) < (x &&& (223 : Int32)) then 0 else if (x &&& (223 : Int32)) = (215 : Int32) then 0 else if (x &&& (223 : Int32)) = (y &&& (223 : Int32)) then 1 else 0) else if (x &&& (223 : Int32)) = (y &&& (223 : Int32)) then 1 else 0
set_option maxRecDepth 65536 in
theorem own_icq' : ∀ k j : Fin 256, own_ic (Int32.ofNat k.val).toInt8.toInt32 (Int32.ofNat j.val).toInt8.toInt32 = own_eqv (Int32.ofNat k.val) (Int32.ofNat j.val) := by decide +kernel
theorem own_icq {c d : Int32} (h : ¬ c < 0 ∧ ¬ (255 : Int32) < c) (h' : ¬ d < 0 ∧ ¬ (255 : Int32) < d) : own_ic c.toInt8.toInt32 d.toInt8.toInt32 = own_eqv c d := by
  obtain ⟨k, rfl⟩ := own_fin h
  obtain ⟨j, rfl⟩ := own_fin h'
  exact own_icq' k j
def own_ica : List Int32 → List Int32 → Int32
  | [], [] => 1
  | c :: cs, d :: ds => if own_eqv c d = (0 : Int32) then 0 else own_ica cs ds
  | _, _ => 0
theorem own_ica01 : ∀ cs ds : List Int32, own_ica cs ds = 0 ∨ own_ica cs ds = 1
  | [], [] => Or.inr rfl
  | [], _ :: _ => Or.inl rfl
  | _ :: _, [] => Or.inl rfl
  | c :: cs, d :: ds => by
    unfold own_ica; split
    · exact Or.inl rfl
    · exact own_ica01 cs ds
theorem own_narb (cs ds : List Int32) : nar .boolean (own_ica cs ds) = own_ica cs ds := by
  rcases own_ica01 cs ds with h | h <;> rw [h] <;> rfl
def own_isv (k a b : Addr) (r : Int32) : Int32 := if k = a then r else if k = b then r else 0
def own_ko (k a b : Addr) : Int32 := if k = a then 1 else if k = b then 1 else 0
theorem own_and3 (x : Int32) : (x &&& (3 : Int32)) = (0 : Int32) ∨ (x &&& (3 : Int32)) = (1 : Int32) ∨ (x &&& (3 : Int32)) = (2 : Int32) ∨ (x &&& (3 : Int32)) = (3 : Int32) := by
  have h : (x &&& 3).toBitVec.toNat ≤ 3 := by
    simp only [Int32.toBitVec_and, BitVec.toNat_and]
    exact Nat.and_le_right
  have e : (x &&& 3) = Int32.ofNat (x &&& 3).toBitVec.toNat := by
    apply Int32.toBitVec_inj.mp
    show _ = BitVec.ofNat 32 _
    rw [BitVec.ofNat_toNat]; simp
  rw [e]
  generalize (x &&& 3).toBitVec.toNat = n at h
  have : n = 0 ∨ n = 1 ∨ n = 2 ∨ n = 3 := by omega
  rcases this with rfl | rfl | rfl | rfl
  · exact Or.inl rfl
  · exact Or.inr (Or.inl rfl)
  · exact Or.inr (Or.inr (Or.inl rfl))
  · exact Or.inr (Or.inr (Or.inr rfl))
def own_pre (z : Int32) (cs : List Int32) (a b c : Int32) : Prop := (z = (0 : Int32) ∧ cs = []) ∨ (z = (1 : Int32) ∧ cs = [a]) ∨ (z = (2 : Int32) ∧ cs = [a, b]) ∨ (z = (3 : Int32) ∧ cs = [a, b, c])
theorem own_pre_lat {z : Int32} {cs : List Int32} {a b c : Int32} (q : own_pre z cs a b c) (ha : ¬ a < 0 ∧ ¬ (255 : Int32) < a) (hb : ¬ b < 0 ∧ ¬ (255 : Int32) < b) (hc : ¬ c < 0 ∧ ¬ (255 : Int32) < c) : ∀ x ∈ cs, ¬ x < 0 ∧ ¬ (255 : Int32) < x := by
  intro x hx
  rcases q with ⟨-, rfl⟩ | ⟨-, rfl⟩ | ⟨-, rfl⟩ | ⟨-, rfl⟩ <;> simp only [List.mem_cons, List.not_mem_nil, or_false] at hx
  · rcases hx with rfl; exact ha
  · rcases hx with rfl | rfl
    · exact ha
    · exact hb
  · rcases hx with rfl | rfl | rfl
    · exact ha
    · exact hb
    · exact hc
theorem own_pre_len {z : Int32} {cs : List Int32} {a b c : Int32} (q : own_pre z cs a b c) : cs.length ≤ 3 := by
  rcases q with ⟨-, rfl⟩ | ⟨-, rfl⟩ | ⟨-, rfl⟩ | ⟨-, rfl⟩ <;> exact lb rfl
theorem own_pre_n {z : Int32} {cs : List Int32} {a b c : Int32} (q : own_pre z cs a b c) : z = Int32.ofNat cs.length := by
  rcases q with ⟨rfl, rfl⟩ | ⟨rfl, rfl⟩ | ⟨rfl, rfl⟩ | ⟨rfl, rfl⟩ <;> rfl
theorem own_lt12 {z : Int32} (h : z < (1 : Int32)) : z < (2 : Int32) := by
  rw [Int32.lt_iff_toInt_lt] at h ⊢
  have e1 : (1 : Int32).toInt = 1 := rfl
  have e2 : (2 : Int32).toInt = 2 := rfl
  omega
theorem own_lt23 {z : Int32} (h : z < (2 : Int32)) : z < (3 : Int32) := by
  rw [Int32.lt_iff_toInt_lt] at h ⊢
  have e1 : (3 : Int32).toInt = 3 := rfl
  have e2 : (2 : Int32).toInt = 2 := rfl
  omega
def own_sm (z y a b c d e f : Int32) : Int32 := if z = y then (if z < (1 : Int32) then 1 else if own_eqv a d = (0 : Int32) then 0 else if z < (2 : Int32) then 1 else if own_eqv b e = (0 : Int32) then 0 else if z < (3 : Int32) then 1 else if own_eqv c f = (0 : Int32) then 0 else 1) else 0
theorem own_sameG {z y : Int32} {cs ds : List Int32} {a b c d e f v : Int32} (q : own_pre z cs a b c) (r : own_pre y ds d e f) (h : v = own_sm z y a b c d e f) : v = own_ica cs ds := by
  subst h
  rcases q with ⟨rfl, rfl⟩ | ⟨rfl, rfl⟩ | ⟨rfl, rfl⟩ | ⟨rfl, rfl⟩ <;> rcases r with ⟨rfl, rfl⟩ | ⟨rfl, rfl⟩ | ⟨rfl, rfl⟩ | ⟨rfl, rfl⟩ <;> simp +decide [own_sm, own_ica]
theorem own_l1 {k a b : Addr} {cs ds : List Int32} {ko sm : Int32} (hk : ko = own_ko k a b) (hs : sm = own_ica cs ds) (h1 : ¬ ko = (0 : Int32)) (h2 : ¬ sm = (0 : Int32)) : own_isv k a b (own_ica cs ds) = (1 : Int32) := by
  subst hk hs
  have e := (own_ica01 cs ds).resolve_left h2
  unfold own_isv
  unfold own_ko at h1
  split
  · exact e
  · split
    · exact e
    · rename_i u v
      rw [if_neg u, if_neg v] at h1
      exact absurd rfl h1
theorem own_l0 {k a b : Addr} {cs ds : List Int32} {ko sm : Int32} (hk : ko = own_ko k a b) (hs : sm = own_ica cs ds) (h : ko = (0 : Int32) ∨ sm = (0 : Int32)) : own_isv k a b (own_ica cs ds) = (0 : Int32) := by
  subst hk hs
  unfold own_isv
  rcases h with h | h
  · unfold own_ko at h
    split
    · rename_i u; rw [if_pos u] at h; exact absurd h (by decide)
    · split
      · rename_i u v; rw [if_neg u, if_pos v] at h; exact absurd h (by decide)
      · rfl
  · rw [h]; split
    · rfl
    · split <;> rfl
theorem own_hws {a0 : Array Value} {Z : State} (hw : ∀ d ∈ tables_1, d.before a0 Z = true) : ∀ d ∈ StrChars.Road.words, d.before a0 Z = true := fun d hd => hw d ((by decide +kernel : ∀ d ∈ StrChars.Road.words, d ∈ tables_1) d hd)
theorem own_hln {a0 : Array Value} {Z : State} (hw : ∀ d ∈ tables_1, d.before a0 Z = true) : ∀ d ∈ StrChars.Road.wordsLen, d.before a0 Z = true := fun d hd => hw d ((by decide +kernel : ∀ d ∈ StrChars.Road.wordsLen, d ∈ tables_1) d hd)
theorem own_up (cs : List Int32) (h : ∀ c ∈ cs, ¬ c < 0 ∧ ¬ (255 : Int32) < c) : ∀ c ∈ cs, ¬ c < 0 ∧ ¬ (65535 : Int32) < c := fun c hc => ⟨(h c hc).1, fun q => (h c hc).2 (by
  rw [Int32.lt_iff_toInt_lt] at q ⊢
  have e1 : (65535 : Int32).toInt = 65535 := rfl
  have e2 : (255 : Int32).toInt = 255 := rfl
  omega)⟩
abbrev y0 : MethodName := ⟨"java/lang/String", "<init>", "([CIILjava/lang/Void;)V"⟩
abbrev y1 : MethodName := ⟨"java/lang/String", "<init>", "([C)V"⟩
abbrev y2 : MethodName := ⟨"java/lang/String", "length", "()I"⟩
abbrev y3 : MethodName := ⟨"java/lang/String", "coder", "()B"⟩
abbrev y4 : MethodName := ⟨"java/lang/StringLatin1", "regionMatchesCI", "([BI[BII)Z"⟩
abbrev y5 : MethodName := ⟨"java/lang/String", "regionMatches", "(ZILjava/lang/String;II)Z"⟩
abbrev y6 : MethodName := ⟨"java/lang/String", "equalsIgnoreCase", "(Ljava/lang/String;)Z"⟩
abbrev y7 : MethodName := ⟨"com/example/agave/agave/query/Tokens$Token", "is", "(Ljava/lang/String;)Z"⟩
abbrev y8 : MethodName := ⟨"java/lang/CharacterDataLatin1", "equalsIgnoreCase", "(BB)Z"⟩
abbrev y9 : MethodName := ⟨"com/example/agave/agave/query/TokenIsPinLaw", "kindOf", "(I)Lcom/example/agave/agave/query/Tokens$Kind;"⟩
abbrev y10 : MethodName := ⟨"com/example/agave/agave/query/TokenIsPinLaw", "argChar", "(CII)C"⟩
abbrev y11 : MethodName := ⟨"com/example/agave/agave/query/Tokens$Token", "<init>", "(Lcom/example/agave/agave/query/Tokens$Kind;Ljava/lang/String;Ljava/lang/Object;I)V"⟩
abbrev y12 : MethodName := ⟨"com/example/agave/agave/query/TokenIsPinLaw", "fold", "(C)I"⟩
abbrev y13 : MethodName := ⟨"com/example/agave/agave/query/TokenIsPinLaw", "eq", "(CC)Z"⟩
theorem d1_0 : decode method_3_code 0 = .ok (.iload_n 0, 1) := by decide +kernel
theorem d1_1 : decode method_3_code 1 = .ok (.ifCond .ne 7, 3) := by decide +kernel
theorem d1_4 : decode method_3_code 4 = .ok (.getstatic 32, 3) := by decide +kernel
theorem d1_7 : decode method_3_code 7 = .ok (.areturn, 1) := by decide +kernel
theorem d1_8 : decode method_3_code 8 = .ok (.iload_n 0, 1) := by decide +kernel
theorem d1_9 : decode method_3_code 9 = .ok (.iconst 1, 1) := by decide +kernel
theorem d1_10 : decode method_3_code 10 = .ok (.if_icmp .ne 7, 3) := by decide +kernel
theorem d1_13 : decode method_3_code 13 = .ok (.getstatic 45, 3) := by decide +kernel
theorem d1_16 : decode method_3_code 16 = .ok (.areturn, 1) := by decide +kernel
theorem d1_17 : decode method_3_code 17 = .ok (.iload_n 0, 1) := by decide +kernel
theorem d1_18 : decode method_3_code 18 = .ok (.iconst 2, 1) := by decide +kernel
theorem d1_19 : decode method_3_code 19 = .ok (.if_icmp .ne 7, 3) := by decide +kernel
theorem d1_22 : decode method_3_code 22 = .ok (.getstatic 48, 3) := by decide +kernel
theorem d1_25 : decode method_3_code 25 = .ok (.areturn, 1) := by decide +kernel
theorem d1_26 : decode method_3_code 26 = .ok (.iload_n 0, 1) := by decide +kernel
theorem d1_27 : decode method_3_code 27 = .ok (.iconst 3, 1) := by decide +kernel
theorem d1_28 : decode method_3_code 28 = .ok (.if_icmp .ne 7, 3) := by decide +kernel
theorem d1_31 : decode method_3_code 31 = .ok (.getstatic 51, 3) := by decide +kernel
theorem d1_34 : decode method_3_code 34 = .ok (.areturn, 1) := by decide +kernel
theorem d1_35 : decode method_3_code 35 = .ok (.iload_n 0, 1) := by decide +kernel
theorem d1_36 : decode method_3_code 36 = .ok (.iconst 4, 1) := by decide +kernel
theorem d1_37 : decode method_3_code 37 = .ok (.if_icmp .ne 7, 3) := by decide +kernel
theorem d1_40 : decode method_3_code 40 = .ok (.getstatic 54, 3) := by decide +kernel
theorem d1_43 : decode method_3_code 43 = .ok (.areturn, 1) := by decide +kernel
theorem d1_44 : decode method_3_code 44 = .ok (.iload_n 0, 1) := by decide +kernel
theorem d1_45 : decode method_3_code 45 = .ok (.iconst 5, 1) := by decide +kernel
theorem d1_46 : decode method_3_code 46 = .ok (.if_icmp .ne 7, 3) := by decide +kernel
theorem d1_49 : decode method_3_code 49 = .ok (.getstatic 38, 3) := by decide +kernel
theorem d1_52 : decode method_3_code 52 = .ok (.areturn, 1) := by decide +kernel
theorem d1_53 : decode method_3_code 53 = .ok (.getstatic 57, 3) := by decide +kernel
theorem d1_56 : decode method_3_code 56 = .ok (.areturn, 1) := by decide +kernel
theorem d2_0 : decode method_4_code 0 = .ok (.iload_n 2, 1) := by decide +kernel
theorem d2_1 : decode method_4_code 1 = .ok (.ifCond .ne 5, 3) := by decide +kernel
theorem d2_4 : decode method_4_code 4 = .ok (.iload_n 0, 1) := by decide +kernel
theorem d2_5 : decode method_4_code 5 = .ok (.ireturn, 1) := by decide +kernel
theorem d2_6 : decode method_4_code 6 = .ok (.iload_n 2, 1) := by decide +kernel
theorem d2_7 : decode method_4_code 7 = .ok (.iconst 1, 1) := by decide +kernel
theorem d2_8 : decode method_4_code 8 = .ok (.if_icmp .ne 9, 3) := by decide +kernel
theorem d2_11 : decode method_4_code 11 = .ok (.iload_n 0, 1) := by decide +kernel
theorem d2_12 : decode method_4_code 12 = .ok (.bipush 32, 2) := by decide +kernel
theorem d2_14 : decode method_4_code 14 = .ok (.ixor, 1) := by decide +kernel
theorem d2_15 : decode method_4_code 15 = .ok (.i2c, 1) := by decide +kernel
theorem d2_16 : decode method_4_code 16 = .ok (.ireturn, 1) := by decide +kernel
theorem d2_17 : decode method_4_code 17 = .ok (.iload_n 2, 1) := by decide +kernel
theorem d2_18 : decode method_4_code 18 = .ok (.iconst 2, 1) := by decide +kernel
theorem d2_19 : decode method_4_code 19 = .ok (.if_icmp .ne 6, 3) := by decide +kernel
theorem d2_22 : decode method_4_code 22 = .ok (.iload_n 1, 1) := by decide +kernel
theorem d2_23 : decode method_4_code 23 = .ok (.i2c, 1) := by decide +kernel
theorem d2_24 : decode method_4_code 24 = .ok (.ireturn, 1) := by decide +kernel
theorem d2_25 : decode method_4_code 25 = .ok (.iload_n 0, 1) := by decide +kernel
theorem d2_26 : decode method_4_code 26 = .ok (.iconst 1, 1) := by decide +kernel
theorem d2_27 : decode method_4_code 27 = .ok (.ixor, 1) := by decide +kernel
theorem d2_28 : decode method_4_code 28 = .ok (.i2c, 1) := by decide +kernel
theorem d2_29 : decode method_4_code 29 = .ok (.ireturn, 1) := by decide +kernel
theorem d3_0 : decode jdk_42_method_3_code 0 = .ok (.aload_n 0, 1) := by decide +kernel
theorem d3_1 : decode jdk_42_method_3_code 1 = .ok (.aload_n 1, 1) := by decide +kernel
theorem d3_2 : decode jdk_42_method_3_code 2 = .ok (.iconst 0, 1) := by decide +kernel
theorem d3_3 : decode jdk_42_method_3_code 3 = .ok (.aload_n 1, 1) := by decide +kernel
theorem d3_4 : decode jdk_42_method_3_code 4 = .ok (.arraylength, 1) := by decide +kernel
theorem d3_5 : decode jdk_42_method_3_code 5 = .ok (.aconst_null, 1) := by decide +kernel
theorem d3_6 : decode jdk_42_method_3_code 6 = .ok (.invokespecial 27, 3) := by decide +kernel
theorem d3_9 : decode jdk_42_method_3_code 9 = .ok (.return_, 1) := by decide +kernel
theorem d4_0 : decode jdk_42_method_149_code 0 = .ok (.aload_n 0, 1) := by decide +kernel
theorem d4_1 : decode jdk_42_method_149_code 1 = .ok (.invokespecial 1, 3) := by decide +kernel
theorem d4_4 : decode jdk_42_method_149_code 4 = .ok (.iload_n 3, 1) := by decide +kernel
theorem d4_5 : decode jdk_42_method_149_code 5 = .ok (.ifCond .ne 22, 3) := by decide +kernel
theorem d4_8 : decode jdk_42_method_149_code 8 = .ok (.aload_n 0, 1) := by decide +kernel
theorem d4_9 : decode jdk_42_method_149_code 9 = .ok (.ldc 7, 2) := by decide +kernel
theorem d4_11 : decode jdk_42_method_149_code 11 = .ok (.getfield 9, 3) := by decide +kernel
theorem d4_14 : decode jdk_42_method_149_code 14 = .ok (.putfield 9, 3) := by decide +kernel
theorem d4_17 : decode jdk_42_method_149_code 17 = .ok (.aload_n 0, 1) := by decide +kernel
theorem d4_18 : decode jdk_42_method_149_code 18 = .ok (.ldc 7, 2) := by decide +kernel
theorem d4_20 : decode jdk_42_method_149_code 20 = .ok (.getfield 15, 3) := by decide +kernel
theorem d4_23 : decode jdk_42_method_149_code 23 = .ok (.putfield 15, 3) := by decide +kernel
theorem d4_26 : decode jdk_42_method_149_code 26 = .ok (.return_, 1) := by decide +kernel
theorem d9_0 : decode prog_6_method_1_code 0 = .ok (.aload_n 0, 1) := by decide +kernel
theorem d9_1 : decode prog_6_method_1_code 1 = .ok (.invokespecial 1, 3) := by decide +kernel
theorem d9_4 : decode prog_6_method_1_code 4 = .ok (.aload_n 0, 1) := by decide +kernel
theorem d9_5 : decode prog_6_method_1_code 5 = .ok (.aload_n 1, 1) := by decide +kernel
theorem d9_6 : decode prog_6_method_1_code 6 = .ok (.putfield 7, 3) := by decide +kernel
theorem d9_9 : decode prog_6_method_1_code 9 = .ok (.aload_n 0, 1) := by decide +kernel
theorem d9_10 : decode prog_6_method_1_code 10 = .ok (.aload_n 2, 1) := by decide +kernel
theorem d9_11 : decode prog_6_method_1_code 11 = .ok (.putfield 13, 3) := by decide +kernel
theorem d9_14 : decode prog_6_method_1_code 14 = .ok (.aload_n 0, 1) := by decide +kernel
theorem d9_15 : decode prog_6_method_1_code 15 = .ok (.aload_n 3, 1) := by decide +kernel
theorem d9_16 : decode prog_6_method_1_code 16 = .ok (.putfield 17, 3) := by decide +kernel
theorem d9_19 : decode prog_6_method_1_code 19 = .ok (.aload_n 0, 1) := by decide +kernel
theorem d9_20 : decode prog_6_method_1_code 20 = .ok (.iload 4, 2) := by decide +kernel
theorem d9_22 : decode prog_6_method_1_code 22 = .ok (.putfield 21, 3) := by decide +kernel
theorem d9_25 : decode prog_6_method_1_code 25 = .ok (.return_, 1) := by decide +kernel
theorem d10_0 : decode prog_6_method_6_code 0 = .ok (.aload_n 0, 1) := by decide +kernel
theorem d10_1 : decode prog_6_method_6_code 1 = .ok (.getfield 7, 3) := by decide +kernel
theorem d10_4 : decode prog_6_method_6_code 4 = .ok (.getstatic 25, 3) := by decide +kernel
theorem d10_7 : decode prog_6_method_6_code 7 = .ok (.if_acmp .eq 13, 3) := by decide +kernel
theorem d10_10 : decode prog_6_method_6_code 10 = .ok (.aload_n 0, 1) := by decide +kernel
theorem d10_11 : decode prog_6_method_6_code 11 = .ok (.getfield 7, 3) := by decide +kernel
theorem d10_14 : decode prog_6_method_6_code 14 = .ok (.getstatic 30, 3) := by decide +kernel
theorem d10_17 : decode prog_6_method_6_code 17 = .ok (.if_acmp .ne 18, 3) := by decide +kernel
theorem d10_20 : decode prog_6_method_6_code 20 = .ok (.aload_n 0, 1) := by decide +kernel
theorem d10_21 : decode prog_6_method_6_code 21 = .ok (.getfield 13, 3) := by decide +kernel
theorem d10_24 : decode prog_6_method_6_code 24 = .ok (.aload_n 1, 1) := by decide +kernel
theorem d10_25 : decode prog_6_method_6_code 25 = .ok (.invokevirtual 33, 3) := by decide +kernel
theorem d10_28 : decode prog_6_method_6_code 28 = .ok (.ifCond .eq 7, 3) := by decide +kernel
theorem d10_31 : decode prog_6_method_6_code 31 = .ok (.iconst 1, 1) := by decide +kernel
theorem d10_32 : decode prog_6_method_6_code 32 = .ok (.goto 4, 3) := by decide +kernel
theorem d10_35 : decode prog_6_method_6_code 35 = .ok (.iconst 0, 1) := by decide +kernel
theorem d10_36 : decode prog_6_method_6_code 36 = .ok (.ireturn, 1) := by decide +kernel
theorem d11_0 : decode jdk_42_method_70_code 0 = .ok (.aload_n 0, 1) := by decide +kernel
theorem d11_1 : decode jdk_42_method_70_code 1 = .ok (.aload_n 1, 1) := by decide +kernel
theorem d11_2 : decode jdk_42_method_70_code 2 = .ok (.if_acmp .ne 7, 3) := by decide +kernel
theorem d11_9 : decode jdk_42_method_70_code 9 = .ok (.aload_n 1, 1) := by decide +kernel
theorem d11_10 : decode jdk_42_method_70_code 10 = .ok (.ifnull 33, 3) := by decide +kernel
theorem d11_13 : decode jdk_42_method_70_code 13 = .ok (.aload_n 1, 1) := by decide +kernel
theorem d11_14 : decode jdk_42_method_70_code 14 = .ok (.invokevirtual 505, 3) := by decide +kernel
theorem d11_17 : decode jdk_42_method_70_code 17 = .ok (.aload_n 0, 1) := by decide +kernel
theorem d11_18 : decode jdk_42_method_70_code 18 = .ok (.invokevirtual 505, 3) := by decide +kernel
theorem d11_21 : decode jdk_42_method_70_code 21 = .ok (.if_icmp .ne 22, 3) := by decide +kernel
theorem d11_24 : decode jdk_42_method_70_code 24 = .ok (.aload_n 0, 1) := by decide +kernel
theorem d11_25 : decode jdk_42_method_70_code 25 = .ok (.iconst 1, 1) := by decide +kernel
theorem d11_26 : decode jdk_42_method_70_code 26 = .ok (.iconst 0, 1) := by decide +kernel
theorem d11_27 : decode jdk_42_method_70_code 27 = .ok (.aload_n 1, 1) := by decide +kernel
theorem d11_28 : decode jdk_42_method_70_code 28 = .ok (.iconst 0, 1) := by decide +kernel
theorem d11_29 : decode jdk_42_method_70_code 29 = .ok (.aload_n 0, 1) := by decide +kernel
theorem d11_30 : decode jdk_42_method_70_code 30 = .ok (.invokevirtual 505, 3) := by decide +kernel
theorem d11_33 : decode jdk_42_method_70_code 33 = .ok (.invokevirtual 582, 3) := by decide +kernel
theorem d11_36 : decode jdk_42_method_70_code 36 = .ok (.ifCond .eq 7, 3) := by decide +kernel
theorem d11_39 : decode jdk_42_method_70_code 39 = .ok (.iconst 1, 1) := by decide +kernel
theorem d11_40 : decode jdk_42_method_70_code 40 = .ok (.goto 4, 3) := by decide +kernel
theorem d11_43 : decode jdk_42_method_70_code 43 = .ok (.iconst 0, 1) := by decide +kernel
theorem d11_44 : decode jdk_42_method_70_code 44 = .ok (.ireturn, 1) := by decide +kernel
theorem d13_0 : decode jdk_42_method_152_code 0 = .ok (.getstatic 38, 3) := by decide +kernel
theorem d13_3 : decode jdk_42_method_152_code 3 = .ok (.ifCond .eq 10, 3) := by decide +kernel
theorem d13_6 : decode jdk_42_method_152_code 6 = .ok (.aload_n 0, 1) := by decide +kernel
theorem d13_7 : decode jdk_42_method_152_code 7 = .ok (.getfield 15, 3) := by decide +kernel
theorem d13_10 : decode jdk_42_method_152_code 10 = .ok (.goto 4, 3) := by decide +kernel
theorem d13_14 : decode jdk_42_method_152_code 14 = .ok (.ireturn, 1) := by decide +kernel
theorem d14_0 : decode method_6_code 0 = .ok (.iload_n 0, 1) := by decide +kernel
theorem d14_1 : decode method_6_code 1 = .ok (.invokestatic 60, 3) := by decide +kernel
theorem d14_4 : decode method_6_code 4 = .ok (.iload_n 1, 1) := by decide +kernel
theorem d14_5 : decode method_6_code 5 = .ok (.invokestatic 60, 3) := by decide +kernel
theorem d14_8 : decode method_6_code 8 = .ok (.if_icmp .ne 7, 3) := by decide +kernel
theorem d14_11 : decode method_6_code 11 = .ok (.iconst 1, 1) := by decide +kernel
theorem d14_12 : decode method_6_code 12 = .ok (.goto 4, 3) := by decide +kernel
theorem d14_15 : decode method_6_code 15 = .ok (.iconst 0, 1) := by decide +kernel
theorem d14_16 : decode method_6_code 16 = .ok (.ireturn, 1) := by decide +kernel
theorem d15_0 : decode method_5_code 0 = .ok (.iload_n 0, 1) := by decide +kernel
theorem d15_1 : decode method_5_code 1 = .ok (.istore_n 1, 1) := by decide +kernel
theorem d15_2 : decode method_5_code 2 = .ok (.iload_n 1, 1) := by decide +kernel
theorem d15_3 : decode method_5_code 3 = .ok (.bipush 97, 2) := by decide +kernel
theorem d15_5 : decode method_5_code 5 = .ok (.if_icmp .lt 14, 3) := by decide +kernel
theorem d15_8 : decode method_5_code 8 = .ok (.iload_n 1, 1) := by decide +kernel
theorem d15_9 : decode method_5_code 9 = .ok (.bipush 122, 2) := by decide +kernel
theorem d15_11 : decode method_5_code 11 = .ok (.if_icmp .gt 8, 3) := by decide +kernel
theorem d15_14 : decode method_5_code 14 = .ok (.iload_n 1, 1) := by decide +kernel
theorem d15_15 : decode method_5_code 15 = .ok (.bipush 32, 2) := by decide +kernel
theorem d15_17 : decode method_5_code 17 = .ok (.isub, 1) := by decide +kernel
theorem d15_18 : decode method_5_code 18 = .ok (.ireturn, 1) := by decide +kernel
theorem d15_19 : decode method_5_code 19 = .ok (.iload_n 1, 1) := by decide +kernel
theorem d15_20 : decode method_5_code 20 = .ok (.sipush 224, 3) := by decide +kernel
theorem d15_23 : decode method_5_code 23 = .ok (.if_icmp .lt 22, 3) := by decide +kernel
theorem d15_26 : decode method_5_code 26 = .ok (.iload_n 1, 1) := by decide +kernel
theorem d15_27 : decode method_5_code 27 = .ok (.sipush 254, 3) := by decide +kernel
theorem d15_30 : decode method_5_code 30 = .ok (.if_icmp .gt 15, 3) := by decide +kernel
theorem d15_33 : decode method_5_code 33 = .ok (.iload_n 1, 1) := by decide +kernel
theorem d15_34 : decode method_5_code 34 = .ok (.sipush 247, 3) := by decide +kernel
theorem d15_37 : decode method_5_code 37 = .ok (.if_icmp .eq 8, 3) := by decide +kernel
theorem d15_40 : decode method_5_code 40 = .ok (.iload_n 1, 1) := by decide +kernel
theorem d15_41 : decode method_5_code 41 = .ok (.bipush 32, 2) := by decide +kernel
theorem d15_43 : decode method_5_code 43 = .ok (.isub, 1) := by decide +kernel
theorem d15_44 : decode method_5_code 44 = .ok (.ireturn, 1) := by decide +kernel
theorem d15_45 : decode method_5_code 45 = .ok (.iload_n 1, 1) := by decide +kernel
theorem d15_46 : decode method_5_code 46 = .ok (.ireturn, 1) := by decide +kernel
theorem d16_0 : decode jdk_42_method_74_code 0 = .ok (.iload_n 1, 1) := by decide +kernel
theorem d16_1 : decode jdk_42_method_74_code 1 = .ok (.ifCond .ne 14, 3) := by decide +kernel
theorem d16_15 : decode jdk_42_method_74_code 15 = .ok (.iload 4, 2) := by decide +kernel
theorem d16_17 : decode jdk_42_method_74_code 17 = .ok (.ifCond .lt 38, 3) := by decide +kernel
theorem d16_20 : decode jdk_42_method_74_code 20 = .ok (.iload_n 2, 1) := by decide +kernel
theorem d16_21 : decode jdk_42_method_74_code 21 = .ok (.ifCond .lt 34, 3) := by decide +kernel
theorem d16_24 : decode jdk_42_method_74_code 24 = .ok (.iload_n 2, 1) := by decide +kernel
theorem d16_25 : decode jdk_42_method_74_code 25 = .ok (.i2l, 1) := by decide +kernel
theorem d16_26 : decode jdk_42_method_74_code 26 = .ok (.aload_n 0, 1) := by decide +kernel
theorem d16_27 : decode jdk_42_method_74_code 27 = .ok (.invokevirtual 505, 3) := by decide +kernel
theorem d16_30 : decode jdk_42_method_74_code 30 = .ok (.i2l, 1) := by decide +kernel
theorem d16_31 : decode jdk_42_method_74_code 31 = .ok (.iload 5, 2) := by decide +kernel
theorem d16_33 : decode jdk_42_method_74_code 33 = .ok (.i2l, 1) := by decide +kernel
theorem d16_34 : decode jdk_42_method_74_code 34 = .ok (.lsub, 1) := by decide +kernel
theorem d16_35 : decode jdk_42_method_74_code 35 = .ok (.lcmp, 1) := by decide +kernel
theorem d16_36 : decode jdk_42_method_74_code 36 = .ok (.ifCond .gt 19, 3) := by decide +kernel
theorem d16_39 : decode jdk_42_method_74_code 39 = .ok (.iload 4, 2) := by decide +kernel
theorem d16_41 : decode jdk_42_method_74_code 41 = .ok (.i2l, 1) := by decide +kernel
theorem d16_42 : decode jdk_42_method_74_code 42 = .ok (.aload_n 3, 1) := by decide +kernel
theorem d16_43 : decode jdk_42_method_74_code 43 = .ok (.invokevirtual 505, 3) := by decide +kernel
theorem d16_46 : decode jdk_42_method_74_code 46 = .ok (.i2l, 1) := by decide +kernel
theorem d16_47 : decode jdk_42_method_74_code 47 = .ok (.iload 5, 2) := by decide +kernel
theorem d16_49 : decode jdk_42_method_74_code 49 = .ok (.i2l, 1) := by decide +kernel
theorem d16_50 : decode jdk_42_method_74_code 50 = .ok (.lsub, 1) := by decide +kernel
theorem d16_51 : decode jdk_42_method_74_code 51 = .ok (.lcmp, 1) := by decide +kernel
theorem d16_52 : decode jdk_42_method_74_code 52 = .ok (.ifCond .le 5, 3) := by decide +kernel
theorem d16_57 : decode jdk_42_method_74_code 57 = .ok (.aload_n 0, 1) := by decide +kernel
theorem d16_58 : decode jdk_42_method_74_code 58 = .ok (.getfield 9, 3) := by decide +kernel
theorem d16_61 : decode jdk_42_method_74_code 61 = .ok (.astore 6, 2) := by decide +kernel
theorem d16_63 : decode jdk_42_method_74_code 63 = .ok (.aload_n 3, 1) := by decide +kernel
theorem d16_64 : decode jdk_42_method_74_code 64 = .ok (.getfield 9, 3) := by decide +kernel
theorem d16_67 : decode jdk_42_method_74_code 67 = .ok (.astore 7, 2) := by decide +kernel
theorem d16_69 : decode jdk_42_method_74_code 69 = .ok (.aload_n 0, 1) := by decide +kernel
theorem d16_70 : decode jdk_42_method_74_code 70 = .ok (.invokevirtual 335, 3) := by decide +kernel
theorem d16_73 : decode jdk_42_method_74_code 73 = .ok (.istore 8, 2) := by decide +kernel
theorem d16_75 : decode jdk_42_method_74_code 75 = .ok (.iload 8, 2) := by decide +kernel
theorem d16_77 : decode jdk_42_method_74_code 77 = .ok (.aload_n 3, 1) := by decide +kernel
theorem d16_78 : decode jdk_42_method_74_code 78 = .ok (.invokevirtual 335, 3) := by decide +kernel
theorem d16_81 : decode jdk_42_method_74_code 81 = .ok (.if_icmp .ne 36, 3) := by decide +kernel
theorem d16_84 : decode jdk_42_method_74_code 84 = .ok (.iload 8, 2) := by decide +kernel
theorem d16_86 : decode jdk_42_method_74_code 86 = .ok (.ifCond .ne 18, 3) := by decide +kernel
theorem d16_89 : decode jdk_42_method_74_code 89 = .ok (.aload 6, 2) := by decide +kernel
theorem d16_91 : decode jdk_42_method_74_code 91 = .ok (.iload_n 2, 1) := by decide +kernel
theorem d16_92 : decode jdk_42_method_74_code 92 = .ok (.aload 7, 2) := by decide +kernel
theorem d16_94 : decode jdk_42_method_74_code 94 = .ok (.iload 4, 2) := by decide +kernel
theorem d16_96 : decode jdk_42_method_74_code 96 = .ok (.iload 5, 2) := by decide +kernel
theorem d16_98 : decode jdk_42_method_74_code 98 = .ok (.invokestatic 613, 3) := by decide +kernel
theorem d16_101 : decode jdk_42_method_74_code 101 = .ok (.goto 15, 3) := by decide +kernel
theorem d16_116 : decode jdk_42_method_74_code 116 = .ok (.ireturn, 1) := by decide +kernel
theorem d17_0 : decode jdk_43_method_30_code 0 = .ok (.iload_n 1, 1) := by decide +kernel
theorem d17_1 : decode jdk_43_method_30_code 1 = .ok (.iload 4, 2) := by decide +kernel
theorem d17_3 : decode jdk_43_method_30_code 3 = .ok (.iadd, 1) := by decide +kernel
theorem d17_4 : decode jdk_43_method_30_code 4 = .ok (.istore 5, 2) := by decide +kernel
theorem d17_6 : decode jdk_43_method_30_code 6 = .ok (.iload_n 1, 1) := by decide +kernel
theorem d17_7 : decode jdk_43_method_30_code 7 = .ok (.iload 5, 2) := by decide +kernel
theorem d17_9 : decode jdk_43_method_30_code 9 = .ok (.if_icmp .ge 34, 3) := by decide +kernel
theorem d17_12 : decode jdk_43_method_30_code 12 = .ok (.aload_n 0, 1) := by decide +kernel
theorem d17_13 : decode jdk_43_method_30_code 13 = .ok (.iload_n 1, 1) := by decide +kernel
theorem d17_14 : decode jdk_43_method_30_code 14 = .ok (.iinc 1 1, 3) := by decide +kernel
theorem d17_17 : decode jdk_43_method_30_code 17 = .ok (.baload, 1) := by decide +kernel
theorem d17_18 : decode jdk_43_method_30_code 18 = .ok (.istore 6, 2) := by decide +kernel
theorem d17_20 : decode jdk_43_method_30_code 20 = .ok (.aload_n 2, 1) := by decide +kernel
theorem d17_21 : decode jdk_43_method_30_code 21 = .ok (.iload_n 3, 1) := by decide +kernel
theorem d17_22 : decode jdk_43_method_30_code 22 = .ok (.iinc 3 1, 3) := by decide +kernel
theorem d17_25 : decode jdk_43_method_30_code 25 = .ok (.baload, 1) := by decide +kernel
theorem d17_26 : decode jdk_43_method_30_code 26 = .ok (.istore 7, 2) := by decide +kernel
theorem d17_28 : decode jdk_43_method_30_code 28 = .ok (.iload 6, 2) := by decide +kernel
theorem d17_30 : decode jdk_43_method_30_code 30 = .ok (.iload 7, 2) := by decide +kernel
theorem d17_32 : decode jdk_43_method_30_code 32 = .ok (.invokestatic 153, 3) := by decide +kernel
theorem d17_35 : decode jdk_43_method_30_code 35 = .ok (.ifCond .eq 6, 3) := by decide +kernel
theorem d17_38 : decode jdk_43_method_30_code 38 = .ok (.goto (-32), 3) := by decide +kernel
theorem d17_41 : decode jdk_43_method_30_code 41 = .ok (.iconst 0, 1) := by decide +kernel
theorem d17_42 : decode jdk_43_method_30_code 42 = .ok (.ireturn, 1) := by decide +kernel
theorem d17_43 : decode jdk_43_method_30_code 43 = .ok (.iconst 1, 1) := by decide +kernel
theorem d17_44 : decode jdk_43_method_30_code 44 = .ok (.ireturn, 1) := by decide +kernel
theorem d18_0 : decode jdk_116_method_22_code 0 = .ok (.iload_n 0, 1) := by decide +kernel
theorem d18_1 : decode jdk_116_method_22_code 1 = .ok (.iload_n 1, 1) := by decide +kernel
theorem d18_2 : decode jdk_116_method_22_code 2 = .ok (.if_icmp .ne 5, 3) := by decide +kernel
theorem d18_5 : decode jdk_116_method_22_code 5 = .ok (.iconst 1, 1) := by decide +kernel
theorem d18_6 : decode jdk_116_method_22_code 6 = .ok (.ireturn, 1) := by decide +kernel
theorem d18_7 : decode jdk_116_method_22_code 7 = .ok (.iload_n 0, 1) := by decide +kernel
theorem d18_8 : decode jdk_116_method_22_code 8 = .ok (.sipush 223, 3) := by decide +kernel
theorem d18_11 : decode jdk_116_method_22_code 11 = .ok (.iand, 1) := by decide +kernel
theorem d18_12 : decode jdk_116_method_22_code 12 = .ok (.istore_n 2, 1) := by decide +kernel
theorem d18_13 : decode jdk_116_method_22_code 13 = .ok (.iload_n 2, 1) := by decide +kernel
theorem d18_14 : decode jdk_116_method_22_code 14 = .ok (.bipush 65, 2) := by decide +kernel
theorem d18_16 : decode jdk_116_method_22_code 16 = .ok (.if_icmp .ge 5, 3) := by decide +kernel
theorem d18_19 : decode jdk_116_method_22_code 19 = .ok (.iconst 0, 1) := by decide +kernel
theorem d18_20 : decode jdk_116_method_22_code 20 = .ok (.ireturn, 1) := by decide +kernel
theorem d18_21 : decode jdk_116_method_22_code 21 = .ok (.iload_n 2, 1) := by decide +kernel
theorem d18_22 : decode jdk_116_method_22_code 22 = .ok (.bipush 90, 2) := by decide +kernel
theorem d18_24 : decode jdk_116_method_22_code 24 = .ok (.if_icmp .le 24, 3) := by decide +kernel
theorem d18_27 : decode jdk_116_method_22_code 27 = .ok (.iload_n 2, 1) := by decide +kernel
theorem d18_28 : decode jdk_116_method_22_code 28 = .ok (.sipush 192, 3) := by decide +kernel
theorem d18_31 : decode jdk_116_method_22_code 31 = .ok (.if_icmp .lt 30, 3) := by decide +kernel
theorem d18_34 : decode jdk_116_method_22_code 34 = .ok (.iload_n 2, 1) := by decide +kernel
theorem d18_35 : decode jdk_116_method_22_code 35 = .ok (.sipush 222, 3) := by decide +kernel
theorem d18_38 : decode jdk_116_method_22_code 38 = .ok (.if_icmp .gt 23, 3) := by decide +kernel
theorem d18_41 : decode jdk_116_method_22_code 41 = .ok (.iload_n 2, 1) := by decide +kernel
theorem d18_42 : decode jdk_116_method_22_code 42 = .ok (.sipush 215, 3) := by decide +kernel
theorem d18_45 : decode jdk_116_method_22_code 45 = .ok (.if_icmp .eq 16, 3) := by decide +kernel
theorem d18_48 : decode jdk_116_method_22_code 48 = .ok (.iload_n 2, 1) := by decide +kernel
theorem d18_49 : decode jdk_116_method_22_code 49 = .ok (.iload_n 1, 1) := by decide +kernel
theorem d18_50 : decode jdk_116_method_22_code 50 = .ok (.sipush 223, 3) := by decide +kernel
theorem d18_53 : decode jdk_116_method_22_code 53 = .ok (.iand, 1) := by decide +kernel
theorem d18_54 : decode jdk_116_method_22_code 54 = .ok (.if_icmp .ne 7, 3) := by decide +kernel
theorem d18_57 : decode jdk_116_method_22_code 57 = .ok (.iconst 1, 1) := by decide +kernel
theorem d18_58 : decode jdk_116_method_22_code 58 = .ok (.goto 4, 3) := by decide +kernel
theorem d18_61 : decode jdk_116_method_22_code 61 = .ok (.iconst 0, 1) := by decide +kernel
theorem d18_62 : decode jdk_116_method_22_code 62 = .ok (.ireturn, 1) := by decide +kernel
theorem pd_0 : parseMethodDescriptor "([CIILjava/lang/Void;)V" = some ⟨[(.array .char), .int, .int, (.object "java/lang/Void")], none⟩ := by decide +kernel
theorem pd_1 : parseMethodDescriptor "()I" = some ⟨[], some .int⟩ := by decide +kernel
theorem pd_2 : parseMethodDescriptor "()B" = some ⟨[], some .byte⟩ := by decide +kernel
theorem pd_3 : parseMethodDescriptor "([BI[BII)Z" = some ⟨[(.array .byte), .int, (.array .byte), .int, .int], some .boolean⟩ := by decide +kernel
theorem pd_4 : parseMethodDescriptor "(ZILjava/lang/String;II)Z" = some ⟨[.boolean, .int, (.object "java/lang/String"), .int, .int], some .boolean⟩ := by decide +kernel
theorem pd_5 : parseMethodDescriptor "(Ljava/lang/String;)Z" = some ⟨[(.object "java/lang/String")], some .boolean⟩ := by decide +kernel
theorem pd_6 : parseMethodDescriptor "(BB)Z" = some ⟨[.byte, .byte], some .boolean⟩ := by decide +kernel
theorem pd_7 : parseMethodDescriptor "(I)Lcom/example/agave/agave/query/Tokens$Kind;" = some ⟨[.int], some (.object "com/example/agave/agave/query/Tokens$Kind")⟩ := by decide +kernel
theorem pd_8 : parseMethodDescriptor "(CII)C" = some ⟨[.char, .int, .int], some .char⟩ := by decide +kernel
theorem pd_9 : parseMethodDescriptor "([C)V" = some ⟨[(.array .char)], none⟩ := by decide +kernel
theorem pd_10 : parseMethodDescriptor "(Lcom/example/agave/agave/query/Tokens$Kind;Ljava/lang/String;Ljava/lang/Object;I)V" = some ⟨[(.object "com/example/agave/agave/query/Tokens$Kind"), (.object "java/lang/String"), (.object "java/lang/Object"), .int], none⟩ := by decide +kernel
theorem pd_11 : parseMethodDescriptor "(C)I" = some ⟨[.char], some .int⟩ := by decide +kernel
theorem pd_12 : parseMethodDescriptor "(CC)Z" = some ⟨[.char, .char], some .boolean⟩ := by decide +kernel
theorem pn_0 : plainName "java/lang/String" = true := by first | (simp [plainName, overriddenIn]; done) | decide +kernel
theorem pn_1 : plainName "java/lang/StringLatin1" = true := by first | (simp [plainName, overriddenIn]; done) | decide +kernel
theorem pn_2 : plainName "com/example/agave/agave/query/Tokens$Token" = true := by first | (simp [plainName, overriddenIn]; done) | decide +kernel
theorem pn_3 : plainName "java/lang/CharacterDataLatin1" = true := by first | (simp [plainName, overriddenIn]; done) | decide +kernel
theorem pn_4 : plainName "com/example/agave/agave/query/TokenIsPinLaw" = true := by first | (simp [plainName, overriddenIn]; done) | decide +kernel
theorem ef_4_3 (m : MethodId) (x0 : Addr) (x1 : Addr) : entryFrame m #[(.ref x0), (.ref x1), (.int (0 : Int32)), (.int (0 : Int32)), .null] 6 = mkF m 0 #[vR x0, vR x1, vI (0 : Int32), vI (0 : Int32), vN, vU] [] := by first | (simp [entryFrame, mkF, argsToLocals, Value.category]; done) | rfl
theorem ef_3_4 (m : MethodId) (x0 : Addr) (x1 : Addr) : entryFrame m #[(.ref x0), (.ref x1)] 2 = mkF m 0 #[vR x0, vR x1] [] := by first | (simp [entryFrame, mkF, argsToLocals, Value.category]; done) | rfl
theorem ef_13_8 (m : MethodId) (x0 : Addr) : entryFrame m #[(.ref x0)] 1 = mkF m 0 #[vR x0] [] := by first | (simp [entryFrame, mkF, argsToLocals, Value.category]; done) | rfl
theorem ef_17_9 (m : MethodId) (x0 : Addr) (x2 : Addr) : entryFrame m #[(.ref x0), (.int (0 : Int32)), (.ref x2), (.int (0 : Int32)), (.int (0 : Int32))] 8 = mkF m 0 #[vR x0, vI (0 : Int32), vR x2, vI (0 : Int32), vI (0 : Int32), vU, vU, vU] [] := by first | (simp [entryFrame, mkF, argsToLocals, Value.category]; done) | rfl
theorem ef_16_7 (m : MethodId) (x0 : Addr) (x3 : Addr) : entryFrame m #[(.ref x0), (.int (1 : Int32)), (.int (0 : Int32)), (.ref x3), (.int (0 : Int32)), (.int (0 : Int32))] 9 = mkF m 0 #[vR x0, vI (1 : Int32), vI (0 : Int32), vR x3, vI (0 : Int32), vI (0 : Int32), vU, vU, vU] [] := by first | (simp [entryFrame, mkF, argsToLocals, Value.category]; done) | rfl
theorem ef_11_6 (m : MethodId) (x0 : Addr) (x1 : Addr) : entryFrame m #[(.ref x0), (.ref x1)] 2 = mkF m 0 #[vR x0, vR x1] [] := by first | (simp [entryFrame, mkF, argsToLocals, Value.category]; done) | rfl
theorem ef_10_5 (m : MethodId) (x0 : Addr) (x1 : Addr) : entryFrame m #[(.ref x0), (.ref x1)] 2 = mkF m 0 #[vR x0, vR x1] [] := by first | (simp [entryFrame, mkF, argsToLocals, Value.category]; done) | rfl
theorem ef_11_11 (m : MethodId) (x0 : Addr) (x1 : Addr) : entryFrame m #[(.ref x0), (.ref x1)] 2 = mkF m 0 #[vR x0, vR x1] [] := by first | (simp [entryFrame, mkF, argsToLocals, Value.category]; done) | rfl
theorem ef_10_10 (m : MethodId) (x0 : Addr) (x1 : Addr) : entryFrame m #[(.ref x0), (.ref x1)] 2 = mkF m 0 #[vR x0, vR x1] [] := by first | (simp [entryFrame, mkF, argsToLocals, Value.category]; done) | rfl
theorem ef_11_13 (m : MethodId) (x0 : Addr) (x1 : Addr) : entryFrame m #[(.ref x0), (.ref x1)] 2 = mkF m 0 #[vR x0, vR x1] [] := by first | (simp [entryFrame, mkF, argsToLocals, Value.category]; done) | rfl
theorem ef_10_12 (m : MethodId) (x0 : Addr) (x1 : Addr) : entryFrame m #[(.ref x0), (.ref x1)] 2 = mkF m 0 #[vR x0, vR x1] [] := by first | (simp [entryFrame, mkF, argsToLocals, Value.category]; done) | rfl
theorem ef_11_15 (m : MethodId) (x0 : Addr) (x1 : Addr) : entryFrame m #[(.ref x0), (.ref x1)] 2 = mkF m 0 #[vR x0, vR x1] [] := by first | (simp [entryFrame, mkF, argsToLocals, Value.category]; done) | rfl
theorem ef_10_14 (m : MethodId) (x0 : Addr) (x1 : Addr) : entryFrame m #[(.ref x0), (.ref x1)] 2 = mkF m 0 #[vR x0, vR x1] [] := by first | (simp [entryFrame, mkF, argsToLocals, Value.category]; done) | rfl
theorem ef_11_17 (m : MethodId) (x0 : Addr) (x1 : Addr) : entryFrame m #[(.ref x0), (.ref x1)] 2 = mkF m 0 #[vR x0, vR x1] [] := by first | (simp [entryFrame, mkF, argsToLocals, Value.category]; done) | rfl
theorem ef_10_16 (m : MethodId) (x0 : Addr) (x1 : Addr) : entryFrame m #[(.ref x0), (.ref x1)] 2 = mkF m 0 #[vR x0, vR x1] [] := by first | (simp [entryFrame, mkF, argsToLocals, Value.category]; done) | rfl
theorem ef_13_21 (m : MethodId) (x0 : Addr) : entryFrame m #[(.ref x0)] 1 = mkF m 0 #[vR x0] [] := by first | (simp [entryFrame, mkF, argsToLocals, Value.category]; done) | rfl
theorem ef_18_23 (m : MethodId) (x0 : Int32) (x1 : Int32) : entryFrame m #[(.int x0), (.int x1)] 3 = mkF m 0 #[vI x0, vI x1, vU] [] := by first | (simp [entryFrame, mkF, argsToLocals, Value.category]; done) | rfl
theorem ef_17_22 (m : MethodId) (x0 : Addr) (x2 : Addr) : entryFrame m #[(.ref x0), (.int (0 : Int32)), (.ref x2), (.int (0 : Int32)), (.int (1 : Int32))] 8 = mkF m 0 #[vR x0, vI (0 : Int32), vR x2, vI (0 : Int32), vI (1 : Int32), vU, vU, vU] [] := by first | (simp [entryFrame, mkF, argsToLocals, Value.category]; done) | rfl
theorem ef_16_20 (m : MethodId) (x0 : Addr) (x3 : Addr) : entryFrame m #[(.ref x0), (.int (1 : Int32)), (.int (0 : Int32)), (.ref x3), (.int (0 : Int32)), (.int (1 : Int32))] 9 = mkF m 0 #[vR x0, vI (1 : Int32), vI (0 : Int32), vR x3, vI (0 : Int32), vI (1 : Int32), vU, vU, vU] [] := by first | (simp [entryFrame, mkF, argsToLocals, Value.category]; done) | rfl
theorem ef_11_19 (m : MethodId) (x0 : Addr) (x1 : Addr) : entryFrame m #[(.ref x0), (.ref x1)] 2 = mkF m 0 #[vR x0, vR x1] [] := by first | (simp [entryFrame, mkF, argsToLocals, Value.category]; done) | rfl
theorem ef_10_18 (m : MethodId) (x0 : Addr) (x1 : Addr) : entryFrame m #[(.ref x0), (.ref x1)] 2 = mkF m 0 #[vR x0, vR x1] [] := by first | (simp [entryFrame, mkF, argsToLocals, Value.category]; done) | rfl
theorem ef_11_25 (m : MethodId) (x0 : Addr) (x1 : Addr) : entryFrame m #[(.ref x0), (.ref x1)] 2 = mkF m 0 #[vR x0, vR x1] [] := by first | (simp [entryFrame, mkF, argsToLocals, Value.category]; done) | rfl
theorem ef_10_24 (m : MethodId) (x0 : Addr) (x1 : Addr) : entryFrame m #[(.ref x0), (.ref x1)] 2 = mkF m 0 #[vR x0, vR x1] [] := by first | (simp [entryFrame, mkF, argsToLocals, Value.category]; done) | rfl
theorem ef_11_27 (m : MethodId) (x0 : Addr) (x1 : Addr) : entryFrame m #[(.ref x0), (.ref x1)] 2 = mkF m 0 #[vR x0, vR x1] [] := by first | (simp [entryFrame, mkF, argsToLocals, Value.category]; done) | rfl
theorem ef_10_26 (m : MethodId) (x0 : Addr) (x1 : Addr) : entryFrame m #[(.ref x0), (.ref x1)] 2 = mkF m 0 #[vR x0, vR x1] [] := by first | (simp [entryFrame, mkF, argsToLocals, Value.category]; done) | rfl
theorem ef_11_29 (m : MethodId) (x0 : Addr) (x1 : Addr) : entryFrame m #[(.ref x0), (.ref x1)] 2 = mkF m 0 #[vR x0, vR x1] [] := by first | (simp [entryFrame, mkF, argsToLocals, Value.category]; done) | rfl
theorem ef_10_28 (m : MethodId) (x0 : Addr) (x1 : Addr) : entryFrame m #[(.ref x0), (.ref x1)] 2 = mkF m 0 #[vR x0, vR x1] [] := by first | (simp [entryFrame, mkF, argsToLocals, Value.category]; done) | rfl
theorem ef_11_31 (m : MethodId) (x0 : Addr) (x1 : Addr) : entryFrame m #[(.ref x0), (.ref x1)] 2 = mkF m 0 #[vR x0, vR x1] [] := by first | (simp [entryFrame, mkF, argsToLocals, Value.category]; done) | rfl
theorem ef_10_30 (m : MethodId) (x0 : Addr) (x1 : Addr) : entryFrame m #[(.ref x0), (.ref x1)] 2 = mkF m 0 #[vR x0, vR x1] [] := by first | (simp [entryFrame, mkF, argsToLocals, Value.category]; done) | rfl
theorem ef_13_35 (m : MethodId) (x0 : Addr) : entryFrame m #[(.ref x0)] 1 = mkF m 0 #[vR x0] [] := by first | (simp [entryFrame, mkF, argsToLocals, Value.category]; done) | rfl
theorem ef_17_36 (m : MethodId) (x0 : Addr) (x2 : Addr) : entryFrame m #[(.ref x0), (.int (0 : Int32)), (.ref x2), (.int (0 : Int32)), (.int (2 : Int32))] 8 = mkF m 0 #[vR x0, vI (0 : Int32), vR x2, vI (0 : Int32), vI (2 : Int32), vU, vU, vU] [] := by first | (simp [entryFrame, mkF, argsToLocals, Value.category]; done) | rfl
theorem ef_16_34 (m : MethodId) (x0 : Addr) (x3 : Addr) : entryFrame m #[(.ref x0), (.int (1 : Int32)), (.int (0 : Int32)), (.ref x3), (.int (0 : Int32)), (.int (2 : Int32))] 9 = mkF m 0 #[vR x0, vI (1 : Int32), vI (0 : Int32), vR x3, vI (0 : Int32), vI (2 : Int32), vU, vU, vU] [] := by first | (simp [entryFrame, mkF, argsToLocals, Value.category]; done) | rfl
theorem ef_11_33 (m : MethodId) (x0 : Addr) (x1 : Addr) : entryFrame m #[(.ref x0), (.ref x1)] 2 = mkF m 0 #[vR x0, vR x1] [] := by first | (simp [entryFrame, mkF, argsToLocals, Value.category]; done) | rfl
theorem ef_10_32 (m : MethodId) (x0 : Addr) (x1 : Addr) : entryFrame m #[(.ref x0), (.ref x1)] 2 = mkF m 0 #[vR x0, vR x1] [] := by first | (simp [entryFrame, mkF, argsToLocals, Value.category]; done) | rfl
theorem ef_11_38 (m : MethodId) (x0 : Addr) (x1 : Addr) : entryFrame m #[(.ref x0), (.ref x1)] 2 = mkF m 0 #[vR x0, vR x1] [] := by first | (simp [entryFrame, mkF, argsToLocals, Value.category]; done) | rfl
theorem ef_10_37 (m : MethodId) (x0 : Addr) (x1 : Addr) : entryFrame m #[(.ref x0), (.ref x1)] 2 = mkF m 0 #[vR x0, vR x1] [] := by first | (simp [entryFrame, mkF, argsToLocals, Value.category]; done) | rfl
theorem ef_11_40 (m : MethodId) (x0 : Addr) (x1 : Addr) : entryFrame m #[(.ref x0), (.ref x1)] 2 = mkF m 0 #[vR x0, vR x1] [] := by first | (simp [entryFrame, mkF, argsToLocals, Value.category]; done) | rfl
theorem ef_10_39 (m : MethodId) (x0 : Addr) (x1 : Addr) : entryFrame m #[(.ref x0), (.ref x1)] 2 = mkF m 0 #[vR x0, vR x1] [] := by first | (simp [entryFrame, mkF, argsToLocals, Value.category]; done) | rfl
theorem ef_11_42 (m : MethodId) (x0 : Addr) (x1 : Addr) : entryFrame m #[(.ref x0), (.ref x1)] 2 = mkF m 0 #[vR x0, vR x1] [] := by first | (simp [entryFrame, mkF, argsToLocals, Value.category]; done) | rfl
theorem ef_10_41 (m : MethodId) (x0 : Addr) (x1 : Addr) : entryFrame m #[(.ref x0), (.ref x1)] 2 = mkF m 0 #[vR x0, vR x1] [] := by first | (simp [entryFrame, mkF, argsToLocals, Value.category]; done) | rfl
theorem ef_11_44 (m : MethodId) (x0 : Addr) (x1 : Addr) : entryFrame m #[(.ref x0), (.ref x1)] 2 = mkF m 0 #[vR x0, vR x1] [] := by first | (simp [entryFrame, mkF, argsToLocals, Value.category]; done) | rfl
theorem ef_10_43 (m : MethodId) (x0 : Addr) (x1 : Addr) : entryFrame m #[(.ref x0), (.ref x1)] 2 = mkF m 0 #[vR x0, vR x1] [] := by first | (simp [entryFrame, mkF, argsToLocals, Value.category]; done) | rfl
theorem ef_13_48 (m : MethodId) (x0 : Addr) : entryFrame m #[(.ref x0)] 1 = mkF m 0 #[vR x0] [] := by first | (simp [entryFrame, mkF, argsToLocals, Value.category]; done) | rfl
theorem ef_17_49 (m : MethodId) (x0 : Addr) (x2 : Addr) : entryFrame m #[(.ref x0), (.int (0 : Int32)), (.ref x2), (.int (0 : Int32)), (.int (3 : Int32))] 8 = mkF m 0 #[vR x0, vI (0 : Int32), vR x2, vI (0 : Int32), vI (3 : Int32), vU, vU, vU] [] := by first | (simp [entryFrame, mkF, argsToLocals, Value.category]; done) | rfl
theorem ef_16_47 (m : MethodId) (x0 : Addr) (x3 : Addr) : entryFrame m #[(.ref x0), (.int (1 : Int32)), (.int (0 : Int32)), (.ref x3), (.int (0 : Int32)), (.int (3 : Int32))] 9 = mkF m 0 #[vR x0, vI (1 : Int32), vI (0 : Int32), vR x3, vI (0 : Int32), vI (3 : Int32), vU, vU, vU] [] := by first | (simp [entryFrame, mkF, argsToLocals, Value.category]; done) | rfl
theorem ef_11_46 (m : MethodId) (x0 : Addr) (x1 : Addr) : entryFrame m #[(.ref x0), (.ref x1)] 2 = mkF m 0 #[vR x0, vR x1] [] := by first | (simp [entryFrame, mkF, argsToLocals, Value.category]; done) | rfl
theorem ef_10_45 (m : MethodId) (x0 : Addr) (x1 : Addr) : entryFrame m #[(.ref x0), (.ref x1)] 2 = mkF m 0 #[vR x0, vR x1] [] := by first | (simp [entryFrame, mkF, argsToLocals, Value.category]; done) | rfl
theorem ef_1_51 (m : MethodId) (x0 : Int32) : entryFrame m #[(.int x0)] 1 = mkF m 0 #[vI x0] [] := by first | (simp [entryFrame, mkF, argsToLocals, Value.category]; done) | rfl
theorem ef_2_52 (m : MethodId) (x0 : Int32) (x1 : Int32) (x2 : Int32) : entryFrame m #[(.int x0), (.int x1), (.int x2)] 3 = mkF m 0 #[vI x0, vI x1, vI x2] [] := by first | (simp [entryFrame, mkF, argsToLocals, Value.category]; done) | rfl
theorem ef_9_53 (m : MethodId) (x0 : Addr) (x1 : Addr) (x2 : Addr) (x3 : Value) (x4 : Int32) (hr3 : x3.isRef = true) : entryFrame m #[(.ref x0), (.ref x1), (.ref x2), x3, (.int x4)] 5 = mkF m 0 #[vR x0, vR x1, vR x2, .val x3, vI x4] [] := by rcases ref_cases hr3 with rfl | ⟨_, rfl⟩ <;> first | (simp [entryFrame, mkF, argsToLocals, Value.category]; done) | rfl
theorem ef_15_55 (m : MethodId) (x0 : Int32) : entryFrame m #[(.int x0)] 2 = mkF m 0 #[vI x0, vU] [] := by first | (simp [entryFrame, mkF, argsToLocals, Value.category]; done) | rfl
theorem ef_14_54 (m : MethodId) (x0 : Int32) (x1 : Int32) : entryFrame m #[(.int x0), (.int x1)] 2 = mkF m 0 #[vI x0, vI x1] [] := by first | (simp [entryFrame, mkF, argsToLocals, Value.category]; done) | rfl
theorem ef_law (m : MethodId) (x0 : Int32) (x1 : Int32) (x2 : Int32) (x3 : Int32) (x4 : Int32) (x5 : Int32) : entryFrame m #[(.int x0), (.int x1), (.int x2), (.int x3), (.int x4), (.int x5)] maxLocals = mkF m 0 #[vI x0, vI x1, vI x2, vI x3, vI x4, vI x5, vU, vU, vU, vU, vU, vU, vU, vU, vU, vU, vU, vU, vU, vU, vU, vU, vU, vU] [] := by first | (simp [entryFrame, mkF, argsToLocals, Value.category, maxLocals]; done) | rfl
abbrev R4_3 : Room := { frames := 1, cells := 4, slots := 8, locals := 12 }
def Q4_3 (Z : State) (ra0 : Addr) (ra1 : Addr) (kc2 : ClassId) (h0 : Heap) (n0 : Nat) (v : Option Value) (h : Heap) (L : List Loc) : Prop := (∃ (lb2 : Addr) (lk2 : ClassId), v = none ∧ Fr n0 L ∧ Keep h0 h [ra0] ∧ lb2 < h.size ∧ Fld Z h ra0 "java/lang/String" "coder" "B" (.int (0 : Int32)) ∧ Fld Z h ra0 "java/lang/String" "value" "[B" (.ref lb2) ∧ Arv Z h lb2 lk2 .byte (0 : Int32) [] (.int (0 : Int32)))
theorem rm4_3 (l : Launch) (Z : State) (a0 : Array Value) (hw : HW Z a0) (ra0 : Addr) (ra1 : Addr) (kc2 : ClassId) (h0 : Heap) (n0 : Nat) (OLD : Old Z n0 h0) (E_ra0 : Exa Z h0 ra0 "java/lang/String") (F_coder_ra0 : Fld Z h0 ra0 "java/lang/String" "coder" "B" (.int (0 : Int32))) (F_value_ra0 : Fld Z h0 ra0 "java/lang/String" "value" "[B" .null) (V_ra1 : Arv Z h0 ra1 kc2 .char (0 : Int32) [] (.int (0 : Int32))) (ge_ra0 : n0 ≤ ra0) :
    own_CW l Z false y0 jdk_42_method_149_code 6 none [] R4_3 #[(.ref ra0), (.ref ra1), (.int (0 : Int32)), (.int (0 : Int32)), .null] h0 [ra0] (Q4_3 Z ra0 ra1 kc2 h0 n0) := by
  refine own_entryW (plainFor_of_name pn_0) fun p e s m below meth c s₁ hx hby hml hown hnm hret hlk hZ hh hCH hSf hKn X0 e0 => ?_
  have N0 := Fr.nil n0
  have hS0 : s.Since s.vm h0.size := own_since s _
  have hk0 : h0.size ≤ h0.size := Nat.le_refl _
  have CH0 : CHr Z own_EL s.vm h0 s.vm h0 := CHr.refl hCH
  rw [ef_4_3 m ra0 ra1]
  refine og s₁ (mkF m 1 #[vR ra0, vR ra1, vI (0 : Int32), vI (0 : Int32), vN, vU] [(.ref ra0)]) (fun _ k => XS.aloadN X0.here hx rfl (hb hby d4_0) rfl rfl k) ?_
  obtain ⟨T1, X1, e1, st1⟩ := initO X0 hx hZ hown (own_w hw 22) (own_w hw 23) (own_w hw 24) e0 (g := (mkF m 1 #[vR ra0, vR ra1, vI (0 : Int32), vI (0 : Int32), vN, vU] [(.ref ra0)])) rfl (by rw [hml]; rfl) rfl (hb hby d4_1) (by decide) (W := 0) (lb rfl) (by decide)
  refine og T1 (mkF m 4 #[vR ra0, vR ra1, vI (0 : Int32), vI (0 : Int32), vN, vU] []) st1 ?_
  refine og T1 (mkF m 9 #[vR ra0, vR ra1, vI (0 : Int32), vI (0 : Int32), vN, vU] [(.ref ra0)]) (fun _ k => XS.iloadN X1.here hx rfl (hb hby d4_4) rfl (XS.ifNo X1.here hx rfl (hb hby d4_5) rfl ((if0 _ _).trans (teq (by decide : (0 : Int32) = (0 : Int32))).2) (XS.aloadN X1.here hx rfl (hb hby d4_8) rfl rfl k))) ?_
  obtain ⟨l2, T2, h2, k2, lb2, lk2, X2, e2, E2, hS2, hk2, hZ2, hown2, Ex2, Fc2, Fv2, Av2, la2, lz2, ch2, Lt2, sf2, st2⟩ := ldcCH X1 hx hZ hown (own_w hw 41) (own_wS hw) e1 hS0 hk0 (own_EW hw) (by decide) CH0.1 (vs := []) (z := (0 : Int32)) (by decide) (by decide) (by decide) (g := (mkF m 9 #[vR ra0, vR ra1, vI (0 : Int32), vI (0 : Int32), vN, vU] [(.ref ra0)])) rfl (hb hby d4_9) (n := 0) (by decide) (by decide) (lb rfl) (lb rfl)
  have CH3 := CHr.trans CH0 ch2
  refine og T2 (mkF m 11 #[vR ra0, vR ra1, vI (0 : Int32), vI (0 : Int32), vN, vU] [(.ref l2), (.ref ra0)]) st2 ?_
  obtain ⟨T4, X4, e4, st4⟩ := getF X2 hx hZ2 hown2 (host := "") (Or.inl (own_w hw 39)) Via.refl e2 Fv2 (g := (mkF m 11 #[vR ra0, vR ra1, vI (0 : Int32), vI (0 : Int32), vN, vU] [(.ref l2), (.ref ra0)])) rfl rfl (hb hby d4_11)
  refine og T4 (mkF m 14 #[vR ra0, vR ra1, vI (0 : Int32), vI (0 : Int32), vN, vU] [(.ref lb2), (.ref ra0)]) st4 ?_
  have F5 := (E_ra0.ext E2)
  have F6 := (F_value_ra0.ext E2)
  obtain ⟨T7, h7, X7, e7, W7, st7⟩ := putF X4 hx hZ2 hown2 (host := "") (Or.inl (own_w hw 39)) Via.refl e4 F6 F5 (Or.inr ⟨(own_w hw 40), rfl, hnm⟩) (own_w hw 13) (ty := (.array .byte)) (by decide) rfl rfl (g := (mkF m 14 #[vR ra0, vR ra1, vI (0 : Int32), vI (0 : Int32), vN, vU] [(.ref lb2), (.ref ra0)])) rfl rfl (hb hby d4_14)
  have Fw7 := F6.same W7
  have ch8 := CHr.wr W7 (CHr.safe ch2 E_ra0.lt (hSf _ (List.mem_of_getElem? (i := 0) rfl))) CH3.1
  have CH9 := CHr.trans CH3 ch8
  have N7 := Fr.snoc X7 N0 ge_ra0
  refine og T7 (mkF m 17 #[vR ra0, vR ra1, vI (0 : Int32), vI (0 : Int32), vN, vU] []) st7 ?_
  refine og T7 (mkF m 18 #[vR ra0, vR ra1, vI (0 : Int32), vI (0 : Int32), vN, vU] [(.ref ra0)]) (fun _ k => XS.aloadN X7.here hx rfl (hb hby d4_17) rfl rfl k) ?_
  have F11 := (Nat.le_trans hk2 (Nat.le_of_eq W7.size.symm))
  have F12 := (Nat.le_trans (Nat.le_trans (Nat.le_refl _) E2.1) (Nat.le_of_eq W7.size.symm))
  obtain ⟨l10, T10, h10, k10, lb10, lk10, X10, e10, E10, hS10, hk10, hZ10, hown10, Ex10, Fc10, Fv10, Av10, la10, lz10, ch10, Lt10, sf10, st10⟩ := ldcCH X7 hx hZ2 hown2 (own_w hw 41) (own_wS hw) e7 hS2 F11 (own_EW hw) (by decide) CH9.1 (vs := []) (z := (0 : Int32)) (by decide) (by decide) (by decide) (g := (mkF m 18 #[vR ra0, vR ra1, vI (0 : Int32), vI (0 : Int32), vN, vU] [(.ref ra0)])) rfl (hb hby d4_18) (n := 0) (by decide) (by decide) (lb rfl) (lb rfl)
  have CH13 := CHr.trans CH9 ch10
  refine og T10 (mkF m 20 #[vR ra0, vR ra1, vI (0 : Int32), vI (0 : Int32), vN, vU] [(.ref l10), (.ref ra0)]) st10 ?_
  obtain ⟨T14, X14, e14, st14⟩ := getF X10 hx hZ10 hown10 (host := "") (Or.inl (own_w hw 37)) Via.refl e10 Fc10 (g := (mkF m 20 #[vR ra0, vR ra1, vI (0 : Int32), vI (0 : Int32), vN, vU] [(.ref l10), (.ref ra0)])) rfl rfl (hb hby d4_20)
  refine og T14 (mkF m 23 #[vR ra0, vR ra1, vI (0 : Int32), vI (0 : Int32), vN, vU] [(.int (0 : Int32)), (.ref ra0)]) st14 ?_
  have F15 := ((F5.wr W7).ext E10)
  have F16 := (((F_coder_ra0.ext E2).other W7 (Or.inr (slot_ne (Or.inr (own_w hw 38)) (Or.inr (own_w hw 40)) (by decide) (t := .byte) (t' := (.array .byte)) (by decide) (by decide)))).ext E10)
  obtain ⟨T17, h17, X17, e17, W17, st17⟩ := putFN X14 hx hZ10 hown10 (own_w hw 37) Via.refl e14 F16 F15 (Or.inr ⟨(own_w hw 38), rfl, hnm⟩) (own_w hw 13) (ty := .byte) (v' := (.int (nar .byte (0 : Int32)))) (by decide) rfl (fits_nar_byte _) (g := (mkF m 23 #[vR ra0, vR ra1, vI (0 : Int32), vI (0 : Int32), vN, vU] [(.int (0 : Int32)), (.ref ra0)])) rfl rfl (hb hby d4_23)
  rw [show nar .byte (0 : Int32) = (0 : Int32) from rfl] at W17
  have Fw17 := F16.same W17
  have ch18 := CHr.wr W17 (CHr.safe ch10 (Nat.lt_of_lt_of_le (Nat.lt_of_lt_of_le E_ra0.lt E2.1) (Nat.le_of_eq W7.size.symm)) (CHr.safe ch8 (Nat.lt_of_lt_of_le E_ra0.lt E2.1) (CHr.safe ch2 E_ra0.lt (hSf _ (List.mem_of_getElem? (i := 0) rfl))))) CH13.1
  have CH19 := CHr.trans CH13 ch18
  have N17 := Fr.snoc X17 N7 ge_ra0
  refine og T17 (mkF m 26 #[vR ra0, vR ra1, vI (0 : Int32), vI (0 : Int32), vN, vU] []) st17 ?_
  have F20 := (Nat.lt_of_lt_of_le (Nat.lt_of_lt_of_le (Nat.lt_of_lt_of_le lz2 (Nat.le_of_eq W7.size.symm)) E10.1) (Nat.le_of_eq W17.size.symm))
  have F21 := ((Fw7.ext E10).other W17 (Or.inr (slot_ne (Or.inr (own_w hw 40)) (Or.inr (own_w hw 38)) (by decide) (t := (.array .byte)) (t' := .byte) (by decide) (by decide))))
  have F22 := (((Av2.other W7 (Ne.symm (own_ne_arv F5 (own_w hw 13) Av2))).ext E10).other W17 (Ne.symm (own_ne_arv F5 (own_w hw 13) Av2)))
  have K24 := (((((Keep.refl h0 [ra0]).ext E2).wr W7 (Or.inl (List.mem_of_getElem? (i := 0) rfl))).ext E10).wr W17 (Or.inl (List.mem_of_getElem? (i := 0) rfl)))
  have KEEP := K24
  have F23 := (Nat.le_trans hk10 (Nat.le_of_eq W17.size.symm))
  exact own_leaveW (s := s) (vm0 := T10.vm) X17 hS10 F23 hZ10 (own_EW hw) e17 CH19 hh hlk (v := none) (fun _ => rfl) (lb rfl) (lb rfl) (by rw [e17]; exact ⟨lb2, lk2, rfl, N17, KEEP, F20, Fw17, F21, F22⟩) (fun fs hr => X17.returnOut hx hret (hb hby d4_26) hr)
abbrev R3_4 : Room := { frames := 2, cells := 4, slots := 8, locals := 29 }
def Q3_4 (Z : State) (ra0 : Addr) (ra1 : Addr) (kc2 : ClassId) (h0 : Heap) (n0 : Nat) (v : Option Value) (h : Heap) (L : List Loc) : Prop := (∃ (o3 : Addr) (kc4 : ClassId), v = none ∧ Fr n0 L ∧ Keep h0 h [ra0] ∧ o3 < h.size ∧ Fld Z h ra0 "java/lang/String" "coder" "B" (.int (0 : Int32)) ∧ Fld Z h ra0 "java/lang/String" "value" "[B" (.ref o3) ∧ Arv Z h o3 kc4 .byte (0 : Int32) [] (.int (0 : Int32)))
theorem rm3_4 (l : Launch) (Z : State) (a0 : Array Value) (hw : HW Z a0) (ra0 : Addr) (ra1 : Addr) (kc2 : ClassId) (h0 : Heap) (n0 : Nat) (OLD : Old Z n0 h0) (E_ra0 : Exa Z h0 ra0 "java/lang/String") (F_coder_ra0 : Fld Z h0 ra0 "java/lang/String" "coder" "B" (.int (0 : Int32))) (F_value_ra0 : Fld Z h0 ra0 "java/lang/String" "value" "[B" .null) (V_ra1 : Arv Z h0 ra1 kc2 .char (0 : Int32) [] (.int (0 : Int32))) (ge_ra0 : n0 ≤ ra0) :
    own_CW l Z false y1 jdk_42_method_3_code 2 none [] R3_4 #[(.ref ra0), (.ref ra1)] h0 [ra0] (Q3_4 Z ra0 ra1 kc2 h0 n0) := by
  refine own_entryW (plainFor_of_name pn_0) fun p e s m below meth c s₁ hx hby hml hown hnm hret hlk hZ hh hCH hSf hKn X0 e0 => ?_
  have N0 := Fr.nil n0
  have hS0 : s.Since s.vm h0.size := own_since s _
  have hk0 : h0.size ≤ h0.size := Nat.le_refl _
  have CH0 : CHr Z own_EL s.vm h0 s.vm h0 := CHr.refl hCH
  rw [ef_3_4 m ra0 ra1]
  refine og s₁ (mkF m 4 #[vR ra0, vR ra1] [(.ref ra1), (.int (0 : Int32)), (.ref ra1), (.ref ra0)]) (fun _ k => XS.aloadN X0.here hx rfl (hb hby d3_0) rfl rfl (XS.aloadN X0.here hx rfl (hb hby d3_1) rfl rfl (XS.iconst X0.here hx rfl (hb hby d3_2) (XS.aloadN X0.here hx rfl (hb hby d3_3) rfl rfl k)))) ?_
  obtain ⟨cl1, Ar1, -, Sr1, Nr1, -, -⟩ := id V_ra1
  refine og s₁ (mkF m 5 #[vR ra0, vR ra1] [(.int (0 : Int32)), (.int (0 : Int32)), (.ref ra1), (.ref ra0)]) (fun t k => X0.arraylength hx (by rw [e0]; exact Ar1.1) (State.isArrayOf_alike hZ.alike Ar1.2.1) (g := (mkF m 4 #[vR ra0, vR ra1] [(.ref ra1), (.int (0 : Int32)), (.ref ra1), (.ref ra0)])) rfl rfl (hb hby d3_4) t (by rw [len_of Sr1 Nr1]; exact k)) ?_
  refine og s₁ (mkF m 6 #[vR ra0, vR ra1] [.null, (.int (0 : Int32)), (.int (0 : Int32)), (.ref ra1), (.ref ra0)]) (fun _ k => XS.aconstNull X0.here hx rfl (hb hby d3_5) k) ?_
  obtain ⟨_, _, ⟨T2, L2, k2, n2⟩, -, X2, hs2, hg2, ⟨Lc2, hQ2, l2, y2, z2, ch2⟩, st2⟩ := X0.specialBackS hx (y := y0) rfl hown (mvT hZ (own_w hw 18)) (mvT hZ (own_w hw 19)) (mvT hZ (own_w hw 21)) (by decide) (own_backSH (W := 0) (rm4_3 l Z a0 hw ra0 ra1 kc2 h0 n0 OLD E_ra0 F_coder_ra0 F_value_ra0 V_ra1 ge_ra0) hZ (own_w hw 21) (own_w hw 14) (lb rfl) (lb rfl) (own_EW hw) CH0.1 (allS ⟨E_ra0.lt, (hSf _ (List.mem_of_getElem? (i := 0) rfl))⟩ all0) nofun) (g := (mkF m 6 #[vR ra0, vR ra1] [.null, (.int (0 : Int32)), (.int (0 : Int32)), (.ref ra1), (.ref ra0)])) rfl (by rw [hml]; rfl) (Steps.refl _) (a := ra0) (argsL := [(.ref ra1), (.int (0 : Int32)), (.int (0 : Int32)), .null]) (rest := []) (lenOf pd_0 rfl) rfl (lb rfl) (hb hby d3_6) (fun _ _ => ⟨rfl, e0, (lb rfl), (lb rfl)⟩)
  dsimp only [Pt.U, Pt.locs, Pt.cells, Pt.slots] at X2 l2 y2 z2 st2 hQ2 hs2 hg2 ch2
  subst l2 y2 z2
  replace X2 := own_reb X2
  obtain ⟨hZ2, hS2, hown2⟩ := own_after hZ hS0 e0 hk0 hs2 hg2 hown
  obtain ⟨o3, kc4, rfl, Nq2, K2, f5, f6, f7, f8⟩ := hQ2
  have N2 := Fr.app N0 Nq2
  have CH9 := CHr.trans CH0 ch2
  refine ot T2 (mkF m 9 #[vR ra0, vR ra1] []) st2 ?_
  have KEEP := ((Keep.refl h0 [ra0]).trans K2 (allS (Or.inl (List.mem_of_getElem? (i := 0) rfl)) all0))
  exact own_leaveW (s := s) (vm0 := T2.vm) X2 hS2 (Nat.le_refl _) hZ2 (own_EW hw) rfl CH9 hh hlk (v := none) (fun _ => rfl) (lb rfl) (lb rfl) (by exact ⟨o3, kc4, rfl, N2, KEEP, f5, f6, f7, f8⟩) (fun fs hr => X2.returnOut hx hret (hb hby d3_9) hr)
abbrev R13_8 : Room := { frames := 0, cells := 0, slots := 0, locals := 0 }
def Q13_8 (Z : State) (ra0 : Addr) (ra1 : Addr) (kc2 : ClassId) (G1 : Int32) (h0 : Heap) (n0 : Nat) (v : Option Value) (h : Heap) (L : List Loc) : Prop := (v = some (.int (0 : Int32)) ∧ Fr n0 L ∧ h = h0)
theorem rm13_8 (l : Launch) (Z : State) (a0 : Array Value) (hw : HW Z a0) (ra0 : Addr) (ra1 : Addr) (kc2 : ClassId) (G1 : Int32) (h0 : Heap) (n0 : Nat) (OLD : Old Z n0 h0) (E_ra0 : Exa Z h0 ra0 "java/lang/String") (F_coder_ra0 : Fld Z h0 ra0 "java/lang/String" "coder" "B" (.int (0 : Int32))) (F_value_ra0 : Fld Z h0 ra0 "java/lang/String" "value" "[B" (.ref ra1)) (V_ra1 : Arv Z h0 ra1 kc2 .byte (0 : Int32) [] (.int (0 : Int32))) (O2 : Sta Z Z.heap "java/lang/String" "COMPACT_STRINGS" "Z" (.int G1)) (P5 : ¬ (G1 = (0 : Int32))) :
    own_CN l Z y3 jdk_42_method_152_code 1 (some .byte) [] R13_8 #[(.ref ra0)] h0 (Q13_8 Z ra0 ra1 kc2 G1 h0 n0) := by
  refine own_entryN (plainFor_of_name pn_0) fun p e s m below meth c s₁ hx hby hml hown hnm hret hlk hZ hh X0 e0 => ?_
  have N0 := Fr.nil n0
  rw [ef_13_8 m ra0]
  obtain ⟨T1, X1, e1, st1⟩ := getS2 X0 hx hZ hown (host := "") (Or.inl (own_w hw 25)) Via.refl e0 (O2.ext OLD.2) (g := (mkF m 0 #[vR ra0] [])) rfl (hb hby d13_0)
  refine og T1 (mkF m 3 #[vR ra0] [(.int G1)]) st1 ?_
  refine og T1 (mkF m 7 #[vR ra0] [(.ref ra0)]) (fun _ k => XS.ifNo X1.here hx rfl (hb hby d13_3) rfl ((if0 _ _).trans (feq P5).1) (XS.aloadN X1.here hx rfl (hb hby d13_6) rfl rfl k)) ?_
  obtain ⟨T2, X2, e2, st2⟩ := getF X1 hx hZ hown (host := "") (Or.inl (own_w hw 37)) Via.refl e1 F_coder_ra0 (g := (mkF m 7 #[vR ra0] [(.ref ra0)])) rfl rfl (hb hby d13_7)
  refine og T2 (mkF m 10 #[vR ra0] [(.int (0 : Int32))]) st2 ?_
  refine og T2 (mkF m 14 #[vR ra0] [(.int (0 : Int32))]) (fun _ k => XS.goto X2.here hx rfl (pc0 := 10) (pc' := 14) rfl (hb hby d13_10) (by decide) (by decide) k) ?_
  exact own_leaveN X2 hlk (v := some (.int (nar .byte (0 : Int32)))) (fun h => by rw [hret] at h; cases h) (lb rfl) (lb rfl) (by rw [e2]; exact ⟨rfl, N0, rfl⟩) (fun fs hr => retN X2 hx (t := .byte) hret (by simp) (hb hby d13_14) hr)
abbrev R17_9 : Room := { frames := 0, cells := 0, slots := 0, locals := 0 }
def Q17_9 (Z : State) (ra0 : Addr) (kc1 : ClassId) (ra2 : Addr) (kc3 : ClassId) (h0 : Heap) (n0 : Nat) (v : Option Value) (h : Heap) (L : List Loc) : Prop := (v = some (.int (own_ica [] [])) ∧ Fr n0 L ∧ h = h0)
theorem rm17_9 (l : Launch) (Z : State) (a0 : Array Value) (hw : HW Z a0) (ra0 : Addr) (kc1 : ClassId) (ra2 : Addr) (kc3 : ClassId) (h0 : Heap) (n0 : Nat) (OLD : Old Z n0 h0) (V_ra0 : Arv Z h0 ra0 kc1 .byte (0 : Int32) [] (.int (0 : Int32))) (V_ra2 : Arv Z h0 ra2 kc3 .byte (0 : Int32) [] (.int (0 : Int32))) :
    own_CN l Z y4 jdk_43_method_30_code 8 (some .boolean) [] R17_9 #[(.ref ra0), (.int (0 : Int32)), (.ref ra2), (.int (0 : Int32)), (.int (0 : Int32))] h0 (Q17_9 Z ra0 kc1 ra2 kc3 h0 n0) := by
  refine own_entryN (plainFor_of_name pn_1) fun p e s m below meth c s₁ hx hby hml hown hnm hret hlk hZ hh X0 e0 => ?_
  have N0 := Fr.nil n0
  rw [ef_17_9 m ra0 ra2]
  refine og s₁ (mkF m 44 #[vR ra0, vI (0 : Int32), vR ra2, vI (0 : Int32), vI (0 : Int32), vI (0 : Int32), vU, vU] [(.int (1 : Int32))]) (fun _ k => XS.iloadN X0.here hx rfl (hb hby d17_0) rfl (XS.iload X0.here hx rfl (hb hby d17_1) rfl (XS.iadd X0.here hx rfl (hb hby d17_3) rfl (XS.istore X0.here hx rfl (hb hby d17_4) rfl (l' := #[vR ra0, vI (0 : Int32), vR ra2, vI (0 : Int32), vI (0 : Int32), vI (0 : Int32), vU, vU]) rfl (XS.iloadN X0.here hx rfl (hb hby d17_6) rfl (XS.iload X0.here hx rfl (hb hby d17_7) rfl (XS.icmpYes X0.here hx rfl (pc0 := 9) (pc' := 43) rfl (hb hby d17_9) rfl (flt (by decide : ¬ ((0 : Int32) < (0 : Int32)))).2.1 (by decide) (by decide) (XS.iconst X0.here hx rfl (hb hby d17_43) k)))))))) ?_
  exact own_leaveN X0 hlk (v := some (.int (nar .boolean (1 : Int32)))) (fun h => by rw [hret] at h; cases h) (lb rfl) (lb rfl) (by rw [e0]; exact ⟨(by show some (Value.int (1 : Int32)) = _; rfl), N0, rfl⟩) (fun fs hr => retN X0 hx (t := .boolean) hret (by simp) (hb hby d17_44) hr)
abbrev R16_7 : Room := { frames := 2, cells := 0, slots := 0, locals := 27 }
def Q16_7 (Z : State) (ra0 : Addr) (ra1 : Addr) (kc2 : ClassId) (ra3 : Addr) (ra4 : Addr) (kc5 : ClassId) (G1 : Int32) (h0 : Heap) (n0 : Nat) (v : Option Value) (h : Heap) (L : List Loc) : Prop := (v = some (.int (own_ica [] [])) ∧ Fr n0 L ∧ h = h0)
theorem rm16_7 (l : Launch) (Z : State) (a0 : Array Value) (hw : HW Z a0) (ra0 : Addr) (ra1 : Addr) (kc2 : ClassId) (ra3 : Addr) (ra4 : Addr) (kc5 : ClassId) (G1 : Int32) (h0 : Heap) (n0 : Nat) (OLD : Old Z n0 h0) (E_ra0 : Exa Z h0 ra0 "java/lang/String") (F_coder_ra0 : Fld Z h0 ra0 "java/lang/String" "coder" "B" (.int (0 : Int32))) (F_value_ra0 : Fld Z h0 ra0 "java/lang/String" "value" "[B" (.ref ra1)) (V_ra1 : Arv Z h0 ra1 kc2 .byte (0 : Int32) [] (.int (0 : Int32))) (E_ra3 : Exa Z h0 ra3 "java/lang/String") (F_coder_ra3 : Fld Z h0 ra3 "java/lang/String" "coder" "B" (.int (0 : Int32))) (F_value_ra3 : Fld Z h0 ra3 "java/lang/String" "value" "[B" (.ref ra4)) (V_ra4 : Arv Z h0 ra4 kc5 .byte (0 : Int32) [] (.int (0 : Int32))) (O2 : Sta Z Z.heap "java/lang/String" "COMPACT_STRINGS" "Z" (.int G1)) (P5 : ¬ (G1 = (0 : Int32))) :
    own_CN l Z y5 jdk_42_method_74_code 9 (some .boolean) [] R16_7 #[(.ref ra0), (.int (1 : Int32)), (.int (0 : Int32)), (.ref ra3), (.int (0 : Int32)), (.int (0 : Int32))] h0 (Q16_7 Z ra0 ra1 kc2 ra3 ra4 kc5 G1 h0 n0) := by
  refine own_entryN (plainFor_of_name pn_0) fun p e s m below meth c s₁ hx hby hml hown hnm hret hlk hZ hh X0 e0 => ?_
  have N0 := Fr.nil n0
  rw [ef_16_7 m ra0 ra3]
  refine og s₁ (mkF m 27 #[vR ra0, vI (1 : Int32), vI (0 : Int32), vR ra3, vI (0 : Int32), vI (0 : Int32), vU, vU, vU] [(.ref ra0), (.long (0 : Int64))]) (fun _ k => XS.iloadN X0.here hx rfl (hb hby d16_0) rfl (XS.ifYes X0.here hx rfl (pc0 := 1) (pc' := 15) rfl (hb hby d16_1) rfl ((if0 _ _).trans (feq (by decide : ¬ ((1 : Int32) = (0 : Int32)))).2) (by decide) (by decide) (XS.iload X0.here hx rfl (hb hby d16_15) rfl (XS.ifNo X0.here hx rfl (hb hby d16_17) rfl ((if0 _ _).trans (flt (by decide : ¬ ((0 : Int32) < (0 : Int32)))).1) (XS.iloadN X0.here hx rfl (hb hby d16_20) rfl (XS.ifNo X0.here hx rfl (hb hby d16_21) rfl ((if0 _ _).trans (flt (by decide : ¬ ((0 : Int32) < (0 : Int32)))).1) (XS.iloadN X0.here hx rfl (hb hby d16_24) rfl (XS.i2l X0.here hx rfl (hb hby d16_25) rfl (XS.aloadN X0.here hx rfl (hb hby d16_26) rfl rfl k))))))))) ?_
  have hp1 : ∀ c ∈ ([] : List Int32), ¬ c < 0 ∧ ¬ (255 : Int32) < c := by
    intro c hc
    cases hc
  obtain ⟨cq2, kq2, q2a, q2b, q2c⟩ := isOf hZ e0 E_ra0
  obtain ⟨_, _, ⟨T2, L2, k2, n2⟩, -, X2, ⟨Lc2, hQ2, l2, y2, z2⟩, st2⟩ := X0.virtualBack hx (y := y2) (z := y2) hown (mvT hZ (own_w hw 70)) (mvT hZ (own_w hw 71)) (notFace_of_selects (args := #[]) (mvT hZ (own_w hw 73))) (mvT hZ (own_w hw 73)) (mvT hZ (own_w hw 72)) (by decide) (StrChars.Road.lenW (W := 2) hZ (own_hln hw) (kI := 4) (own_w hw 13) (cs := ([] : List Int32)) E_ra0 F_value_ra0 F_coder_ra0 V_ra1 (StrChars.Road.codOf rfl (fun c hc => (hp1 c hc).2)) (own_up _ hp1) (O2.ext OLD.2) P5 (lb rfl) (lb rfl) (lb rfl)) q2a q2c (g := (mkF m 27 #[vR ra0, vI (1 : Int32), vI (0 : Int32), vR ra3, vI (0 : Int32), vI (0 : Int32), vU, vU, vU] [(.ref ra0), (.long (0 : Int64))])) rfl (by rw [hml]; rfl) (Steps.refl _) (argsL := []) (rest := [(.long (0 : Int64))]) (lenOf pd_1 rfl) rfl (lb rfl) (hb hby d16_27) (fun _ _ => ⟨rfl, e0, (lb rfl), (lb rfl)⟩)
  dsimp only [Pt.U, Pt.locs, Pt.cells, Pt.slots] at X2 l2 y2 z2 st2 hQ2
  subst l2 y2 z2
  obtain ⟨rfl, rfl, eq2⟩ := hQ2
  have N2 := Fr.app N0 (Fr.nil n0)
  refine ot T2 (mkF m 30 #[vR ra0, vI (1 : Int32), vI (0 : Int32), vR ra3, vI (0 : Int32), vI (0 : Int32), vU, vU, vU] [(.int (0 : Int32)), (.long (0 : Int64))]) st2 ?_
  refine og T2 (mkF m 35 #[vR ra0, vI (1 : Int32), vI (0 : Int32), vR ra3, vI (0 : Int32), vI (0 : Int32), vU, vU, vU] [(.long (0 : Int64)), (.long (0 : Int64))]) (fun _ k => XS.i2l X2.here hx rfl (hb hby d16_30) rfl (XS.iload X2.here hx rfl (hb hby d16_31) rfl (XS.i2l X2.here hx rfl (hb hby d16_33) rfl (XS.lsub X2.here hx rfl (hb hby d16_34) rfl k)))) ?_
  refine og T2 (mkF m 36 #[vR ra0, vI (1 : Int32), vI (0 : Int32), vR ra3, vI (0 : Int32), vI (0 : Int32), vU, vU, vU] [(.int (0 : Int32))]) (fun _ k => XS.lcmp X2.here hx rfl (hb hby d16_35) rfl (by exact k)) ?_
  refine og T2 (mkF m 43 #[vR ra0, vI (1 : Int32), vI (0 : Int32), vR ra3, vI (0 : Int32), vI (0 : Int32), vU, vU, vU] [(.ref ra3), (.long (0 : Int64))]) (fun _ k => XS.ifNo X2.here hx rfl (hb hby d16_36) rfl ((if0 _ _).trans (flt (by decide : ¬ ((0 : Int32) < (0 : Int32)))).2.2.1) (XS.iload X2.here hx rfl (hb hby d16_39) rfl (XS.i2l X2.here hx rfl (hb hby d16_41) rfl (XS.aloadN X2.here hx rfl (hb hby d16_42) rfl rfl k)))) ?_
  have hp3 : ∀ c ∈ ([] : List Int32), ¬ c < 0 ∧ ¬ (255 : Int32) < c := by
    intro c hc
    cases hc
  obtain ⟨cq4, kq4, q4a, q4b, q4c⟩ := isOf hZ eq2 E_ra3
  obtain ⟨_, _, ⟨T4, L4, k4, n4⟩, -, X4, ⟨Lc4, hQ4, l4, y4, z4⟩, st4⟩ := X2.virtualBack hx (y := y2) (z := y2) hown (mvT hZ (own_w hw 70)) (mvT hZ (own_w hw 71)) (notFace_of_selects (args := #[]) (mvT hZ (own_w hw 73))) (mvT hZ (own_w hw 73)) (mvT hZ (own_w hw 72)) (by decide) (StrChars.Road.lenW (W := 2) hZ (own_hln hw) (kI := 4) (own_w hw 13) (cs := ([] : List Int32)) E_ra3 F_value_ra3 F_coder_ra3 V_ra4 (StrChars.Road.codOf rfl (fun c hc => (hp3 c hc).2)) (own_up _ hp3) (O2.ext OLD.2) P5 (lb rfl) (lb rfl) (lb rfl)) q4a q4c (g := (mkF m 43 #[vR ra0, vI (1 : Int32), vI (0 : Int32), vR ra3, vI (0 : Int32), vI (0 : Int32), vU, vU, vU] [(.ref ra3), (.long (0 : Int64))])) rfl (by rw [hml]; rfl) (Steps.refl _) (argsL := []) (rest := [(.long (0 : Int64))]) (lenOf pd_1 rfl) rfl (lb rfl) (hb hby d16_43) (fun _ _ => ⟨rfl, eq2, (lb rfl), (lb rfl)⟩)
  dsimp only [Pt.U, Pt.locs, Pt.cells, Pt.slots] at X4 l4 y4 z4 st4 hQ4
  subst l4 y4 z4
  obtain ⟨rfl, rfl, eq4⟩ := hQ4
  have N4 := Fr.app N2 (Fr.nil n0)
  refine ot T4 (mkF m 46 #[vR ra0, vI (1 : Int32), vI (0 : Int32), vR ra3, vI (0 : Int32), vI (0 : Int32), vU, vU, vU] [(.int (0 : Int32)), (.long (0 : Int64))]) st4 ?_
  refine og T4 (mkF m 51 #[vR ra0, vI (1 : Int32), vI (0 : Int32), vR ra3, vI (0 : Int32), vI (0 : Int32), vU, vU, vU] [(.long (0 : Int64)), (.long (0 : Int64))]) (fun _ k => XS.i2l X4.here hx rfl (hb hby d16_46) rfl (XS.iload X4.here hx rfl (hb hby d16_47) rfl (XS.i2l X4.here hx rfl (hb hby d16_49) rfl (XS.lsub X4.here hx rfl (hb hby d16_50) rfl k)))) ?_
  refine og T4 (mkF m 52 #[vR ra0, vI (1 : Int32), vI (0 : Int32), vR ra3, vI (0 : Int32), vI (0 : Int32), vU, vU, vU] [(.int (0 : Int32))]) (fun _ k => XS.lcmp X4.here hx rfl (hb hby d16_51) rfl (by exact k)) ?_
  refine og T4 (mkF m 58 #[vR ra0, vI (1 : Int32), vI (0 : Int32), vR ra3, vI (0 : Int32), vI (0 : Int32), vU, vU, vU] [(.ref ra0)]) (fun _ k => XS.ifYes X4.here hx rfl (pc0 := 52) (pc' := 57) rfl (hb hby d16_52) rfl ((if0 _ _).trans (flt (by decide : ¬ ((0 : Int32) < (0 : Int32)))).2.2.2) (by decide) (by decide) (XS.aloadN X4.here hx rfl (hb hby d16_57) rfl rfl k)) ?_
  obtain ⟨T5, X5, e5, st5⟩ := getF X4 hx hZ hown (host := "") (Or.inl (own_w hw 39)) Via.refl eq4 F_value_ra0 (g := (mkF m 58 #[vR ra0, vI (1 : Int32), vI (0 : Int32), vR ra3, vI (0 : Int32), vI (0 : Int32), vU, vU, vU] [(.ref ra0)])) rfl rfl (hb hby d16_58)
  refine og T5 (mkF m 61 #[vR ra0, vI (1 : Int32), vI (0 : Int32), vR ra3, vI (0 : Int32), vI (0 : Int32), vU, vU, vU] [(.ref ra1)]) st5 ?_
  refine og T5 (mkF m 64 #[vR ra0, vI (1 : Int32), vI (0 : Int32), vR ra3, vI (0 : Int32), vI (0 : Int32), vR ra1, vU, vU] [(.ref ra3)]) (fun _ k => XS.astore X5.here hx rfl (hb hby d16_61) rfl rfl (l' := #[vR ra0, vI (1 : Int32), vI (0 : Int32), vR ra3, vI (0 : Int32), vI (0 : Int32), vR ra1, vU, vU]) rfl (XS.aloadN X5.here hx rfl (hb hby d16_63) rfl rfl k)) ?_
  obtain ⟨T6, X6, e6, st6⟩ := getF X5 hx hZ hown (host := "") (Or.inl (own_w hw 39)) Via.refl e5 F_value_ra3 (g := (mkF m 64 #[vR ra0, vI (1 : Int32), vI (0 : Int32), vR ra3, vI (0 : Int32), vI (0 : Int32), vR ra1, vU, vU] [(.ref ra3)])) rfl rfl (hb hby d16_64)
  refine og T6 (mkF m 67 #[vR ra0, vI (1 : Int32), vI (0 : Int32), vR ra3, vI (0 : Int32), vI (0 : Int32), vR ra1, vU, vU] [(.ref ra4)]) st6 ?_
  refine og T6 (mkF m 70 #[vR ra0, vI (1 : Int32), vI (0 : Int32), vR ra3, vI (0 : Int32), vI (0 : Int32), vR ra1, vR ra4, vU] [(.ref ra0)]) (fun _ k => XS.astore X6.here hx rfl (hb hby d16_67) rfl rfl (l' := #[vR ra0, vI (1 : Int32), vI (0 : Int32), vR ra3, vI (0 : Int32), vI (0 : Int32), vR ra1, vR ra4, vU]) rfl (XS.aloadN X6.here hx rfl (hb hby d16_69) rfl rfl k)) ?_
  obtain ⟨cq7, kq7, q7a, q7b, q7c⟩ := isOf hZ e6 E_ra0
  obtain ⟨_, _, ⟨T7, L7, k7, n7⟩, -, X7, ⟨Lc7, hQ7, l7, y7, z7⟩, st7⟩ := X6.virtualBack hx (y := y3) (z := y3) hown (mvT hZ (own_w hw 75)) (mvT hZ (own_w hw 76)) (notFace_of_selects (args := #[]) (mvT hZ (own_w hw 78))) (mvT hZ (own_w hw 78)) (mvT hZ (own_w hw 77)) (by decide) (backOf (W := 0) (rm13_8 l Z a0 hw ra0 ra1 kc2 G1 h0 n0 OLD E_ra0 F_coder_ra0 F_value_ra0 V_ra1 O2 P5) hZ (own_w hw 79) (own_w hw 14) (lb rfl) (lb rfl)) q7a q7c (g := (mkF m 70 #[vR ra0, vI (1 : Int32), vI (0 : Int32), vR ra3, vI (0 : Int32), vI (0 : Int32), vR ra1, vR ra4, vU] [(.ref ra0)])) rfl (by rw [hml]; rfl) (Steps.refl _) (argsL := []) (rest := []) (lenOf pd_2 rfl) rfl (lb rfl) (hb hby d16_70) (fun _ _ => ⟨rfl, e6, (lb rfl), (lb rfl)⟩)
  dsimp only [Pt.U, Pt.locs, Pt.cells, Pt.slots] at X7 l7 y7 z7 st7 hQ7
  subst l7 y7 z7
  obtain ⟨rfl, Nq7, eq7⟩ := hQ7
  have N7 := Fr.app N4 Nq7
  refine ot T7 (mkF m 73 #[vR ra0, vI (1 : Int32), vI (0 : Int32), vR ra3, vI (0 : Int32), vI (0 : Int32), vR ra1, vR ra4, vU] [(.int (0 : Int32))]) st7 ?_
  refine og T7 (mkF m 78 #[vR ra0, vI (1 : Int32), vI (0 : Int32), vR ra3, vI (0 : Int32), vI (0 : Int32), vR ra1, vR ra4, vI (0 : Int32)] [(.ref ra3), (.int (0 : Int32))]) (fun _ k => XS.istore X7.here hx rfl (hb hby d16_73) rfl (l' := #[vR ra0, vI (1 : Int32), vI (0 : Int32), vR ra3, vI (0 : Int32), vI (0 : Int32), vR ra1, vR ra4, vI (0 : Int32)]) rfl (XS.iload X7.here hx rfl (hb hby d16_75) rfl (XS.aloadN X7.here hx rfl (hb hby d16_77) rfl rfl k))) ?_
  obtain ⟨cq8, kq8, q8a, q8b, q8c⟩ := isOf hZ eq7 E_ra3
  obtain ⟨_, _, ⟨T8, L8, k8, n8⟩, -, X8, ⟨Lc8, hQ8, l8, y8, z8⟩, st8⟩ := X7.virtualBack hx (y := y3) (z := y3) hown (mvT hZ (own_w hw 75)) (mvT hZ (own_w hw 76)) (notFace_of_selects (args := #[]) (mvT hZ (own_w hw 78))) (mvT hZ (own_w hw 78)) (mvT hZ (own_w hw 77)) (by decide) (backOf (W := 1) (rm13_8 l Z a0 hw ra3 ra4 kc5 G1 h0 n0 OLD E_ra3 F_coder_ra3 F_value_ra3 V_ra4 O2 P5) hZ (own_w hw 79) (own_w hw 14) (lb rfl) (lb rfl)) q8a q8c (g := (mkF m 78 #[vR ra0, vI (1 : Int32), vI (0 : Int32), vR ra3, vI (0 : Int32), vI (0 : Int32), vR ra1, vR ra4, vI (0 : Int32)] [(.ref ra3), (.int (0 : Int32))])) rfl (by rw [hml]; rfl) (Steps.refl _) (argsL := []) (rest := [(.int (0 : Int32))]) (lenOf pd_2 rfl) rfl (lb rfl) (hb hby d16_78) (fun _ _ => ⟨rfl, eq7, (lb rfl), (lb rfl)⟩)
  dsimp only [Pt.U, Pt.locs, Pt.cells, Pt.slots] at X8 l8 y8 z8 st8 hQ8
  subst l8 y8 z8
  obtain ⟨rfl, Nq8, eq8⟩ := hQ8
  have N8 := Fr.app N7 Nq8
  refine ot T8 (mkF m 81 #[vR ra0, vI (1 : Int32), vI (0 : Int32), vR ra3, vI (0 : Int32), vI (0 : Int32), vR ra1, vR ra4, vI (0 : Int32)] [(.int (0 : Int32)), (.int (0 : Int32))]) st8 ?_
  refine og T8 (mkF m 98 #[vR ra0, vI (1 : Int32), vI (0 : Int32), vR ra3, vI (0 : Int32), vI (0 : Int32), vR ra1, vR ra4, vI (0 : Int32)] [(.int (0 : Int32)), (.int (0 : Int32)), (.ref ra4), (.int (0 : Int32)), (.ref ra1)]) (fun _ k => XS.icmpNo X8.here hx rfl (hb hby d16_81) rfl (teq (by decide : (0 : Int32) = (0 : Int32))).2 (XS.iload X8.here hx rfl (hb hby d16_84) rfl (XS.ifNo X8.here hx rfl (hb hby d16_86) rfl ((if0 _ _).trans (teq (by decide : (0 : Int32) = (0 : Int32))).2) (XS.aload X8.here hx rfl (hb hby d16_89) rfl rfl (XS.iloadN X8.here hx rfl (hb hby d16_91) rfl (XS.aload X8.here hx rfl (hb hby d16_92) rfl rfl (XS.iload X8.here hx rfl (hb hby d16_94) rfl (XS.iload X8.here hx rfl (hb hby d16_96) rfl k)))))))) ?_
  obtain ⟨_, _, ⟨T9, L9, k9, n9⟩, -, X9, ⟨Lc9, hQ9, l9, y9, z9⟩, st9⟩ := Jvm.LawKit.callS X8 hx (y := y4) hown (mvT hZ (own_w hw 104)) (mvT hZ (own_w hw 105)) (mvT hZ (own_w hw 106)) (mvT hZ (own_w hw 107)) (by decide) (backOf (W := 0) (rm17_9 l Z a0 hw ra1 kc2 ra4 kc5 h0 n0 OLD V_ra1 V_ra4) hZ (own_w hw 107) (own_w hw 106) (lb rfl) (lb rfl)) (g := (mkF m 98 #[vR ra0, vI (1 : Int32), vI (0 : Int32), vR ra3, vI (0 : Int32), vI (0 : Int32), vR ra1, vR ra4, vI (0 : Int32)] [(.int (0 : Int32)), (.int (0 : Int32)), (.ref ra4), (.int (0 : Int32)), (.ref ra1)])) rfl (by rw [hml]; rfl) (argsL := [(.ref ra1), (.int (0 : Int32)), (.ref ra4), (.int (0 : Int32)), (.int (0 : Int32))]) (rest := []) (lenOf pd_3 rfl) rfl (lb rfl) (hb hby d16_98) (fun _ _ => ⟨rfl, eq8, (lb rfl), (lb rfl)⟩)
  dsimp only [Pt.U, Pt.locs, Pt.cells, Pt.slots] at X9 l9 y9 z9 st9 hQ9
  subst l9 y9 z9
  obtain ⟨rfl, Nq9, eq9⟩ := hQ9
  have N9 := Fr.app N8 Nq9
  refine og T9 (mkF m 101 #[vR ra0, vI (1 : Int32), vI (0 : Int32), vR ra3, vI (0 : Int32), vI (0 : Int32), vR ra1, vR ra4, vI (0 : Int32)] [(.int (own_ica [] []))]) st9 ?_
  refine og T9 (mkF m 116 #[vR ra0, vI (1 : Int32), vI (0 : Int32), vR ra3, vI (0 : Int32), vI (0 : Int32), vR ra1, vR ra4, vI (0 : Int32)] [(.int (own_ica [] []))]) (fun _ k => XS.goto X9.here hx rfl (pc0 := 101) (pc' := 116) rfl (hb hby d16_101) (by decide) (by decide) k) ?_
  exact own_leaveN X9 hlk (v := some (.int (nar .boolean (own_ica [] [])))) (fun h => by rw [hret] at h; cases h) (lb rfl) (lb rfl) (by rw [eq9]; exact ⟨(by first | rfl | (exact congrArg (fun z => some (Value.int z)) (own_narb _ _)) | (simp [own_ica, own_narb, *]; done)), N9, rfl⟩) (fun fs hr => retN X9 hx (t := .boolean) hret (by simp) (hb hby d16_116) hr)
abbrev R11_6 : Room := { frames := 3, cells := 0, slots := 0, locals := 47 }
def Q11_6 (Z : State) (ra0 : Addr) (ra1 : Addr) (kc2 : ClassId) (ra3 : Addr) (ra4 : Addr) (kc5 : ClassId) (G1 : Int32) (h0 : Heap) (n0 : Nat) (v : Option Value) (h : Heap) (L : List Loc) : Prop := (v = some (.int (own_ica [] [])) ∧ Fr n0 L ∧ h = h0)
theorem rm11_6 (l : Launch) (Z : State) (a0 : Array Value) (hw : HW Z a0) (ra0 : Addr) (ra1 : Addr) (kc2 : ClassId) (ra3 : Addr) (ra4 : Addr) (kc5 : ClassId) (G1 : Int32) (h0 : Heap) (n0 : Nat) (OLD : Old Z n0 h0) (E_ra0 : Exa Z h0 ra0 "java/lang/String") (F_coder_ra0 : Fld Z h0 ra0 "java/lang/String" "coder" "B" (.int (0 : Int32))) (F_value_ra0 : Fld Z h0 ra0 "java/lang/String" "value" "[B" (.ref ra1)) (V_ra1 : Arv Z h0 ra1 kc2 .byte (0 : Int32) [] (.int (0 : Int32))) (E_ra3 : Exa Z h0 ra3 "java/lang/String") (F_coder_ra3 : Fld Z h0 ra3 "java/lang/String" "coder" "B" (.int (0 : Int32))) (F_value_ra3 : Fld Z h0 ra3 "java/lang/String" "value" "[B" (.ref ra4)) (V_ra4 : Arv Z h0 ra4 kc5 .byte (0 : Int32) [] (.int (0 : Int32))) (hk8 : ¬ (ra0 = ra3)) (O2 : Sta Z Z.heap "java/lang/String" "COMPACT_STRINGS" "Z" (.int G1)) (P5 : ¬ (G1 = (0 : Int32))) :
    own_CN l Z y6 jdk_42_method_70_code 2 (some .boolean) [] R11_6 #[(.ref ra0), (.ref ra3)] h0 (Q11_6 Z ra0 ra1 kc2 ra3 ra4 kc5 G1 h0 n0) := by
  refine own_entryN (plainFor_of_name pn_0) fun p e s m below meth c s₁ hx hby hml hown hnm hret hlk hZ hh X0 e0 => ?_
  have N0 := Fr.nil n0
  rw [ef_11_6 m ra0 ra3]
  refine og s₁ (mkF m 14 #[vR ra0, vR ra3] [(.ref ra3)]) (fun _ k => XS.aloadN X0.here hx rfl (hb hby d11_0) rfl rfl (XS.aloadN X0.here hx rfl (hb hby d11_1) rfl rfl (Jvm.RoadKit.acmp (g := (mkF m 2 #[vR ra0, vR ra3] [(.ref ra3), (.ref ra0)])) X0 hx rfl rfl rfl (pc0 := 2) (pc' := 9) (same := false) rfl (hb hby d11_2) rfl (decide_eq_false fun q => hk8 (Value.ref.inj q)) (by decide) (by decide) (XS.aloadN X0.here hx rfl (hb hby d11_9) rfl rfl (XS.ifnullNo X0.here hx rfl (hb hby d11_10) rfl (XS.aloadN X0.here hx rfl (hb hby d11_13) rfl rfl k)))))) ?_
  have hp1 : ∀ c ∈ ([] : List Int32), ¬ c < 0 ∧ ¬ (255 : Int32) < c := by
    intro c hc
    cases hc
  obtain ⟨cq2, kq2, q2a, q2b, q2c⟩ := isOf hZ e0 E_ra3
  obtain ⟨_, _, ⟨T2, L2, k2, n2⟩, -, X2, ⟨Lc2, hQ2, l2, y2, z2⟩, st2⟩ := X0.virtualBack hx (y := y2) (z := y2) hown (mvT hZ (own_w hw 70)) (mvT hZ (own_w hw 71)) (notFace_of_selects (args := #[]) (mvT hZ (own_w hw 73))) (mvT hZ (own_w hw 73)) (mvT hZ (own_w hw 72)) (by decide) (StrChars.Road.lenW (W := 0) hZ (own_hln hw) (kI := 4) (own_w hw 13) (cs := ([] : List Int32)) E_ra3 F_value_ra3 F_coder_ra3 V_ra4 (StrChars.Road.codOf rfl (fun c hc => (hp1 c hc).2)) (own_up _ hp1) (O2.ext OLD.2) P5 (lb rfl) (lb rfl) (lb rfl)) q2a q2c (g := (mkF m 14 #[vR ra0, vR ra3] [(.ref ra3)])) rfl (by rw [hml]; rfl) (Steps.refl _) (argsL := []) (rest := []) (lenOf pd_1 rfl) rfl (lb rfl) (hb hby d11_14) (fun _ _ => ⟨rfl, e0, (lb rfl), (lb rfl)⟩)
  dsimp only [Pt.U, Pt.locs, Pt.cells, Pt.slots] at X2 l2 y2 z2 st2 hQ2
  subst l2 y2 z2
  obtain ⟨rfl, rfl, eq2⟩ := hQ2
  have N2 := Fr.app N0 (Fr.nil n0)
  refine ot T2 (mkF m 17 #[vR ra0, vR ra3] [(.int (0 : Int32))]) st2 ?_
  refine og T2 (mkF m 18 #[vR ra0, vR ra3] [(.ref ra0), (.int (0 : Int32))]) (fun _ k => XS.aloadN X2.here hx rfl (hb hby d11_17) rfl rfl k) ?_
  have hp3 : ∀ c ∈ ([] : List Int32), ¬ c < 0 ∧ ¬ (255 : Int32) < c := by
    intro c hc
    cases hc
  obtain ⟨cq4, kq4, q4a, q4b, q4c⟩ := isOf hZ eq2 E_ra0
  obtain ⟨_, _, ⟨T4, L4, k4, n4⟩, -, X4, ⟨Lc4, hQ4, l4, y4, z4⟩, st4⟩ := X2.virtualBack hx (y := y2) (z := y2) hown (mvT hZ (own_w hw 70)) (mvT hZ (own_w hw 71)) (notFace_of_selects (args := #[]) (mvT hZ (own_w hw 73))) (mvT hZ (own_w hw 73)) (mvT hZ (own_w hw 72)) (by decide) (StrChars.Road.lenW (W := 1) hZ (own_hln hw) (kI := 4) (own_w hw 13) (cs := ([] : List Int32)) E_ra0 F_value_ra0 F_coder_ra0 V_ra1 (StrChars.Road.codOf rfl (fun c hc => (hp3 c hc).2)) (own_up _ hp3) (O2.ext OLD.2) P5 (lb rfl) (lb rfl) (lb rfl)) q4a q4c (g := (mkF m 18 #[vR ra0, vR ra3] [(.ref ra0), (.int (0 : Int32))])) rfl (by rw [hml]; rfl) (Steps.refl _) (argsL := []) (rest := [(.int (0 : Int32))]) (lenOf pd_1 rfl) rfl (lb rfl) (hb hby d11_18) (fun _ _ => ⟨rfl, eq2, (lb rfl), (lb rfl)⟩)
  dsimp only [Pt.U, Pt.locs, Pt.cells, Pt.slots] at X4 l4 y4 z4 st4 hQ4
  subst l4 y4 z4
  obtain ⟨rfl, rfl, eq4⟩ := hQ4
  have N4 := Fr.app N2 (Fr.nil n0)
  refine ot T4 (mkF m 21 #[vR ra0, vR ra3] [(.int (0 : Int32)), (.int (0 : Int32))]) st4 ?_
  refine og T4 (mkF m 30 #[vR ra0, vR ra3] [(.ref ra0), (.int (0 : Int32)), (.ref ra3), (.int (0 : Int32)), (.int (1 : Int32)), (.ref ra0)]) (fun _ k => XS.icmpNo X4.here hx rfl (hb hby d11_21) rfl (teq (by decide : (0 : Int32) = (0 : Int32))).2 (XS.aloadN X4.here hx rfl (hb hby d11_24) rfl rfl (XS.iconst X4.here hx rfl (hb hby d11_25) (XS.iconst X4.here hx rfl (hb hby d11_26) (XS.aloadN X4.here hx rfl (hb hby d11_27) rfl rfl (XS.iconst X4.here hx rfl (hb hby d11_28) (XS.aloadN X4.here hx rfl (hb hby d11_29) rfl rfl k))))))) ?_
  obtain ⟨cq5, kq5, q5a, q5b, q5c⟩ := isOf hZ eq4 E_ra0
  obtain ⟨_, _, ⟨T5, L5, k5, n5⟩, -, X5, ⟨Lc5, hQ5, l5, y5, z5⟩, st5⟩ := X4.virtualBack hx (y := y2) (z := y2) hown (mvT hZ (own_w hw 70)) (mvT hZ (own_w hw 71)) (notFace_of_selects (args := #[]) (mvT hZ (own_w hw 73))) (mvT hZ (own_w hw 73)) (mvT hZ (own_w hw 72)) (by decide) (StrChars.Road.lenW (W := 5) hZ (own_hln hw) (kI := 4) (own_w hw 13) (cs := ([] : List Int32)) E_ra0 F_value_ra0 F_coder_ra0 V_ra1 (StrChars.Road.codOf rfl (fun c hc => (hp3 c hc).2)) (own_up _ hp3) (O2.ext OLD.2) P5 (lb rfl) (lb rfl) (lb rfl)) q5a q5c (g := (mkF m 30 #[vR ra0, vR ra3] [(.ref ra0), (.int (0 : Int32)), (.ref ra3), (.int (0 : Int32)), (.int (1 : Int32)), (.ref ra0)])) rfl (by rw [hml]; rfl) (Steps.refl _) (argsL := []) (rest := [(.int (0 : Int32)), (.ref ra3), (.int (0 : Int32)), (.int (1 : Int32)), (.ref ra0)]) (lenOf pd_1 rfl) rfl (lb rfl) (hb hby d11_30) (fun _ _ => ⟨rfl, eq4, (lb rfl), (lb rfl)⟩)
  dsimp only [Pt.U, Pt.locs, Pt.cells, Pt.slots] at X5 l5 y5 z5 st5 hQ5
  subst l5 y5 z5
  obtain ⟨rfl, rfl, eq5⟩ := hQ5
  have N5 := Fr.app N4 (Fr.nil n0)
  refine ot T5 (mkF m 33 #[vR ra0, vR ra3] [(.int (0 : Int32)), (.int (0 : Int32)), (.ref ra3), (.int (0 : Int32)), (.int (1 : Int32)), (.ref ra0)]) st5 ?_
  obtain ⟨cq6, kq6, q6a, q6b, q6c⟩ := isOf hZ eq5 E_ra0
  obtain ⟨_, _, ⟨T6, L6, k6, n6⟩, -, X6, ⟨Lc6, hQ6, l6, y6, z6⟩, st6⟩ := X5.virtualBack hx (y := y5) (z := y5) hown (mvT hZ (own_w hw 99)) (mvT hZ (own_w hw 100)) (notFace_of_selects (args := #[]) (mvT hZ (own_w hw 102))) (mvT hZ (own_w hw 102)) (mvT hZ (own_w hw 101)) (by decide) (backOf (W := 0) (rm16_7 l Z a0 hw ra0 ra1 kc2 ra3 ra4 kc5 G1 h0 n0 OLD E_ra0 F_coder_ra0 F_value_ra0 V_ra1 E_ra3 F_coder_ra3 F_value_ra3 V_ra4 O2 P5) hZ (own_w hw 103) (own_w hw 14) (lb rfl) (lb rfl)) q6a q6c (g := (mkF m 33 #[vR ra0, vR ra3] [(.int (0 : Int32)), (.int (0 : Int32)), (.ref ra3), (.int (0 : Int32)), (.int (1 : Int32)), (.ref ra0)])) rfl (by rw [hml]; rfl) (Steps.refl _) (argsL := [(.int (1 : Int32)), (.int (0 : Int32)), (.ref ra3), (.int (0 : Int32)), (.int (0 : Int32))]) (rest := []) (lenOf pd_4 rfl) rfl (lb rfl) (hb hby d11_33) (fun _ _ => ⟨rfl, eq5, (lb rfl), (lb rfl)⟩)
  dsimp only [Pt.U, Pt.locs, Pt.cells, Pt.slots] at X6 l6 y6 z6 st6 hQ6
  subst l6 y6 z6
  obtain ⟨rfl, Nq6, eq6⟩ := hQ6
  have N6 := Fr.app N5 Nq6
  refine ot T6 (mkF m 36 #[vR ra0, vR ra3] [(.int (own_ica [] []))]) st6 ?_
  by_cases hc7 : (own_ica [] []) = (0 : Int32)
  · refine og T6 (mkF m 44 #[vR ra0, vR ra3] [(.int (0 : Int32))]) (fun _ k => XS.ifYes X6.here hx rfl (pc0 := 36) (pc' := 43) rfl (hb hby d11_36) rfl ((if0 _ _).trans (teq hc7).1) (by decide) (by decide) (XS.iconst X6.here hx rfl (hb hby d11_43) k)) ?_
    exact own_leaveN X6 hlk (v := some (.int (nar .boolean (0 : Int32)))) (fun h => by rw [hret] at h; cases h) (lb rfl) (lb rfl) (by rw [eq6]; exact ⟨(by show some (Value.int (0 : Int32)) = _; exact congrArg (fun z => some (Value.int z)) (hc7).symm), N6, rfl⟩) (fun fs hr => retN X6 hx (t := .boolean) hret (by simp) (hb hby d11_44) hr)
  · refine og T6 (mkF m 44 #[vR ra0, vR ra3] [(.int (1 : Int32))]) (fun _ k => XS.ifNo X6.here hx rfl (hb hby d11_36) rfl ((if0 _ _).trans (feq hc7).1) (XS.iconst X6.here hx rfl (hb hby d11_39) (XS.goto X6.here hx rfl (pc0 := 40) (pc' := 44) rfl (hb hby d11_40) (by decide) (by decide) k))) ?_
    exact own_leaveN X6 hlk (v := some (.int (nar .boolean (1 : Int32)))) (fun h => by rw [hret] at h; cases h) (lb rfl) (lb rfl) (by rw [eq6]; exact ⟨(by show some (Value.int (1 : Int32)) = _; exact congrArg (fun z => some (Value.int z)) ((own_ica01 _ _).resolve_left hc7).symm), N6, rfl⟩) (fun fs hr => retN X6 hx (t := .boolean) hret (by simp) (hb hby d11_44) hr)
abbrev R10_5 : Room := { frames := 5, cells := 0, slots := 0, locals := 100 }
def Q10_5 (Z : State) (ra0 : Addr) (ra1 : Addr) (ra2 : Addr) (rt2 : Addr) (ra3 : Addr) (rt3 : Addr) (kc2 : ClassId) (kc3 : ClassId) (kw0 : Addr) (G1 : Int32) (kw5 : Addr) (h0 : Heap) (n0 : Nat) (v : Option Value) (h : Heap) (L : List Loc) : Prop := (v = some (.int (own_isv ra1 kw0 kw5 (own_ica [] []))) ∧ Fr n0 L ∧ h = h0)
theorem rm10_5 (l : Launch) (Z : State) (a0 : Array Value) (hw : HW Z a0) (ra0 : Addr) (ra1 : Addr) (ra2 : Addr) (rt2 : Addr) (ra3 : Addr) (rt3 : Addr) (kc2 : ClassId) (kc3 : ClassId) (kw0 : Addr) (G1 : Int32) (kw5 : Addr) (h0 : Heap) (n0 : Nat) (OLD : Old Z n0 h0) (E_ra0 : Exa Z h0 ra0 "com/example/agave/agave/query/Tokens$Token") (F_kind_ra0 : Fld Z h0 ra0 "com/example/agave/agave/query/Tokens$Token" "kind" "Lcom/example/agave/agave/query/Tokens$Kind;" (.ref ra1)) (F_text_ra0 : Fld Z h0 ra0 "com/example/agave/agave/query/Tokens$Token" "text" "Ljava/lang/String;" (.ref ra2)) (E_ra2 : Exa Z h0 ra2 "java/lang/String") (F_coder_ra2 : Fld Z h0 ra2 "java/lang/String" "coder" "B" (.int (0 : Int32))) (F_value_ra2 : Fld Z h0 ra2 "java/lang/String" "value" "[B" (.ref rt2)) (V_rt2 : Arv Z h0 rt2 kc2 .byte (0 : Int32) [] (.int (0 : Int32))) (E_ra3 : Exa Z h0 ra3 "java/lang/String") (F_coder_ra3 : Fld Z h0 ra3 "java/lang/String" "coder" "B" (.int (0 : Int32))) (F_value_ra3 : Fld Z h0 ra3 "java/lang/String" "value" "[B" (.ref rt3)) (V_rt3 : Arv Z h0 rt3 kc3 .byte (0 : Int32) [] (.int (0 : Int32))) (hk11 : ¬ (ra2 = ra3)) (SK0 : Sta Z Z.heap "com/example/agave/agave/query/Tokens$Kind" "WORD" "Lcom/example/agave/agave/query/Tokens$Kind;" (.ref kw0)) (EK0 : Exa Z Z.heap kw0 "com/example/agave/agave/query/Tokens$Kind") (O2 : Sta Z Z.heap "java/lang/String" "COMPACT_STRINGS" "Z" (.int G1)) (P5 : ¬ (G1 = (0 : Int32))) (SK5 : Sta Z Z.heap "com/example/agave/agave/query/Tokens$Kind" "SYMBOL" "Lcom/example/agave/agave/query/Tokens$Kind;" (.ref kw5)) (EK5 : Exa Z Z.heap kw5 "com/example/agave/agave/query/Tokens$Kind") :
    own_CN l Z y7 prog_6_method_6_code 2 (some .boolean) [] R10_5 #[(.ref ra0), (.ref ra3)] h0 (Q10_5 Z ra0 ra1 ra2 rt2 ra3 rt3 kc2 kc3 kw0 G1 kw5 h0 n0) := by
  refine own_entryN (plainFor_of_name pn_2) fun p e s m below meth c s₁ hx hby hml hown hnm hret hlk hZ hh X0 e0 => ?_
  have N0 := Fr.nil n0
  rw [ef_10_5 m ra0 ra3]
  refine og s₁ (mkF m 1 #[vR ra0, vR ra3] [(.ref ra0)]) (fun _ k => XS.aloadN X0.here hx rfl (hb hby d10_0) rfl rfl k) ?_
  obtain ⟨T1, X1, e1, st1⟩ := getF X0 hx hZ hown (host := "") (Or.inl (own_w hw 51)) Via.refl e0 F_kind_ra0 (g := (mkF m 1 #[vR ra0, vR ra3] [(.ref ra0)])) rfl rfl (hb hby d10_1)
  refine og T1 (mkF m 4 #[vR ra0, vR ra3] [(.ref ra1)]) st1 ?_
  obtain ⟨T2, X2, e2, st2⟩ := getS2 X1 hx hZ hown (host := "") (Or.inl (own_w hw 64)) Via.refl e1 (SK0.ext OLD.2) (g := (mkF m 4 #[vR ra0, vR ra3] [(.ref ra1)])) rfl (hb hby d10_4)
  refine og T2 (mkF m 7 #[vR ra0, vR ra3] [(.ref kw0), (.ref ra1)]) st2 ?_
  by_cases hc3 : ra1 = kw0
  · refine og T2 (mkF m 21 #[vR ra0, vR ra3] [(.ref ra0)]) (fun _ k => Jvm.RoadKit.acmp (g := (mkF m 7 #[vR ra0, vR ra3] [(.ref kw0), (.ref ra1)])) X2 hx rfl rfl rfl (pc0 := 7) (pc' := 20) (same := true) rfl (hb hby d10_7) rfl (decide_eq_true (congrArg Value.ref hc3)) (by decide) (by decide) (XS.aloadN X2.here hx rfl (hb hby d10_20) rfl rfl k)) ?_
    obtain ⟨T4, X4, e4, st4⟩ := getF X2 hx hZ hown (host := "") (Or.inl (own_w hw 53)) Via.refl e2 F_text_ra0 (g := (mkF m 21 #[vR ra0, vR ra3] [(.ref ra0)])) rfl rfl (hb hby d10_21)
    refine og T4 (mkF m 24 #[vR ra0, vR ra3] [(.ref ra2)]) st4 ?_
    refine og T4 (mkF m 25 #[vR ra0, vR ra3] [(.ref ra3), (.ref ra2)]) (fun _ k => XS.aloadN X4.here hx rfl (hb hby d10_24) rfl rfl k) ?_
    obtain ⟨cq5, kq5, q5a, q5b, q5c⟩ := isOf hZ e4 E_ra2
    obtain ⟨_, _, ⟨T5, L5, k5, n5⟩, -, X5, ⟨Lc5, hQ5, l5, y5, z5⟩, st5⟩ := X4.virtualBack hx (y := y6) (z := y6) hown (mvT hZ (own_w hw 65)) (mvT hZ (own_w hw 66)) (notFace_of_selects (args := #[]) (mvT hZ (own_w hw 68))) (mvT hZ (own_w hw 68)) (mvT hZ (own_w hw 67)) (by decide) (backOf (W := 0) (rm11_6 l Z a0 hw ra2 rt2 kc2 ra3 rt3 kc3 G1 h0 n0 OLD E_ra2 F_coder_ra2 F_value_ra2 V_rt2 E_ra3 F_coder_ra3 F_value_ra3 V_rt3 hk11 O2 P5) hZ (own_w hw 69) (own_w hw 14) (lb rfl) (lb rfl)) q5a q5c (g := (mkF m 25 #[vR ra0, vR ra3] [(.ref ra3), (.ref ra2)])) rfl (by rw [hml]; rfl) (Steps.refl _) (argsL := [(.ref ra3)]) (rest := []) (lenOf pd_5 rfl) rfl (lb rfl) (hb hby d10_25) (fun _ _ => ⟨rfl, e4, (lb rfl), (lb rfl)⟩)
    dsimp only [Pt.U, Pt.locs, Pt.cells, Pt.slots] at X5 l5 y5 z5 st5 hQ5
    subst l5 y5 z5
    obtain ⟨rfl, Nq5, eq5⟩ := hQ5
    have N5 := Fr.app N0 Nq5
    refine ot T5 (mkF m 28 #[vR ra0, vR ra3] [(.int (own_ica [] []))]) st5 ?_
    by_cases hc6 : (own_ica [] []) = (0 : Int32)
    · refine og T5 (mkF m 36 #[vR ra0, vR ra3] [(.int (0 : Int32))]) (fun _ k => XS.ifYes X5.here hx rfl (pc0 := 28) (pc' := 35) rfl (hb hby d10_28) rfl ((if0 _ _).trans (teq hc6).1) (by decide) (by decide) (XS.iconst X5.here hx rfl (hb hby d10_35) k)) ?_
      exact own_leaveN X5 hlk (v := some (.int (nar .boolean (0 : Int32)))) (fun h => by rw [hret] at h; cases h) (lb rfl) (lb rfl) (by rw [eq5]; exact ⟨(by show some (Value.int (0 : Int32)) = _; exact congrArg (fun z => some (Value.int z)) (Eq.symm (Eq.trans (if_pos hc3) (hc6)))), N5, rfl⟩) (fun fs hr => retN X5 hx (t := .boolean) hret (by simp) (hb hby d10_36) hr)
    · refine og T5 (mkF m 36 #[vR ra0, vR ra3] [(.int (1 : Int32))]) (fun _ k => XS.ifNo X5.here hx rfl (hb hby d10_28) rfl ((if0 _ _).trans (feq hc6).1) (XS.iconst X5.here hx rfl (hb hby d10_31) (XS.goto X5.here hx rfl (pc0 := 32) (pc' := 36) rfl (hb hby d10_32) (by decide) (by decide) k))) ?_
      exact own_leaveN X5 hlk (v := some (.int (nar .boolean (1 : Int32)))) (fun h => by rw [hret] at h; cases h) (lb rfl) (lb rfl) (by rw [eq5]; exact ⟨(by show some (Value.int (1 : Int32)) = _; exact congrArg (fun z => some (Value.int z)) (Eq.symm (Eq.trans (if_pos hc3) ((own_ica01 _ _).resolve_left hc6)))), N5, rfl⟩) (fun fs hr => retN X5 hx (t := .boolean) hret (by simp) (hb hby d10_36) hr)
  · refine og T2 (mkF m 11 #[vR ra0, vR ra3] [(.ref ra0)]) (fun _ k => Jvm.RoadKit.acmp (g := (mkF m 7 #[vR ra0, vR ra3] [(.ref kw0), (.ref ra1)])) X2 hx rfl rfl rfl (pc0 := 7) (pc' := 10) (same := false) rfl (hb hby d10_7) rfl (decide_eq_false fun q => hc3 (Value.ref.inj q)) (by decide) (by decide) (XS.aloadN X2.here hx rfl (hb hby d10_10) rfl rfl k)) ?_
    obtain ⟨T7, X7, e7, st7⟩ := getF X2 hx hZ hown (host := "") (Or.inl (own_w hw 51)) Via.refl e2 F_kind_ra0 (g := (mkF m 11 #[vR ra0, vR ra3] [(.ref ra0)])) rfl rfl (hb hby d10_11)
    refine og T7 (mkF m 14 #[vR ra0, vR ra3] [(.ref ra1)]) st7 ?_
    obtain ⟨T8, X8, e8, st8⟩ := getS2 X7 hx hZ hown (host := "") (Or.inl (own_w hw 82)) Via.refl e7 (SK5.ext OLD.2) (g := (mkF m 14 #[vR ra0, vR ra3] [(.ref ra1)])) rfl (hb hby d10_14)
    refine og T8 (mkF m 17 #[vR ra0, vR ra3] [(.ref kw5), (.ref ra1)]) st8 ?_
    by_cases hc9 : ra1 = kw5
    · refine og T8 (mkF m 21 #[vR ra0, vR ra3] [(.ref ra0)]) (fun _ k => Jvm.RoadKit.acmp (g := (mkF m 17 #[vR ra0, vR ra3] [(.ref kw5), (.ref ra1)])) X8 hx rfl rfl rfl (pc0 := 17) (pc' := 20) (same := true) rfl (hb hby d10_17) rfl (decide_eq_true (congrArg Value.ref hc9)) (by decide) (by decide) (XS.aloadN X8.here hx rfl (hb hby d10_20) rfl rfl k)) ?_
      obtain ⟨T10, X10, e10, st10⟩ := getF X8 hx hZ hown (host := "") (Or.inl (own_w hw 53)) Via.refl e8 F_text_ra0 (g := (mkF m 21 #[vR ra0, vR ra3] [(.ref ra0)])) rfl rfl (hb hby d10_21)
      refine og T10 (mkF m 24 #[vR ra0, vR ra3] [(.ref ra2)]) st10 ?_
      refine og T10 (mkF m 25 #[vR ra0, vR ra3] [(.ref ra3), (.ref ra2)]) (fun _ k => XS.aloadN X10.here hx rfl (hb hby d10_24) rfl rfl k) ?_
      obtain ⟨cq11, kq11, q11a, q11b, q11c⟩ := isOf hZ e10 E_ra2
      obtain ⟨_, _, ⟨T11, L11, k11, n11⟩, -, X11, ⟨Lc11, hQ11, l11, y11, z11⟩, st11⟩ := X10.virtualBack hx (y := y6) (z := y6) hown (mvT hZ (own_w hw 65)) (mvT hZ (own_w hw 66)) (notFace_of_selects (args := #[]) (mvT hZ (own_w hw 68))) (mvT hZ (own_w hw 68)) (mvT hZ (own_w hw 67)) (by decide) (backOf (W := 0) (rm11_6 l Z a0 hw ra2 rt2 kc2 ra3 rt3 kc3 G1 h0 n0 OLD E_ra2 F_coder_ra2 F_value_ra2 V_rt2 E_ra3 F_coder_ra3 F_value_ra3 V_rt3 hk11 O2 P5) hZ (own_w hw 69) (own_w hw 14) (lb rfl) (lb rfl)) q11a q11c (g := (mkF m 25 #[vR ra0, vR ra3] [(.ref ra3), (.ref ra2)])) rfl (by rw [hml]; rfl) (Steps.refl _) (argsL := [(.ref ra3)]) (rest := []) (lenOf pd_5 rfl) rfl (lb rfl) (hb hby d10_25) (fun _ _ => ⟨rfl, e10, (lb rfl), (lb rfl)⟩)
      dsimp only [Pt.U, Pt.locs, Pt.cells, Pt.slots] at X11 l11 y11 z11 st11 hQ11
      subst l11 y11 z11
      obtain ⟨rfl, Nq11, eq11⟩ := hQ11
      have N11 := Fr.app N0 Nq11
      refine ot T11 (mkF m 28 #[vR ra0, vR ra3] [(.int (own_ica [] []))]) st11 ?_
      by_cases hc12 : (own_ica [] []) = (0 : Int32)
      · refine og T11 (mkF m 36 #[vR ra0, vR ra3] [(.int (0 : Int32))]) (fun _ k => XS.ifYes X11.here hx rfl (pc0 := 28) (pc' := 35) rfl (hb hby d10_28) rfl ((if0 _ _).trans (teq hc12).1) (by decide) (by decide) (XS.iconst X11.here hx rfl (hb hby d10_35) k)) ?_
        exact own_leaveN X11 hlk (v := some (.int (nar .boolean (0 : Int32)))) (fun h => by rw [hret] at h; cases h) (lb rfl) (lb rfl) (by rw [eq11]; exact ⟨(by show some (Value.int (0 : Int32)) = _; exact congrArg (fun z => some (Value.int z)) (Eq.symm (Eq.trans ((if_neg hc3).trans (if_pos hc9)) (hc12)))), N11, rfl⟩) (fun fs hr => retN X11 hx (t := .boolean) hret (by simp) (hb hby d10_36) hr)
      · refine og T11 (mkF m 36 #[vR ra0, vR ra3] [(.int (1 : Int32))]) (fun _ k => XS.ifNo X11.here hx rfl (hb hby d10_28) rfl ((if0 _ _).trans (feq hc12).1) (XS.iconst X11.here hx rfl (hb hby d10_31) (XS.goto X11.here hx rfl (pc0 := 32) (pc' := 36) rfl (hb hby d10_32) (by decide) (by decide) k))) ?_
        exact own_leaveN X11 hlk (v := some (.int (nar .boolean (1 : Int32)))) (fun h => by rw [hret] at h; cases h) (lb rfl) (lb rfl) (by rw [eq11]; exact ⟨(by show some (Value.int (1 : Int32)) = _; exact congrArg (fun z => some (Value.int z)) (Eq.symm (Eq.trans ((if_neg hc3).trans (if_pos hc9)) ((own_ica01 _ _).resolve_left hc12)))), N11, rfl⟩) (fun fs hr => retN X11 hx (t := .boolean) hret (by simp) (hb hby d10_36) hr)
    · refine og T8 (mkF m 36 #[vR ra0, vR ra3] [(.int (0 : Int32))]) (fun _ k => Jvm.RoadKit.acmp (g := (mkF m 17 #[vR ra0, vR ra3] [(.ref kw5), (.ref ra1)])) X8 hx rfl rfl rfl (pc0 := 17) (pc' := 35) (same := false) rfl (hb hby d10_17) rfl (decide_eq_false fun q => hc9 (Value.ref.inj q)) (by decide) (by decide) (XS.iconst X8.here hx rfl (hb hby d10_35) k)) ?_
      exact own_leaveN X8 hlk (v := some (.int (nar .boolean (0 : Int32)))) (fun h => by rw [hret] at h; cases h) (lb rfl) (lb rfl) (by rw [e8]; exact ⟨(by show some (Value.int (0 : Int32)) = _; exact congrArg (fun z => some (Value.int z)) (Eq.symm ((if_neg hc3).trans (if_neg hc9)))), N0, rfl⟩) (fun fs hr => retN X8 hx (t := .boolean) hret (by simp) (hb hby d10_36) hr)
abbrev R11_11 : Room := { frames := 2, cells := 0, slots := 0, locals := 26 }
def Q11_11 (Z : State) (ra0 : Addr) (ra1 : Addr) (kc2 : ClassId) (ra3 : Addr) (ra4 : Addr) (kc5 : ClassId) (ci6 : Int32) (G1 : Int32) (h0 : Heap) (n0 : Nat) (v : Option Value) (h : Heap) (L : List Loc) : Prop := (v = some (.int (own_ica [] [ci6])) ∧ Fr n0 L ∧ h = h0)
theorem rm11_11 (l : Launch) (Z : State) (a0 : Array Value) (hw : HW Z a0) (ra0 : Addr) (ra1 : Addr) (kc2 : ClassId) (ra3 : Addr) (ra4 : Addr) (kc5 : ClassId) (ci6 : Int32) (G1 : Int32) (h0 : Heap) (n0 : Nat) (OLD : Old Z n0 h0) (E_ra0 : Exa Z h0 ra0 "java/lang/String") (F_coder_ra0 : Fld Z h0 ra0 "java/lang/String" "coder" "B" (.int (0 : Int32))) (F_value_ra0 : Fld Z h0 ra0 "java/lang/String" "value" "[B" (.ref ra1)) (V_ra1 : Arv Z h0 ra1 kc2 .byte (0 : Int32) [] (.int (0 : Int32))) (E_ra3 : Exa Z h0 ra3 "java/lang/String") (F_coder_ra3 : Fld Z h0 ra3 "java/lang/String" "coder" "B" (.int (0 : Int32))) (F_value_ra3 : Fld Z h0 ra3 "java/lang/String" "value" "[B" (.ref ra4)) (hl_ci6 : ¬ ci6 < 0 ∧ ¬ (255 : Int32) < ci6) (V_ra4 : Arv Z h0 ra4 kc5 .byte (1 : Int32) [(.int (ci6.toInt8.toInt32))] (.int (0 : Int32))) (hk9 : ¬ (ra0 = ra3)) (O2 : Sta Z Z.heap "java/lang/String" "COMPACT_STRINGS" "Z" (.int G1)) (P5 : ¬ (G1 = (0 : Int32))) :
    own_CN l Z y6 jdk_42_method_70_code 2 (some .boolean) [] R11_11 #[(.ref ra0), (.ref ra3)] h0 (Q11_11 Z ra0 ra1 kc2 ra3 ra4 kc5 ci6 G1 h0 n0) := by
  refine own_entryN (plainFor_of_name pn_0) fun p e s m below meth c s₁ hx hby hml hown hnm hret hlk hZ hh X0 e0 => ?_
  have N0 := Fr.nil n0
  rw [ef_11_11 m ra0 ra3]
  refine og s₁ (mkF m 14 #[vR ra0, vR ra3] [(.ref ra3)]) (fun _ k => XS.aloadN X0.here hx rfl (hb hby d11_0) rfl rfl (XS.aloadN X0.here hx rfl (hb hby d11_1) rfl rfl (Jvm.RoadKit.acmp (g := (mkF m 2 #[vR ra0, vR ra3] [(.ref ra3), (.ref ra0)])) X0 hx rfl rfl rfl (pc0 := 2) (pc' := 9) (same := false) rfl (hb hby d11_2) rfl (decide_eq_false fun q => hk9 (Value.ref.inj q)) (by decide) (by decide) (XS.aloadN X0.here hx rfl (hb hby d11_9) rfl rfl (XS.ifnullNo X0.here hx rfl (hb hby d11_10) rfl (XS.aloadN X0.here hx rfl (hb hby d11_13) rfl rfl k)))))) ?_
  have hp1 : ∀ c ∈ ([ci6] : List Int32), ¬ c < 0 ∧ ¬ (255 : Int32) < c := by
    intro c hc
    simp only [List.mem_cons, List.not_mem_nil, or_false] at hc
    rcases hc with rfl
    · exact hl_ci6
  obtain ⟨cq2, kq2, q2a, q2b, q2c⟩ := isOf hZ e0 E_ra3
  obtain ⟨_, _, ⟨T2, L2, k2, n2⟩, -, X2, ⟨Lc2, hQ2, l2, y2, z2⟩, st2⟩ := X0.virtualBack hx (y := y2) (z := y2) hown (mvT hZ (own_w hw 70)) (mvT hZ (own_w hw 71)) (notFace_of_selects (args := #[]) (mvT hZ (own_w hw 73))) (mvT hZ (own_w hw 73)) (mvT hZ (own_w hw 72)) (by decide) (StrChars.Road.lenW (W := 0) hZ (own_hln hw) (kI := 4) (own_w hw 13) (cs := ([ci6] : List Int32)) E_ra3 F_value_ra3 F_coder_ra3 V_ra4 (StrChars.Road.codOf rfl (fun c hc => (hp1 c hc).2)) (own_up _ hp1) (O2.ext OLD.2) P5 (lb rfl) (lb rfl) (lb rfl)) q2a q2c (g := (mkF m 14 #[vR ra0, vR ra3] [(.ref ra3)])) rfl (by rw [hml]; rfl) (Steps.refl _) (argsL := []) (rest := []) (lenOf pd_1 rfl) rfl (lb rfl) (hb hby d11_14) (fun _ _ => ⟨rfl, e0, (lb rfl), (lb rfl)⟩)
  dsimp only [Pt.U, Pt.locs, Pt.cells, Pt.slots] at X2 l2 y2 z2 st2 hQ2
  subst l2 y2 z2
  obtain ⟨rfl, rfl, eq2⟩ := hQ2
  have N2 := Fr.app N0 (Fr.nil n0)
  refine ot T2 (mkF m 17 #[vR ra0, vR ra3] [(.int (1 : Int32))]) st2 ?_
  refine og T2 (mkF m 18 #[vR ra0, vR ra3] [(.ref ra0), (.int (1 : Int32))]) (fun _ k => XS.aloadN X2.here hx rfl (hb hby d11_17) rfl rfl k) ?_
  have hp3 : ∀ c ∈ ([] : List Int32), ¬ c < 0 ∧ ¬ (255 : Int32) < c := by
    intro c hc
    cases hc
  obtain ⟨cq4, kq4, q4a, q4b, q4c⟩ := isOf hZ eq2 E_ra0
  obtain ⟨_, _, ⟨T4, L4, k4, n4⟩, -, X4, ⟨Lc4, hQ4, l4, y4, z4⟩, st4⟩ := X2.virtualBack hx (y := y2) (z := y2) hown (mvT hZ (own_w hw 70)) (mvT hZ (own_w hw 71)) (notFace_of_selects (args := #[]) (mvT hZ (own_w hw 73))) (mvT hZ (own_w hw 73)) (mvT hZ (own_w hw 72)) (by decide) (StrChars.Road.lenW (W := 1) hZ (own_hln hw) (kI := 4) (own_w hw 13) (cs := ([] : List Int32)) E_ra0 F_value_ra0 F_coder_ra0 V_ra1 (StrChars.Road.codOf rfl (fun c hc => (hp3 c hc).2)) (own_up _ hp3) (O2.ext OLD.2) P5 (lb rfl) (lb rfl) (lb rfl)) q4a q4c (g := (mkF m 18 #[vR ra0, vR ra3] [(.ref ra0), (.int (1 : Int32))])) rfl (by rw [hml]; rfl) (Steps.refl _) (argsL := []) (rest := [(.int (1 : Int32))]) (lenOf pd_1 rfl) rfl (lb rfl) (hb hby d11_18) (fun _ _ => ⟨rfl, eq2, (lb rfl), (lb rfl)⟩)
  dsimp only [Pt.U, Pt.locs, Pt.cells, Pt.slots] at X4 l4 y4 z4 st4 hQ4
  subst l4 y4 z4
  obtain ⟨rfl, rfl, eq4⟩ := hQ4
  have N4 := Fr.app N2 (Fr.nil n0)
  refine ot T4 (mkF m 21 #[vR ra0, vR ra3] [(.int (0 : Int32)), (.int (1 : Int32))]) st4 ?_
  refine og T4 (mkF m 44 #[vR ra0, vR ra3] [(.int (0 : Int32))]) (fun _ k => XS.icmpYes X4.here hx rfl (pc0 := 21) (pc' := 43) rfl (hb hby d11_21) rfl (feq (by decide : ¬ ((1 : Int32) = (0 : Int32)))).2 (by decide) (by decide) (XS.iconst X4.here hx rfl (hb hby d11_43) k)) ?_
  exact own_leaveN X4 hlk (v := some (.int (nar .boolean (0 : Int32)))) (fun h => by rw [hret] at h; cases h) (lb rfl) (lb rfl) (by rw [eq4]; exact ⟨(by show some (Value.int (0 : Int32)) = _; first | rfl | (simp [own_ica]; done)), N4, rfl⟩) (fun fs hr => retN X4 hx (t := .boolean) hret (by simp) (hb hby d11_44) hr)
abbrev R10_10 : Room := { frames := 5, cells := 0, slots := 0, locals := 100 }
def Q10_10 (Z : State) (ra0 : Addr) (ra1 : Addr) (ra2 : Addr) (rt2 : Addr) (ra3 : Addr) (rt3 : Addr) (kc2 : ClassId) (kc3 : ClassId) (cb0 : Int32) (kw0 : Addr) (G1 : Int32) (kw5 : Addr) (h0 : Heap) (n0 : Nat) (v : Option Value) (h : Heap) (L : List Loc) : Prop := (v = some (.int (own_isv ra1 kw0 kw5 (own_ica [] [cb0]))) ∧ Fr n0 L ∧ h = h0)
theorem rm10_10 (l : Launch) (Z : State) (a0 : Array Value) (hw : HW Z a0) (ra0 : Addr) (ra1 : Addr) (ra2 : Addr) (rt2 : Addr) (ra3 : Addr) (rt3 : Addr) (kc2 : ClassId) (kc3 : ClassId) (cb0 : Int32) (kw0 : Addr) (G1 : Int32) (kw5 : Addr) (h0 : Heap) (n0 : Nat) (OLD : Old Z n0 h0) (E_ra0 : Exa Z h0 ra0 "com/example/agave/agave/query/Tokens$Token") (F_kind_ra0 : Fld Z h0 ra0 "com/example/agave/agave/query/Tokens$Token" "kind" "Lcom/example/agave/agave/query/Tokens$Kind;" (.ref ra1)) (F_text_ra0 : Fld Z h0 ra0 "com/example/agave/agave/query/Tokens$Token" "text" "Ljava/lang/String;" (.ref ra2)) (E_ra2 : Exa Z h0 ra2 "java/lang/String") (F_coder_ra2 : Fld Z h0 ra2 "java/lang/String" "coder" "B" (.int (0 : Int32))) (F_value_ra2 : Fld Z h0 ra2 "java/lang/String" "value" "[B" (.ref rt2)) (V_rt2 : Arv Z h0 rt2 kc2 .byte (0 : Int32) [] (.int (0 : Int32))) (E_ra3 : Exa Z h0 ra3 "java/lang/String") (F_coder_ra3 : Fld Z h0 ra3 "java/lang/String" "coder" "B" (.int (0 : Int32))) (F_value_ra3 : Fld Z h0 ra3 "java/lang/String" "value" "[B" (.ref rt3)) (V_rt3 : Arv Z h0 rt3 kc3 .byte (1 : Int32) [(.int (cb0.toInt8.toInt32))] (.int (0 : Int32))) (hl_cb0 : ¬ cb0 < 0 ∧ ¬ (255 : Int32) < cb0) (hk12 : ¬ (ra2 = ra3)) (SK0 : Sta Z Z.heap "com/example/agave/agave/query/Tokens$Kind" "WORD" "Lcom/example/agave/agave/query/Tokens$Kind;" (.ref kw0)) (EK0 : Exa Z Z.heap kw0 "com/example/agave/agave/query/Tokens$Kind") (O2 : Sta Z Z.heap "java/lang/String" "COMPACT_STRINGS" "Z" (.int G1)) (P5 : ¬ (G1 = (0 : Int32))) (SK5 : Sta Z Z.heap "com/example/agave/agave/query/Tokens$Kind" "SYMBOL" "Lcom/example/agave/agave/query/Tokens$Kind;" (.ref kw5)) (EK5 : Exa Z Z.heap kw5 "com/example/agave/agave/query/Tokens$Kind") :
    own_CN l Z y7 prog_6_method_6_code 2 (some .boolean) [] R10_10 #[(.ref ra0), (.ref ra3)] h0 (Q10_10 Z ra0 ra1 ra2 rt2 ra3 rt3 kc2 kc3 cb0 kw0 G1 kw5 h0 n0) := by
  refine own_entryN (plainFor_of_name pn_2) fun p e s m below meth c s₁ hx hby hml hown hnm hret hlk hZ hh X0 e0 => ?_
  have N0 := Fr.nil n0
  rw [ef_10_10 m ra0 ra3]
  refine og s₁ (mkF m 1 #[vR ra0, vR ra3] [(.ref ra0)]) (fun _ k => XS.aloadN X0.here hx rfl (hb hby d10_0) rfl rfl k) ?_
  obtain ⟨T1, X1, e1, st1⟩ := getF X0 hx hZ hown (host := "") (Or.inl (own_w hw 51)) Via.refl e0 F_kind_ra0 (g := (mkF m 1 #[vR ra0, vR ra3] [(.ref ra0)])) rfl rfl (hb hby d10_1)
  refine og T1 (mkF m 4 #[vR ra0, vR ra3] [(.ref ra1)]) st1 ?_
  obtain ⟨T2, X2, e2, st2⟩ := getS2 X1 hx hZ hown (host := "") (Or.inl (own_w hw 64)) Via.refl e1 (SK0.ext OLD.2) (g := (mkF m 4 #[vR ra0, vR ra3] [(.ref ra1)])) rfl (hb hby d10_4)
  refine og T2 (mkF m 7 #[vR ra0, vR ra3] [(.ref kw0), (.ref ra1)]) st2 ?_
  by_cases hc3 : ra1 = kw0
  · refine og T2 (mkF m 21 #[vR ra0, vR ra3] [(.ref ra0)]) (fun _ k => Jvm.RoadKit.acmp (g := (mkF m 7 #[vR ra0, vR ra3] [(.ref kw0), (.ref ra1)])) X2 hx rfl rfl rfl (pc0 := 7) (pc' := 20) (same := true) rfl (hb hby d10_7) rfl (decide_eq_true (congrArg Value.ref hc3)) (by decide) (by decide) (XS.aloadN X2.here hx rfl (hb hby d10_20) rfl rfl k)) ?_
    obtain ⟨T4, X4, e4, st4⟩ := getF X2 hx hZ hown (host := "") (Or.inl (own_w hw 53)) Via.refl e2 F_text_ra0 (g := (mkF m 21 #[vR ra0, vR ra3] [(.ref ra0)])) rfl rfl (hb hby d10_21)
    refine og T4 (mkF m 24 #[vR ra0, vR ra3] [(.ref ra2)]) st4 ?_
    refine og T4 (mkF m 25 #[vR ra0, vR ra3] [(.ref ra3), (.ref ra2)]) (fun _ k => XS.aloadN X4.here hx rfl (hb hby d10_24) rfl rfl k) ?_
    obtain ⟨cq5, kq5, q5a, q5b, q5c⟩ := isOf hZ e4 E_ra2
    obtain ⟨_, _, ⟨T5, L5, k5, n5⟩, -, X5, ⟨Lc5, hQ5, l5, y5, z5⟩, st5⟩ := X4.virtualBack hx (y := y6) (z := y6) hown (mvT hZ (own_w hw 65)) (mvT hZ (own_w hw 66)) (notFace_of_selects (args := #[]) (mvT hZ (own_w hw 68))) (mvT hZ (own_w hw 68)) (mvT hZ (own_w hw 67)) (by decide) (backOf (W := 0) (rm11_11 l Z a0 hw ra2 rt2 kc2 ra3 rt3 kc3 cb0 G1 h0 n0 OLD E_ra2 F_coder_ra2 F_value_ra2 V_rt2 E_ra3 F_coder_ra3 F_value_ra3 hl_cb0 V_rt3 hk12 O2 P5) hZ (own_w hw 69) (own_w hw 14) (lb rfl) (lb rfl)) q5a q5c (g := (mkF m 25 #[vR ra0, vR ra3] [(.ref ra3), (.ref ra2)])) rfl (by rw [hml]; rfl) (Steps.refl _) (argsL := [(.ref ra3)]) (rest := []) (lenOf pd_5 rfl) rfl (lb rfl) (hb hby d10_25) (fun _ _ => ⟨rfl, e4, (lb rfl), (lb rfl)⟩)
    dsimp only [Pt.U, Pt.locs, Pt.cells, Pt.slots] at X5 l5 y5 z5 st5 hQ5
    subst l5 y5 z5
    obtain ⟨rfl, Nq5, eq5⟩ := hQ5
    have N5 := Fr.app N0 Nq5
    refine ot T5 (mkF m 28 #[vR ra0, vR ra3] [(.int (own_ica [] [cb0]))]) st5 ?_
    by_cases hc6 : (own_ica [] [cb0]) = (0 : Int32)
    · refine og T5 (mkF m 36 #[vR ra0, vR ra3] [(.int (0 : Int32))]) (fun _ k => XS.ifYes X5.here hx rfl (pc0 := 28) (pc' := 35) rfl (hb hby d10_28) rfl ((if0 _ _).trans (teq hc6).1) (by decide) (by decide) (XS.iconst X5.here hx rfl (hb hby d10_35) k)) ?_
      exact own_leaveN X5 hlk (v := some (.int (nar .boolean (0 : Int32)))) (fun h => by rw [hret] at h; cases h) (lb rfl) (lb rfl) (by rw [eq5]; exact ⟨(by show some (Value.int (0 : Int32)) = _; exact congrArg (fun z => some (Value.int z)) (Eq.symm (Eq.trans (if_pos hc3) (hc6)))), N5, rfl⟩) (fun fs hr => retN X5 hx (t := .boolean) hret (by simp) (hb hby d10_36) hr)
    · refine og T5 (mkF m 36 #[vR ra0, vR ra3] [(.int (1 : Int32))]) (fun _ k => XS.ifNo X5.here hx rfl (hb hby d10_28) rfl ((if0 _ _).trans (feq hc6).1) (XS.iconst X5.here hx rfl (hb hby d10_31) (XS.goto X5.here hx rfl (pc0 := 32) (pc' := 36) rfl (hb hby d10_32) (by decide) (by decide) k))) ?_
      exact own_leaveN X5 hlk (v := some (.int (nar .boolean (1 : Int32)))) (fun h => by rw [hret] at h; cases h) (lb rfl) (lb rfl) (by rw [eq5]; exact ⟨(by show some (Value.int (1 : Int32)) = _; exact congrArg (fun z => some (Value.int z)) (Eq.symm (Eq.trans (if_pos hc3) ((own_ica01 _ _).resolve_left hc6)))), N5, rfl⟩) (fun fs hr => retN X5 hx (t := .boolean) hret (by simp) (hb hby d10_36) hr)
  · refine og T2 (mkF m 11 #[vR ra0, vR ra3] [(.ref ra0)]) (fun _ k => Jvm.RoadKit.acmp (g := (mkF m 7 #[vR ra0, vR ra3] [(.ref kw0), (.ref ra1)])) X2 hx rfl rfl rfl (pc0 := 7) (pc' := 10) (same := false) rfl (hb hby d10_7) rfl (decide_eq_false fun q => hc3 (Value.ref.inj q)) (by decide) (by decide) (XS.aloadN X2.here hx rfl (hb hby d10_10) rfl rfl k)) ?_
    obtain ⟨T7, X7, e7, st7⟩ := getF X2 hx hZ hown (host := "") (Or.inl (own_w hw 51)) Via.refl e2 F_kind_ra0 (g := (mkF m 11 #[vR ra0, vR ra3] [(.ref ra0)])) rfl rfl (hb hby d10_11)
    refine og T7 (mkF m 14 #[vR ra0, vR ra3] [(.ref ra1)]) st7 ?_
    obtain ⟨T8, X8, e8, st8⟩ := getS2 X7 hx hZ hown (host := "") (Or.inl (own_w hw 82)) Via.refl e7 (SK5.ext OLD.2) (g := (mkF m 14 #[vR ra0, vR ra3] [(.ref ra1)])) rfl (hb hby d10_14)
    refine og T8 (mkF m 17 #[vR ra0, vR ra3] [(.ref kw5), (.ref ra1)]) st8 ?_
    by_cases hc9 : ra1 = kw5
    · refine og T8 (mkF m 21 #[vR ra0, vR ra3] [(.ref ra0)]) (fun _ k => Jvm.RoadKit.acmp (g := (mkF m 17 #[vR ra0, vR ra3] [(.ref kw5), (.ref ra1)])) X8 hx rfl rfl rfl (pc0 := 17) (pc' := 20) (same := true) rfl (hb hby d10_17) rfl (decide_eq_true (congrArg Value.ref hc9)) (by decide) (by decide) (XS.aloadN X8.here hx rfl (hb hby d10_20) rfl rfl k)) ?_
      obtain ⟨T10, X10, e10, st10⟩ := getF X8 hx hZ hown (host := "") (Or.inl (own_w hw 53)) Via.refl e8 F_text_ra0 (g := (mkF m 21 #[vR ra0, vR ra3] [(.ref ra0)])) rfl rfl (hb hby d10_21)
      refine og T10 (mkF m 24 #[vR ra0, vR ra3] [(.ref ra2)]) st10 ?_
      refine og T10 (mkF m 25 #[vR ra0, vR ra3] [(.ref ra3), (.ref ra2)]) (fun _ k => XS.aloadN X10.here hx rfl (hb hby d10_24) rfl rfl k) ?_
      obtain ⟨cq11, kq11, q11a, q11b, q11c⟩ := isOf hZ e10 E_ra2
      obtain ⟨_, _, ⟨T11, L11, k11, n11⟩, -, X11, ⟨Lc11, hQ11, l11, y11, z11⟩, st11⟩ := X10.virtualBack hx (y := y6) (z := y6) hown (mvT hZ (own_w hw 65)) (mvT hZ (own_w hw 66)) (notFace_of_selects (args := #[]) (mvT hZ (own_w hw 68))) (mvT hZ (own_w hw 68)) (mvT hZ (own_w hw 67)) (by decide) (backOf (W := 0) (rm11_11 l Z a0 hw ra2 rt2 kc2 ra3 rt3 kc3 cb0 G1 h0 n0 OLD E_ra2 F_coder_ra2 F_value_ra2 V_rt2 E_ra3 F_coder_ra3 F_value_ra3 hl_cb0 V_rt3 hk12 O2 P5) hZ (own_w hw 69) (own_w hw 14) (lb rfl) (lb rfl)) q11a q11c (g := (mkF m 25 #[vR ra0, vR ra3] [(.ref ra3), (.ref ra2)])) rfl (by rw [hml]; rfl) (Steps.refl _) (argsL := [(.ref ra3)]) (rest := []) (lenOf pd_5 rfl) rfl (lb rfl) (hb hby d10_25) (fun _ _ => ⟨rfl, e10, (lb rfl), (lb rfl)⟩)
      dsimp only [Pt.U, Pt.locs, Pt.cells, Pt.slots] at X11 l11 y11 z11 st11 hQ11
      subst l11 y11 z11
      obtain ⟨rfl, Nq11, eq11⟩ := hQ11
      have N11 := Fr.app N0 Nq11
      refine ot T11 (mkF m 28 #[vR ra0, vR ra3] [(.int (own_ica [] [cb0]))]) st11 ?_
      by_cases hc12 : (own_ica [] [cb0]) = (0 : Int32)
      · refine og T11 (mkF m 36 #[vR ra0, vR ra3] [(.int (0 : Int32))]) (fun _ k => XS.ifYes X11.here hx rfl (pc0 := 28) (pc' := 35) rfl (hb hby d10_28) rfl ((if0 _ _).trans (teq hc12).1) (by decide) (by decide) (XS.iconst X11.here hx rfl (hb hby d10_35) k)) ?_
        exact own_leaveN X11 hlk (v := some (.int (nar .boolean (0 : Int32)))) (fun h => by rw [hret] at h; cases h) (lb rfl) (lb rfl) (by rw [eq11]; exact ⟨(by show some (Value.int (0 : Int32)) = _; exact congrArg (fun z => some (Value.int z)) (Eq.symm (Eq.trans ((if_neg hc3).trans (if_pos hc9)) (hc12)))), N11, rfl⟩) (fun fs hr => retN X11 hx (t := .boolean) hret (by simp) (hb hby d10_36) hr)
      · refine og T11 (mkF m 36 #[vR ra0, vR ra3] [(.int (1 : Int32))]) (fun _ k => XS.ifNo X11.here hx rfl (hb hby d10_28) rfl ((if0 _ _).trans (feq hc12).1) (XS.iconst X11.here hx rfl (hb hby d10_31) (XS.goto X11.here hx rfl (pc0 := 32) (pc' := 36) rfl (hb hby d10_32) (by decide) (by decide) k))) ?_
        exact own_leaveN X11 hlk (v := some (.int (nar .boolean (1 : Int32)))) (fun h => by rw [hret] at h; cases h) (lb rfl) (lb rfl) (by rw [eq11]; exact ⟨(by show some (Value.int (1 : Int32)) = _; exact congrArg (fun z => some (Value.int z)) (Eq.symm (Eq.trans ((if_neg hc3).trans (if_pos hc9)) ((own_ica01 _ _).resolve_left hc12)))), N11, rfl⟩) (fun fs hr => retN X11 hx (t := .boolean) hret (by simp) (hb hby d10_36) hr)
    · refine og T8 (mkF m 36 #[vR ra0, vR ra3] [(.int (0 : Int32))]) (fun _ k => Jvm.RoadKit.acmp (g := (mkF m 17 #[vR ra0, vR ra3] [(.ref kw5), (.ref ra1)])) X8 hx rfl rfl rfl (pc0 := 17) (pc' := 35) (same := false) rfl (hb hby d10_17) rfl (decide_eq_false fun q => hc9 (Value.ref.inj q)) (by decide) (by decide) (XS.iconst X8.here hx rfl (hb hby d10_35) k)) ?_
      exact own_leaveN X8 hlk (v := some (.int (nar .boolean (0 : Int32)))) (fun h => by rw [hret] at h; cases h) (lb rfl) (lb rfl) (by rw [e8]; exact ⟨(by show some (Value.int (0 : Int32)) = _; exact congrArg (fun z => some (Value.int z)) (Eq.symm ((if_neg hc3).trans (if_neg hc9)))), N0, rfl⟩) (fun fs hr => retN X8 hx (t := .boolean) hret (by simp) (hb hby d10_36) hr)
abbrev R11_13 : Room := { frames := 2, cells := 0, slots := 0, locals := 26 }
def Q11_13 (Z : State) (ra0 : Addr) (ra1 : Addr) (kc2 : ClassId) (ra3 : Addr) (ra4 : Addr) (kc5 : ClassId) (ci6 : Int32) (ci7 : Int32) (G1 : Int32) (h0 : Heap) (n0 : Nat) (v : Option Value) (h : Heap) (L : List Loc) : Prop := (v = some (.int (own_ica [] [ci6, ci7])) ∧ Fr n0 L ∧ h = h0)
theorem rm11_13 (l : Launch) (Z : State) (a0 : Array Value) (hw : HW Z a0) (ra0 : Addr) (ra1 : Addr) (kc2 : ClassId) (ra3 : Addr) (ra4 : Addr) (kc5 : ClassId) (ci6 : Int32) (ci7 : Int32) (G1 : Int32) (h0 : Heap) (n0 : Nat) (OLD : Old Z n0 h0) (E_ra0 : Exa Z h0 ra0 "java/lang/String") (F_coder_ra0 : Fld Z h0 ra0 "java/lang/String" "coder" "B" (.int (0 : Int32))) (F_value_ra0 : Fld Z h0 ra0 "java/lang/String" "value" "[B" (.ref ra1)) (V_ra1 : Arv Z h0 ra1 kc2 .byte (0 : Int32) [] (.int (0 : Int32))) (E_ra3 : Exa Z h0 ra3 "java/lang/String") (F_coder_ra3 : Fld Z h0 ra3 "java/lang/String" "coder" "B" (.int (0 : Int32))) (F_value_ra3 : Fld Z h0 ra3 "java/lang/String" "value" "[B" (.ref ra4)) (hl_ci6 : ¬ ci6 < 0 ∧ ¬ (255 : Int32) < ci6) (hl_ci7 : ¬ ci7 < 0 ∧ ¬ (255 : Int32) < ci7) (V_ra4 : Arv Z h0 ra4 kc5 .byte (2 : Int32) [(.int (ci6.toInt8.toInt32)), (.int (ci7.toInt8.toInt32))] (.int (0 : Int32))) (hk10 : ¬ (ra0 = ra3)) (O2 : Sta Z Z.heap "java/lang/String" "COMPACT_STRINGS" "Z" (.int G1)) (P5 : ¬ (G1 = (0 : Int32))) :
    own_CN l Z y6 jdk_42_method_70_code 2 (some .boolean) [] R11_13 #[(.ref ra0), (.ref ra3)] h0 (Q11_13 Z ra0 ra1 kc2 ra3 ra4 kc5 ci6 ci7 G1 h0 n0) := by
  refine own_entryN (plainFor_of_name pn_0) fun p e s m below meth c s₁ hx hby hml hown hnm hret hlk hZ hh X0 e0 => ?_
  have N0 := Fr.nil n0
  rw [ef_11_13 m ra0 ra3]
  refine og s₁ (mkF m 14 #[vR ra0, vR ra3] [(.ref ra3)]) (fun _ k => XS.aloadN X0.here hx rfl (hb hby d11_0) rfl rfl (XS.aloadN X0.here hx rfl (hb hby d11_1) rfl rfl (Jvm.RoadKit.acmp (g := (mkF m 2 #[vR ra0, vR ra3] [(.ref ra3), (.ref ra0)])) X0 hx rfl rfl rfl (pc0 := 2) (pc' := 9) (same := false) rfl (hb hby d11_2) rfl (decide_eq_false fun q => hk10 (Value.ref.inj q)) (by decide) (by decide) (XS.aloadN X0.here hx rfl (hb hby d11_9) rfl rfl (XS.ifnullNo X0.here hx rfl (hb hby d11_10) rfl (XS.aloadN X0.here hx rfl (hb hby d11_13) rfl rfl k)))))) ?_
  have hp1 : ∀ c ∈ ([ci6, ci7] : List Int32), ¬ c < 0 ∧ ¬ (255 : Int32) < c := by
    intro c hc
    simp only [List.mem_cons, List.not_mem_nil, or_false] at hc
    rcases hc with rfl | rfl
    · exact hl_ci6
    · exact hl_ci7
  obtain ⟨cq2, kq2, q2a, q2b, q2c⟩ := isOf hZ e0 E_ra3
  obtain ⟨_, _, ⟨T2, L2, k2, n2⟩, -, X2, ⟨Lc2, hQ2, l2, y2, z2⟩, st2⟩ := X0.virtualBack hx (y := y2) (z := y2) hown (mvT hZ (own_w hw 70)) (mvT hZ (own_w hw 71)) (notFace_of_selects (args := #[]) (mvT hZ (own_w hw 73))) (mvT hZ (own_w hw 73)) (mvT hZ (own_w hw 72)) (by decide) (StrChars.Road.lenW (W := 0) hZ (own_hln hw) (kI := 4) (own_w hw 13) (cs := ([ci6, ci7] : List Int32)) E_ra3 F_value_ra3 F_coder_ra3 V_ra4 (StrChars.Road.codOf rfl (fun c hc => (hp1 c hc).2)) (own_up _ hp1) (O2.ext OLD.2) P5 (lb rfl) (lb rfl) (lb rfl)) q2a q2c (g := (mkF m 14 #[vR ra0, vR ra3] [(.ref ra3)])) rfl (by rw [hml]; rfl) (Steps.refl _) (argsL := []) (rest := []) (lenOf pd_1 rfl) rfl (lb rfl) (hb hby d11_14) (fun _ _ => ⟨rfl, e0, (lb rfl), (lb rfl)⟩)
  dsimp only [Pt.U, Pt.locs, Pt.cells, Pt.slots] at X2 l2 y2 z2 st2 hQ2
  subst l2 y2 z2
  obtain ⟨rfl, rfl, eq2⟩ := hQ2
  have N2 := Fr.app N0 (Fr.nil n0)
  refine ot T2 (mkF m 17 #[vR ra0, vR ra3] [(.int (2 : Int32))]) st2 ?_
  refine og T2 (mkF m 18 #[vR ra0, vR ra3] [(.ref ra0), (.int (2 : Int32))]) (fun _ k => XS.aloadN X2.here hx rfl (hb hby d11_17) rfl rfl k) ?_
  have hp3 : ∀ c ∈ ([] : List Int32), ¬ c < 0 ∧ ¬ (255 : Int32) < c := by
    intro c hc
    cases hc
  obtain ⟨cq4, kq4, q4a, q4b, q4c⟩ := isOf hZ eq2 E_ra0
  obtain ⟨_, _, ⟨T4, L4, k4, n4⟩, -, X4, ⟨Lc4, hQ4, l4, y4, z4⟩, st4⟩ := X2.virtualBack hx (y := y2) (z := y2) hown (mvT hZ (own_w hw 70)) (mvT hZ (own_w hw 71)) (notFace_of_selects (args := #[]) (mvT hZ (own_w hw 73))) (mvT hZ (own_w hw 73)) (mvT hZ (own_w hw 72)) (by decide) (StrChars.Road.lenW (W := 1) hZ (own_hln hw) (kI := 4) (own_w hw 13) (cs := ([] : List Int32)) E_ra0 F_value_ra0 F_coder_ra0 V_ra1 (StrChars.Road.codOf rfl (fun c hc => (hp3 c hc).2)) (own_up _ hp3) (O2.ext OLD.2) P5 (lb rfl) (lb rfl) (lb rfl)) q4a q4c (g := (mkF m 18 #[vR ra0, vR ra3] [(.ref ra0), (.int (2 : Int32))])) rfl (by rw [hml]; rfl) (Steps.refl _) (argsL := []) (rest := [(.int (2 : Int32))]) (lenOf pd_1 rfl) rfl (lb rfl) (hb hby d11_18) (fun _ _ => ⟨rfl, eq2, (lb rfl), (lb rfl)⟩)
  dsimp only [Pt.U, Pt.locs, Pt.cells, Pt.slots] at X4 l4 y4 z4 st4 hQ4
  subst l4 y4 z4
  obtain ⟨rfl, rfl, eq4⟩ := hQ4
  have N4 := Fr.app N2 (Fr.nil n0)
  refine ot T4 (mkF m 21 #[vR ra0, vR ra3] [(.int (0 : Int32)), (.int (2 : Int32))]) st4 ?_
  refine og T4 (mkF m 44 #[vR ra0, vR ra3] [(.int (0 : Int32))]) (fun _ k => XS.icmpYes X4.here hx rfl (pc0 := 21) (pc' := 43) rfl (hb hby d11_21) rfl (feq (by decide : ¬ ((2 : Int32) = (0 : Int32)))).2 (by decide) (by decide) (XS.iconst X4.here hx rfl (hb hby d11_43) k)) ?_
  exact own_leaveN X4 hlk (v := some (.int (nar .boolean (0 : Int32)))) (fun h => by rw [hret] at h; cases h) (lb rfl) (lb rfl) (by rw [eq4]; exact ⟨(by show some (Value.int (0 : Int32)) = _; first | rfl | (simp [own_ica]; done)), N4, rfl⟩) (fun fs hr => retN X4 hx (t := .boolean) hret (by simp) (hb hby d11_44) hr)
abbrev R10_12 : Room := { frames := 5, cells := 0, slots := 0, locals := 100 }
def Q10_12 (Z : State) (ra0 : Addr) (ra1 : Addr) (ra2 : Addr) (rt2 : Addr) (ra3 : Addr) (rt3 : Addr) (kc2 : ClassId) (kc3 : ClassId) (cb0 : Int32) (cb1 : Int32) (kw0 : Addr) (G1 : Int32) (kw5 : Addr) (h0 : Heap) (n0 : Nat) (v : Option Value) (h : Heap) (L : List Loc) : Prop := (v = some (.int (own_isv ra1 kw0 kw5 (own_ica [] [cb0, cb1]))) ∧ Fr n0 L ∧ h = h0)
theorem rm10_12 (l : Launch) (Z : State) (a0 : Array Value) (hw : HW Z a0) (ra0 : Addr) (ra1 : Addr) (ra2 : Addr) (rt2 : Addr) (ra3 : Addr) (rt3 : Addr) (kc2 : ClassId) (kc3 : ClassId) (cb0 : Int32) (cb1 : Int32) (kw0 : Addr) (G1 : Int32) (kw5 : Addr) (h0 : Heap) (n0 : Nat) (OLD : Old Z n0 h0) (E_ra0 : Exa Z h0 ra0 "com/example/agave/agave/query/Tokens$Token") (F_kind_ra0 : Fld Z h0 ra0 "com/example/agave/agave/query/Tokens$Token" "kind" "Lcom/example/agave/agave/query/Tokens$Kind;" (.ref ra1)) (F_text_ra0 : Fld Z h0 ra0 "com/example/agave/agave/query/Tokens$Token" "text" "Ljava/lang/String;" (.ref ra2)) (E_ra2 : Exa Z h0 ra2 "java/lang/String") (F_coder_ra2 : Fld Z h0 ra2 "java/lang/String" "coder" "B" (.int (0 : Int32))) (F_value_ra2 : Fld Z h0 ra2 "java/lang/String" "value" "[B" (.ref rt2)) (V_rt2 : Arv Z h0 rt2 kc2 .byte (0 : Int32) [] (.int (0 : Int32))) (E_ra3 : Exa Z h0 ra3 "java/lang/String") (F_coder_ra3 : Fld Z h0 ra3 "java/lang/String" "coder" "B" (.int (0 : Int32))) (F_value_ra3 : Fld Z h0 ra3 "java/lang/String" "value" "[B" (.ref rt3)) (V_rt3 : Arv Z h0 rt3 kc3 .byte (2 : Int32) [(.int (cb0.toInt8.toInt32)), (.int (cb1.toInt8.toInt32))] (.int (0 : Int32))) (hl_cb0 : ¬ cb0 < 0 ∧ ¬ (255 : Int32) < cb0) (hl_cb1 : ¬ cb1 < 0 ∧ ¬ (255 : Int32) < cb1) (hk13 : ¬ (ra2 = ra3)) (SK0 : Sta Z Z.heap "com/example/agave/agave/query/Tokens$Kind" "WORD" "Lcom/example/agave/agave/query/Tokens$Kind;" (.ref kw0)) (EK0 : Exa Z Z.heap kw0 "com/example/agave/agave/query/Tokens$Kind") (O2 : Sta Z Z.heap "java/lang/String" "COMPACT_STRINGS" "Z" (.int G1)) (P5 : ¬ (G1 = (0 : Int32))) (SK5 : Sta Z Z.heap "com/example/agave/agave/query/Tokens$Kind" "SYMBOL" "Lcom/example/agave/agave/query/Tokens$Kind;" (.ref kw5)) (EK5 : Exa Z Z.heap kw5 "com/example/agave/agave/query/Tokens$Kind") :
    own_CN l Z y7 prog_6_method_6_code 2 (some .boolean) [] R10_12 #[(.ref ra0), (.ref ra3)] h0 (Q10_12 Z ra0 ra1 ra2 rt2 ra3 rt3 kc2 kc3 cb0 cb1 kw0 G1 kw5 h0 n0) := by
  refine own_entryN (plainFor_of_name pn_2) fun p e s m below meth c s₁ hx hby hml hown hnm hret hlk hZ hh X0 e0 => ?_
  have N0 := Fr.nil n0
  rw [ef_10_12 m ra0 ra3]
  refine og s₁ (mkF m 1 #[vR ra0, vR ra3] [(.ref ra0)]) (fun _ k => XS.aloadN X0.here hx rfl (hb hby d10_0) rfl rfl k) ?_
  obtain ⟨T1, X1, e1, st1⟩ := getF X0 hx hZ hown (host := "") (Or.inl (own_w hw 51)) Via.refl e0 F_kind_ra0 (g := (mkF m 1 #[vR ra0, vR ra3] [(.ref ra0)])) rfl rfl (hb hby d10_1)
  refine og T1 (mkF m 4 #[vR ra0, vR ra3] [(.ref ra1)]) st1 ?_
  obtain ⟨T2, X2, e2, st2⟩ := getS2 X1 hx hZ hown (host := "") (Or.inl (own_w hw 64)) Via.refl e1 (SK0.ext OLD.2) (g := (mkF m 4 #[vR ra0, vR ra3] [(.ref ra1)])) rfl (hb hby d10_4)
  refine og T2 (mkF m 7 #[vR ra0, vR ra3] [(.ref kw0), (.ref ra1)]) st2 ?_
  by_cases hc3 : ra1 = kw0
  · refine og T2 (mkF m 21 #[vR ra0, vR ra3] [(.ref ra0)]) (fun _ k => Jvm.RoadKit.acmp (g := (mkF m 7 #[vR ra0, vR ra3] [(.ref kw0), (.ref ra1)])) X2 hx rfl rfl rfl (pc0 := 7) (pc' := 20) (same := true) rfl (hb hby d10_7) rfl (decide_eq_true (congrArg Value.ref hc3)) (by decide) (by decide) (XS.aloadN X2.here hx rfl (hb hby d10_20) rfl rfl k)) ?_
    obtain ⟨T4, X4, e4, st4⟩ := getF X2 hx hZ hown (host := "") (Or.inl (own_w hw 53)) Via.refl e2 F_text_ra0 (g := (mkF m 21 #[vR ra0, vR ra3] [(.ref ra0)])) rfl rfl (hb hby d10_21)
    refine og T4 (mkF m 24 #[vR ra0, vR ra3] [(.ref ra2)]) st4 ?_
    refine og T4 (mkF m 25 #[vR ra0, vR ra3] [(.ref ra3), (.ref ra2)]) (fun _ k => XS.aloadN X4.here hx rfl (hb hby d10_24) rfl rfl k) ?_
    obtain ⟨cq5, kq5, q5a, q5b, q5c⟩ := isOf hZ e4 E_ra2
    obtain ⟨_, _, ⟨T5, L5, k5, n5⟩, -, X5, ⟨Lc5, hQ5, l5, y5, z5⟩, st5⟩ := X4.virtualBack hx (y := y6) (z := y6) hown (mvT hZ (own_w hw 65)) (mvT hZ (own_w hw 66)) (notFace_of_selects (args := #[]) (mvT hZ (own_w hw 68))) (mvT hZ (own_w hw 68)) (mvT hZ (own_w hw 67)) (by decide) (backOf (W := 0) (rm11_13 l Z a0 hw ra2 rt2 kc2 ra3 rt3 kc3 cb0 cb1 G1 h0 n0 OLD E_ra2 F_coder_ra2 F_value_ra2 V_rt2 E_ra3 F_coder_ra3 F_value_ra3 hl_cb0 hl_cb1 V_rt3 hk13 O2 P5) hZ (own_w hw 69) (own_w hw 14) (lb rfl) (lb rfl)) q5a q5c (g := (mkF m 25 #[vR ra0, vR ra3] [(.ref ra3), (.ref ra2)])) rfl (by rw [hml]; rfl) (Steps.refl _) (argsL := [(.ref ra3)]) (rest := []) (lenOf pd_5 rfl) rfl (lb rfl) (hb hby d10_25) (fun _ _ => ⟨rfl, e4, (lb rfl), (lb rfl)⟩)
    dsimp only [Pt.U, Pt.locs, Pt.cells, Pt.slots] at X5 l5 y5 z5 st5 hQ5
    subst l5 y5 z5
    obtain ⟨rfl, Nq5, eq5⟩ := hQ5
    have N5 := Fr.app N0 Nq5
    refine ot T5 (mkF m 28 #[vR ra0, vR ra3] [(.int (own_ica [] [cb0, cb1]))]) st5 ?_
    by_cases hc6 : (own_ica [] [cb0, cb1]) = (0 : Int32)
    · refine og T5 (mkF m 36 #[vR ra0, vR ra3] [(.int (0 : Int32))]) (fun _ k => XS.ifYes X5.here hx rfl (pc0 := 28) (pc' := 35) rfl (hb hby d10_28) rfl ((if0 _ _).trans (teq hc6).1) (by decide) (by decide) (XS.iconst X5.here hx rfl (hb hby d10_35) k)) ?_
      exact own_leaveN X5 hlk (v := some (.int (nar .boolean (0 : Int32)))) (fun h => by rw [hret] at h; cases h) (lb rfl) (lb rfl) (by rw [eq5]; exact ⟨(by show some (Value.int (0 : Int32)) = _; exact congrArg (fun z => some (Value.int z)) (Eq.symm (Eq.trans (if_pos hc3) (hc6)))), N5, rfl⟩) (fun fs hr => retN X5 hx (t := .boolean) hret (by simp) (hb hby d10_36) hr)
    · refine og T5 (mkF m 36 #[vR ra0, vR ra3] [(.int (1 : Int32))]) (fun _ k => XS.ifNo X5.here hx rfl (hb hby d10_28) rfl ((if0 _ _).trans (feq hc6).1) (XS.iconst X5.here hx rfl (hb hby d10_31) (XS.goto X5.here hx rfl (pc0 := 32) (pc' := 36) rfl (hb hby d10_32) (by decide) (by decide) k))) ?_
      exact own_leaveN X5 hlk (v := some (.int (nar .boolean (1 : Int32)))) (fun h => by rw [hret] at h; cases h) (lb rfl) (lb rfl) (by rw [eq5]; exact ⟨(by show some (Value.int (1 : Int32)) = _; exact congrArg (fun z => some (Value.int z)) (Eq.symm (Eq.trans (if_pos hc3) ((own_ica01 _ _).resolve_left hc6)))), N5, rfl⟩) (fun fs hr => retN X5 hx (t := .boolean) hret (by simp) (hb hby d10_36) hr)
  · refine og T2 (mkF m 11 #[vR ra0, vR ra3] [(.ref ra0)]) (fun _ k => Jvm.RoadKit.acmp (g := (mkF m 7 #[vR ra0, vR ra3] [(.ref kw0), (.ref ra1)])) X2 hx rfl rfl rfl (pc0 := 7) (pc' := 10) (same := false) rfl (hb hby d10_7) rfl (decide_eq_false fun q => hc3 (Value.ref.inj q)) (by decide) (by decide) (XS.aloadN X2.here hx rfl (hb hby d10_10) rfl rfl k)) ?_
    obtain ⟨T7, X7, e7, st7⟩ := getF X2 hx hZ hown (host := "") (Or.inl (own_w hw 51)) Via.refl e2 F_kind_ra0 (g := (mkF m 11 #[vR ra0, vR ra3] [(.ref ra0)])) rfl rfl (hb hby d10_11)
    refine og T7 (mkF m 14 #[vR ra0, vR ra3] [(.ref ra1)]) st7 ?_
    obtain ⟨T8, X8, e8, st8⟩ := getS2 X7 hx hZ hown (host := "") (Or.inl (own_w hw 82)) Via.refl e7 (SK5.ext OLD.2) (g := (mkF m 14 #[vR ra0, vR ra3] [(.ref ra1)])) rfl (hb hby d10_14)
    refine og T8 (mkF m 17 #[vR ra0, vR ra3] [(.ref kw5), (.ref ra1)]) st8 ?_
    by_cases hc9 : ra1 = kw5
    · refine og T8 (mkF m 21 #[vR ra0, vR ra3] [(.ref ra0)]) (fun _ k => Jvm.RoadKit.acmp (g := (mkF m 17 #[vR ra0, vR ra3] [(.ref kw5), (.ref ra1)])) X8 hx rfl rfl rfl (pc0 := 17) (pc' := 20) (same := true) rfl (hb hby d10_17) rfl (decide_eq_true (congrArg Value.ref hc9)) (by decide) (by decide) (XS.aloadN X8.here hx rfl (hb hby d10_20) rfl rfl k)) ?_
      obtain ⟨T10, X10, e10, st10⟩ := getF X8 hx hZ hown (host := "") (Or.inl (own_w hw 53)) Via.refl e8 F_text_ra0 (g := (mkF m 21 #[vR ra0, vR ra3] [(.ref ra0)])) rfl rfl (hb hby d10_21)
      refine og T10 (mkF m 24 #[vR ra0, vR ra3] [(.ref ra2)]) st10 ?_
      refine og T10 (mkF m 25 #[vR ra0, vR ra3] [(.ref ra3), (.ref ra2)]) (fun _ k => XS.aloadN X10.here hx rfl (hb hby d10_24) rfl rfl k) ?_
      obtain ⟨cq11, kq11, q11a, q11b, q11c⟩ := isOf hZ e10 E_ra2
      obtain ⟨_, _, ⟨T11, L11, k11, n11⟩, -, X11, ⟨Lc11, hQ11, l11, y11, z11⟩, st11⟩ := X10.virtualBack hx (y := y6) (z := y6) hown (mvT hZ (own_w hw 65)) (mvT hZ (own_w hw 66)) (notFace_of_selects (args := #[]) (mvT hZ (own_w hw 68))) (mvT hZ (own_w hw 68)) (mvT hZ (own_w hw 67)) (by decide) (backOf (W := 0) (rm11_13 l Z a0 hw ra2 rt2 kc2 ra3 rt3 kc3 cb0 cb1 G1 h0 n0 OLD E_ra2 F_coder_ra2 F_value_ra2 V_rt2 E_ra3 F_coder_ra3 F_value_ra3 hl_cb0 hl_cb1 V_rt3 hk13 O2 P5) hZ (own_w hw 69) (own_w hw 14) (lb rfl) (lb rfl)) q11a q11c (g := (mkF m 25 #[vR ra0, vR ra3] [(.ref ra3), (.ref ra2)])) rfl (by rw [hml]; rfl) (Steps.refl _) (argsL := [(.ref ra3)]) (rest := []) (lenOf pd_5 rfl) rfl (lb rfl) (hb hby d10_25) (fun _ _ => ⟨rfl, e10, (lb rfl), (lb rfl)⟩)
      dsimp only [Pt.U, Pt.locs, Pt.cells, Pt.slots] at X11 l11 y11 z11 st11 hQ11
      subst l11 y11 z11
      obtain ⟨rfl, Nq11, eq11⟩ := hQ11
      have N11 := Fr.app N0 Nq11
      refine ot T11 (mkF m 28 #[vR ra0, vR ra3] [(.int (own_ica [] [cb0, cb1]))]) st11 ?_
      by_cases hc12 : (own_ica [] [cb0, cb1]) = (0 : Int32)
      · refine og T11 (mkF m 36 #[vR ra0, vR ra3] [(.int (0 : Int32))]) (fun _ k => XS.ifYes X11.here hx rfl (pc0 := 28) (pc' := 35) rfl (hb hby d10_28) rfl ((if0 _ _).trans (teq hc12).1) (by decide) (by decide) (XS.iconst X11.here hx rfl (hb hby d10_35) k)) ?_
        exact own_leaveN X11 hlk (v := some (.int (nar .boolean (0 : Int32)))) (fun h => by rw [hret] at h; cases h) (lb rfl) (lb rfl) (by rw [eq11]; exact ⟨(by show some (Value.int (0 : Int32)) = _; exact congrArg (fun z => some (Value.int z)) (Eq.symm (Eq.trans ((if_neg hc3).trans (if_pos hc9)) (hc12)))), N11, rfl⟩) (fun fs hr => retN X11 hx (t := .boolean) hret (by simp) (hb hby d10_36) hr)
      · refine og T11 (mkF m 36 #[vR ra0, vR ra3] [(.int (1 : Int32))]) (fun _ k => XS.ifNo X11.here hx rfl (hb hby d10_28) rfl ((if0 _ _).trans (feq hc12).1) (XS.iconst X11.here hx rfl (hb hby d10_31) (XS.goto X11.here hx rfl (pc0 := 32) (pc' := 36) rfl (hb hby d10_32) (by decide) (by decide) k))) ?_
        exact own_leaveN X11 hlk (v := some (.int (nar .boolean (1 : Int32)))) (fun h => by rw [hret] at h; cases h) (lb rfl) (lb rfl) (by rw [eq11]; exact ⟨(by show some (Value.int (1 : Int32)) = _; exact congrArg (fun z => some (Value.int z)) (Eq.symm (Eq.trans ((if_neg hc3).trans (if_pos hc9)) ((own_ica01 _ _).resolve_left hc12)))), N11, rfl⟩) (fun fs hr => retN X11 hx (t := .boolean) hret (by simp) (hb hby d10_36) hr)
    · refine og T8 (mkF m 36 #[vR ra0, vR ra3] [(.int (0 : Int32))]) (fun _ k => Jvm.RoadKit.acmp (g := (mkF m 17 #[vR ra0, vR ra3] [(.ref kw5), (.ref ra1)])) X8 hx rfl rfl rfl (pc0 := 17) (pc' := 35) (same := false) rfl (hb hby d10_17) rfl (decide_eq_false fun q => hc9 (Value.ref.inj q)) (by decide) (by decide) (XS.iconst X8.here hx rfl (hb hby d10_35) k)) ?_
      exact own_leaveN X8 hlk (v := some (.int (nar .boolean (0 : Int32)))) (fun h => by rw [hret] at h; cases h) (lb rfl) (lb rfl) (by rw [e8]; exact ⟨(by show some (Value.int (0 : Int32)) = _; exact congrArg (fun z => some (Value.int z)) (Eq.symm ((if_neg hc3).trans (if_neg hc9)))), N0, rfl⟩) (fun fs hr => retN X8 hx (t := .boolean) hret (by simp) (hb hby d10_36) hr)
abbrev R11_15 : Room := { frames := 2, cells := 0, slots := 0, locals := 26 }
def Q11_15 (Z : State) (ra0 : Addr) (ra1 : Addr) (kc2 : ClassId) (ra3 : Addr) (ra4 : Addr) (kc5 : ClassId) (ci6 : Int32) (ci7 : Int32) (ci8 : Int32) (G1 : Int32) (h0 : Heap) (n0 : Nat) (v : Option Value) (h : Heap) (L : List Loc) : Prop := (v = some (.int (own_ica [] [ci6, ci7, ci8])) ∧ Fr n0 L ∧ h = h0)
theorem rm11_15 (l : Launch) (Z : State) (a0 : Array Value) (hw : HW Z a0) (ra0 : Addr) (ra1 : Addr) (kc2 : ClassId) (ra3 : Addr) (ra4 : Addr) (kc5 : ClassId) (ci6 : Int32) (ci7 : Int32) (ci8 : Int32) (G1 : Int32) (h0 : Heap) (n0 : Nat) (OLD : Old Z n0 h0) (E_ra0 : Exa Z h0 ra0 "java/lang/String") (F_coder_ra0 : Fld Z h0 ra0 "java/lang/String" "coder" "B" (.int (0 : Int32))) (F_value_ra0 : Fld Z h0 ra0 "java/lang/String" "value" "[B" (.ref ra1)) (V_ra1 : Arv Z h0 ra1 kc2 .byte (0 : Int32) [] (.int (0 : Int32))) (E_ra3 : Exa Z h0 ra3 "java/lang/String") (F_coder_ra3 : Fld Z h0 ra3 "java/lang/String" "coder" "B" (.int (0 : Int32))) (F_value_ra3 : Fld Z h0 ra3 "java/lang/String" "value" "[B" (.ref ra4)) (hl_ci6 : ¬ ci6 < 0 ∧ ¬ (255 : Int32) < ci6) (hl_ci7 : ¬ ci7 < 0 ∧ ¬ (255 : Int32) < ci7) (hl_ci8 : ¬ ci8 < 0 ∧ ¬ (255 : Int32) < ci8) (V_ra4 : Arv Z h0 ra4 kc5 .byte (3 : Int32) [(.int (ci6.toInt8.toInt32)), (.int (ci7.toInt8.toInt32)), (.int (ci8.toInt8.toInt32))] (.int (0 : Int32))) (hk11 : ¬ (ra0 = ra3)) (O2 : Sta Z Z.heap "java/lang/String" "COMPACT_STRINGS" "Z" (.int G1)) (P5 : ¬ (G1 = (0 : Int32))) :
    own_CN l Z y6 jdk_42_method_70_code 2 (some .boolean) [] R11_15 #[(.ref ra0), (.ref ra3)] h0 (Q11_15 Z ra0 ra1 kc2 ra3 ra4 kc5 ci6 ci7 ci8 G1 h0 n0) := by
  refine own_entryN (plainFor_of_name pn_0) fun p e s m below meth c s₁ hx hby hml hown hnm hret hlk hZ hh X0 e0 => ?_
  have N0 := Fr.nil n0
  rw [ef_11_15 m ra0 ra3]
  refine og s₁ (mkF m 14 #[vR ra0, vR ra3] [(.ref ra3)]) (fun _ k => XS.aloadN X0.here hx rfl (hb hby d11_0) rfl rfl (XS.aloadN X0.here hx rfl (hb hby d11_1) rfl rfl (Jvm.RoadKit.acmp (g := (mkF m 2 #[vR ra0, vR ra3] [(.ref ra3), (.ref ra0)])) X0 hx rfl rfl rfl (pc0 := 2) (pc' := 9) (same := false) rfl (hb hby d11_2) rfl (decide_eq_false fun q => hk11 (Value.ref.inj q)) (by decide) (by decide) (XS.aloadN X0.here hx rfl (hb hby d11_9) rfl rfl (XS.ifnullNo X0.here hx rfl (hb hby d11_10) rfl (XS.aloadN X0.here hx rfl (hb hby d11_13) rfl rfl k)))))) ?_
  have hp1 : ∀ c ∈ ([ci6, ci7, ci8] : List Int32), ¬ c < 0 ∧ ¬ (255 : Int32) < c := by
    intro c hc
    simp only [List.mem_cons, List.not_mem_nil, or_false] at hc
    rcases hc with rfl | rfl | rfl
    · exact hl_ci6
    · exact hl_ci7
    · exact hl_ci8
  obtain ⟨cq2, kq2, q2a, q2b, q2c⟩ := isOf hZ e0 E_ra3
  obtain ⟨_, _, ⟨T2, L2, k2, n2⟩, -, X2, ⟨Lc2, hQ2, l2, y2, z2⟩, st2⟩ := X0.virtualBack hx (y := y2) (z := y2) hown (mvT hZ (own_w hw 70)) (mvT hZ (own_w hw 71)) (notFace_of_selects (args := #[]) (mvT hZ (own_w hw 73))) (mvT hZ (own_w hw 73)) (mvT hZ (own_w hw 72)) (by decide) (StrChars.Road.lenW (W := 0) hZ (own_hln hw) (kI := 4) (own_w hw 13) (cs := ([ci6, ci7, ci8] : List Int32)) E_ra3 F_value_ra3 F_coder_ra3 V_ra4 (StrChars.Road.codOf rfl (fun c hc => (hp1 c hc).2)) (own_up _ hp1) (O2.ext OLD.2) P5 (lb rfl) (lb rfl) (lb rfl)) q2a q2c (g := (mkF m 14 #[vR ra0, vR ra3] [(.ref ra3)])) rfl (by rw [hml]; rfl) (Steps.refl _) (argsL := []) (rest := []) (lenOf pd_1 rfl) rfl (lb rfl) (hb hby d11_14) (fun _ _ => ⟨rfl, e0, (lb rfl), (lb rfl)⟩)
  dsimp only [Pt.U, Pt.locs, Pt.cells, Pt.slots] at X2 l2 y2 z2 st2 hQ2
  subst l2 y2 z2
  obtain ⟨rfl, rfl, eq2⟩ := hQ2
  have N2 := Fr.app N0 (Fr.nil n0)
  refine ot T2 (mkF m 17 #[vR ra0, vR ra3] [(.int (3 : Int32))]) st2 ?_
  refine og T2 (mkF m 18 #[vR ra0, vR ra3] [(.ref ra0), (.int (3 : Int32))]) (fun _ k => XS.aloadN X2.here hx rfl (hb hby d11_17) rfl rfl k) ?_
  have hp3 : ∀ c ∈ ([] : List Int32), ¬ c < 0 ∧ ¬ (255 : Int32) < c := by
    intro c hc
    cases hc
  obtain ⟨cq4, kq4, q4a, q4b, q4c⟩ := isOf hZ eq2 E_ra0
  obtain ⟨_, _, ⟨T4, L4, k4, n4⟩, -, X4, ⟨Lc4, hQ4, l4, y4, z4⟩, st4⟩ := X2.virtualBack hx (y := y2) (z := y2) hown (mvT hZ (own_w hw 70)) (mvT hZ (own_w hw 71)) (notFace_of_selects (args := #[]) (mvT hZ (own_w hw 73))) (mvT hZ (own_w hw 73)) (mvT hZ (own_w hw 72)) (by decide) (StrChars.Road.lenW (W := 1) hZ (own_hln hw) (kI := 4) (own_w hw 13) (cs := ([] : List Int32)) E_ra0 F_value_ra0 F_coder_ra0 V_ra1 (StrChars.Road.codOf rfl (fun c hc => (hp3 c hc).2)) (own_up _ hp3) (O2.ext OLD.2) P5 (lb rfl) (lb rfl) (lb rfl)) q4a q4c (g := (mkF m 18 #[vR ra0, vR ra3] [(.ref ra0), (.int (3 : Int32))])) rfl (by rw [hml]; rfl) (Steps.refl _) (argsL := []) (rest := [(.int (3 : Int32))]) (lenOf pd_1 rfl) rfl (lb rfl) (hb hby d11_18) (fun _ _ => ⟨rfl, eq2, (lb rfl), (lb rfl)⟩)
  dsimp only [Pt.U, Pt.locs, Pt.cells, Pt.slots] at X4 l4 y4 z4 st4 hQ4
  subst l4 y4 z4
  obtain ⟨rfl, rfl, eq4⟩ := hQ4
  have N4 := Fr.app N2 (Fr.nil n0)
  refine ot T4 (mkF m 21 #[vR ra0, vR ra3] [(.int (0 : Int32)), (.int (3 : Int32))]) st4 ?_
  refine og T4 (mkF m 44 #[vR ra0, vR ra3] [(.int (0 : Int32))]) (fun _ k => XS.icmpYes X4.here hx rfl (pc0 := 21) (pc' := 43) rfl (hb hby d11_21) rfl (feq (by decide : ¬ ((3 : Int32) = (0 : Int32)))).2 (by decide) (by decide) (XS.iconst X4.here hx rfl (hb hby d11_43) k)) ?_
  exact own_leaveN X4 hlk (v := some (.int (nar .boolean (0 : Int32)))) (fun h => by rw [hret] at h; cases h) (lb rfl) (lb rfl) (by rw [eq4]; exact ⟨(by show some (Value.int (0 : Int32)) = _; first | rfl | (simp [own_ica]; done)), N4, rfl⟩) (fun fs hr => retN X4 hx (t := .boolean) hret (by simp) (hb hby d11_44) hr)
abbrev R10_14 : Room := { frames := 5, cells := 0, slots := 0, locals := 100 }
def Q10_14 (Z : State) (ra0 : Addr) (ra1 : Addr) (ra2 : Addr) (rt2 : Addr) (ra3 : Addr) (rt3 : Addr) (kc2 : ClassId) (kc3 : ClassId) (cb0 : Int32) (cb1 : Int32) (cb2 : Int32) (kw0 : Addr) (G1 : Int32) (kw5 : Addr) (h0 : Heap) (n0 : Nat) (v : Option Value) (h : Heap) (L : List Loc) : Prop := (v = some (.int (own_isv ra1 kw0 kw5 (own_ica [] [cb0, cb1, cb2]))) ∧ Fr n0 L ∧ h = h0)
theorem rm10_14 (l : Launch) (Z : State) (a0 : Array Value) (hw : HW Z a0) (ra0 : Addr) (ra1 : Addr) (ra2 : Addr) (rt2 : Addr) (ra3 : Addr) (rt3 : Addr) (kc2 : ClassId) (kc3 : ClassId) (cb0 : Int32) (cb1 : Int32) (cb2 : Int32) (kw0 : Addr) (G1 : Int32) (kw5 : Addr) (h0 : Heap) (n0 : Nat) (OLD : Old Z n0 h0) (E_ra0 : Exa Z h0 ra0 "com/example/agave/agave/query/Tokens$Token") (F_kind_ra0 : Fld Z h0 ra0 "com/example/agave/agave/query/Tokens$Token" "kind" "Lcom/example/agave/agave/query/Tokens$Kind;" (.ref ra1)) (F_text_ra0 : Fld Z h0 ra0 "com/example/agave/agave/query/Tokens$Token" "text" "Ljava/lang/String;" (.ref ra2)) (E_ra2 : Exa Z h0 ra2 "java/lang/String") (F_coder_ra2 : Fld Z h0 ra2 "java/lang/String" "coder" "B" (.int (0 : Int32))) (F_value_ra2 : Fld Z h0 ra2 "java/lang/String" "value" "[B" (.ref rt2)) (V_rt2 : Arv Z h0 rt2 kc2 .byte (0 : Int32) [] (.int (0 : Int32))) (E_ra3 : Exa Z h0 ra3 "java/lang/String") (F_coder_ra3 : Fld Z h0 ra3 "java/lang/String" "coder" "B" (.int (0 : Int32))) (F_value_ra3 : Fld Z h0 ra3 "java/lang/String" "value" "[B" (.ref rt3)) (V_rt3 : Arv Z h0 rt3 kc3 .byte (3 : Int32) [(.int (cb0.toInt8.toInt32)), (.int (cb1.toInt8.toInt32)), (.int (cb2.toInt8.toInt32))] (.int (0 : Int32))) (hl_cb0 : ¬ cb0 < 0 ∧ ¬ (255 : Int32) < cb0) (hl_cb1 : ¬ cb1 < 0 ∧ ¬ (255 : Int32) < cb1) (hl_cb2 : ¬ cb2 < 0 ∧ ¬ (255 : Int32) < cb2) (hk14 : ¬ (ra2 = ra3)) (SK0 : Sta Z Z.heap "com/example/agave/agave/query/Tokens$Kind" "WORD" "Lcom/example/agave/agave/query/Tokens$Kind;" (.ref kw0)) (EK0 : Exa Z Z.heap kw0 "com/example/agave/agave/query/Tokens$Kind") (O2 : Sta Z Z.heap "java/lang/String" "COMPACT_STRINGS" "Z" (.int G1)) (P5 : ¬ (G1 = (0 : Int32))) (SK5 : Sta Z Z.heap "com/example/agave/agave/query/Tokens$Kind" "SYMBOL" "Lcom/example/agave/agave/query/Tokens$Kind;" (.ref kw5)) (EK5 : Exa Z Z.heap kw5 "com/example/agave/agave/query/Tokens$Kind") :
    own_CN l Z y7 prog_6_method_6_code 2 (some .boolean) [] R10_14 #[(.ref ra0), (.ref ra3)] h0 (Q10_14 Z ra0 ra1 ra2 rt2 ra3 rt3 kc2 kc3 cb0 cb1 cb2 kw0 G1 kw5 h0 n0) := by
  refine own_entryN (plainFor_of_name pn_2) fun p e s m below meth c s₁ hx hby hml hown hnm hret hlk hZ hh X0 e0 => ?_
  have N0 := Fr.nil n0
  rw [ef_10_14 m ra0 ra3]
  refine og s₁ (mkF m 1 #[vR ra0, vR ra3] [(.ref ra0)]) (fun _ k => XS.aloadN X0.here hx rfl (hb hby d10_0) rfl rfl k) ?_
  obtain ⟨T1, X1, e1, st1⟩ := getF X0 hx hZ hown (host := "") (Or.inl (own_w hw 51)) Via.refl e0 F_kind_ra0 (g := (mkF m 1 #[vR ra0, vR ra3] [(.ref ra0)])) rfl rfl (hb hby d10_1)
  refine og T1 (mkF m 4 #[vR ra0, vR ra3] [(.ref ra1)]) st1 ?_
  obtain ⟨T2, X2, e2, st2⟩ := getS2 X1 hx hZ hown (host := "") (Or.inl (own_w hw 64)) Via.refl e1 (SK0.ext OLD.2) (g := (mkF m 4 #[vR ra0, vR ra3] [(.ref ra1)])) rfl (hb hby d10_4)
  refine og T2 (mkF m 7 #[vR ra0, vR ra3] [(.ref kw0), (.ref ra1)]) st2 ?_
  by_cases hc3 : ra1 = kw0
  · refine og T2 (mkF m 21 #[vR ra0, vR ra3] [(.ref ra0)]) (fun _ k => Jvm.RoadKit.acmp (g := (mkF m 7 #[vR ra0, vR ra3] [(.ref kw0), (.ref ra1)])) X2 hx rfl rfl rfl (pc0 := 7) (pc' := 20) (same := true) rfl (hb hby d10_7) rfl (decide_eq_true (congrArg Value.ref hc3)) (by decide) (by decide) (XS.aloadN X2.here hx rfl (hb hby d10_20) rfl rfl k)) ?_
    obtain ⟨T4, X4, e4, st4⟩ := getF X2 hx hZ hown (host := "") (Or.inl (own_w hw 53)) Via.refl e2 F_text_ra0 (g := (mkF m 21 #[vR ra0, vR ra3] [(.ref ra0)])) rfl rfl (hb hby d10_21)
    refine og T4 (mkF m 24 #[vR ra0, vR ra3] [(.ref ra2)]) st4 ?_
    refine og T4 (mkF m 25 #[vR ra0, vR ra3] [(.ref ra3), (.ref ra2)]) (fun _ k => XS.aloadN X4.here hx rfl (hb hby d10_24) rfl rfl k) ?_
    obtain ⟨cq5, kq5, q5a, q5b, q5c⟩ := isOf hZ e4 E_ra2
    obtain ⟨_, _, ⟨T5, L5, k5, n5⟩, -, X5, ⟨Lc5, hQ5, l5, y5, z5⟩, st5⟩ := X4.virtualBack hx (y := y6) (z := y6) hown (mvT hZ (own_w hw 65)) (mvT hZ (own_w hw 66)) (notFace_of_selects (args := #[]) (mvT hZ (own_w hw 68))) (mvT hZ (own_w hw 68)) (mvT hZ (own_w hw 67)) (by decide) (backOf (W := 0) (rm11_15 l Z a0 hw ra2 rt2 kc2 ra3 rt3 kc3 cb0 cb1 cb2 G1 h0 n0 OLD E_ra2 F_coder_ra2 F_value_ra2 V_rt2 E_ra3 F_coder_ra3 F_value_ra3 hl_cb0 hl_cb1 hl_cb2 V_rt3 hk14 O2 P5) hZ (own_w hw 69) (own_w hw 14) (lb rfl) (lb rfl)) q5a q5c (g := (mkF m 25 #[vR ra0, vR ra3] [(.ref ra3), (.ref ra2)])) rfl (by rw [hml]; rfl) (Steps.refl _) (argsL := [(.ref ra3)]) (rest := []) (lenOf pd_5 rfl) rfl (lb rfl) (hb hby d10_25) (fun _ _ => ⟨rfl, e4, (lb rfl), (lb rfl)⟩)
    dsimp only [Pt.U, Pt.locs, Pt.cells, Pt.slots] at X5 l5 y5 z5 st5 hQ5
    subst l5 y5 z5
    obtain ⟨rfl, Nq5, eq5⟩ := hQ5
    have N5 := Fr.app N0 Nq5
    refine ot T5 (mkF m 28 #[vR ra0, vR ra3] [(.int (own_ica [] [cb0, cb1, cb2]))]) st5 ?_
    by_cases hc6 : (own_ica [] [cb0, cb1, cb2]) = (0 : Int32)
    · refine og T5 (mkF m 36 #[vR ra0, vR ra3] [(.int (0 : Int32))]) (fun _ k => XS.ifYes X5.here hx rfl (pc0 := 28) (pc' := 35) rfl (hb hby d10_28) rfl ((if0 _ _).trans (teq hc6).1) (by decide) (by decide) (XS.iconst X5.here hx rfl (hb hby d10_35) k)) ?_
      exact own_leaveN X5 hlk (v := some (.int (nar .boolean (0 : Int32)))) (fun h => by rw [hret] at h; cases h) (lb rfl) (lb rfl) (by rw [eq5]; exact ⟨(by show some (Value.int (0 : Int32)) = _; exact congrArg (fun z => some (Value.int z)) (Eq.symm (Eq.trans (if_pos hc3) (hc6)))), N5, rfl⟩) (fun fs hr => retN X5 hx (t := .boolean) hret (by simp) (hb hby d10_36) hr)
    · refine og T5 (mkF m 36 #[vR ra0, vR ra3] [(.int (1 : Int32))]) (fun _ k => XS.ifNo X5.here hx rfl (hb hby d10_28) rfl ((if0 _ _).trans (feq hc6).1) (XS.iconst X5.here hx rfl (hb hby d10_31) (XS.goto X5.here hx rfl (pc0 := 32) (pc' := 36) rfl (hb hby d10_32) (by decide) (by decide) k))) ?_
      exact own_leaveN X5 hlk (v := some (.int (nar .boolean (1 : Int32)))) (fun h => by rw [hret] at h; cases h) (lb rfl) (lb rfl) (by rw [eq5]; exact ⟨(by show some (Value.int (1 : Int32)) = _; exact congrArg (fun z => some (Value.int z)) (Eq.symm (Eq.trans (if_pos hc3) ((own_ica01 _ _).resolve_left hc6)))), N5, rfl⟩) (fun fs hr => retN X5 hx (t := .boolean) hret (by simp) (hb hby d10_36) hr)
  · refine og T2 (mkF m 11 #[vR ra0, vR ra3] [(.ref ra0)]) (fun _ k => Jvm.RoadKit.acmp (g := (mkF m 7 #[vR ra0, vR ra3] [(.ref kw0), (.ref ra1)])) X2 hx rfl rfl rfl (pc0 := 7) (pc' := 10) (same := false) rfl (hb hby d10_7) rfl (decide_eq_false fun q => hc3 (Value.ref.inj q)) (by decide) (by decide) (XS.aloadN X2.here hx rfl (hb hby d10_10) rfl rfl k)) ?_
    obtain ⟨T7, X7, e7, st7⟩ := getF X2 hx hZ hown (host := "") (Or.inl (own_w hw 51)) Via.refl e2 F_kind_ra0 (g := (mkF m 11 #[vR ra0, vR ra3] [(.ref ra0)])) rfl rfl (hb hby d10_11)
    refine og T7 (mkF m 14 #[vR ra0, vR ra3] [(.ref ra1)]) st7 ?_
    obtain ⟨T8, X8, e8, st8⟩ := getS2 X7 hx hZ hown (host := "") (Or.inl (own_w hw 82)) Via.refl e7 (SK5.ext OLD.2) (g := (mkF m 14 #[vR ra0, vR ra3] [(.ref ra1)])) rfl (hb hby d10_14)
    refine og T8 (mkF m 17 #[vR ra0, vR ra3] [(.ref kw5), (.ref ra1)]) st8 ?_
    by_cases hc9 : ra1 = kw5
    · refine og T8 (mkF m 21 #[vR ra0, vR ra3] [(.ref ra0)]) (fun _ k => Jvm.RoadKit.acmp (g := (mkF m 17 #[vR ra0, vR ra3] [(.ref kw5), (.ref ra1)])) X8 hx rfl rfl rfl (pc0 := 17) (pc' := 20) (same := true) rfl (hb hby d10_17) rfl (decide_eq_true (congrArg Value.ref hc9)) (by decide) (by decide) (XS.aloadN X8.here hx rfl (hb hby d10_20) rfl rfl k)) ?_
      obtain ⟨T10, X10, e10, st10⟩ := getF X8 hx hZ hown (host := "") (Or.inl (own_w hw 53)) Via.refl e8 F_text_ra0 (g := (mkF m 21 #[vR ra0, vR ra3] [(.ref ra0)])) rfl rfl (hb hby d10_21)
      refine og T10 (mkF m 24 #[vR ra0, vR ra3] [(.ref ra2)]) st10 ?_
      refine og T10 (mkF m 25 #[vR ra0, vR ra3] [(.ref ra3), (.ref ra2)]) (fun _ k => XS.aloadN X10.here hx rfl (hb hby d10_24) rfl rfl k) ?_
      obtain ⟨cq11, kq11, q11a, q11b, q11c⟩ := isOf hZ e10 E_ra2
      obtain ⟨_, _, ⟨T11, L11, k11, n11⟩, -, X11, ⟨Lc11, hQ11, l11, y11, z11⟩, st11⟩ := X10.virtualBack hx (y := y6) (z := y6) hown (mvT hZ (own_w hw 65)) (mvT hZ (own_w hw 66)) (notFace_of_selects (args := #[]) (mvT hZ (own_w hw 68))) (mvT hZ (own_w hw 68)) (mvT hZ (own_w hw 67)) (by decide) (backOf (W := 0) (rm11_15 l Z a0 hw ra2 rt2 kc2 ra3 rt3 kc3 cb0 cb1 cb2 G1 h0 n0 OLD E_ra2 F_coder_ra2 F_value_ra2 V_rt2 E_ra3 F_coder_ra3 F_value_ra3 hl_cb0 hl_cb1 hl_cb2 V_rt3 hk14 O2 P5) hZ (own_w hw 69) (own_w hw 14) (lb rfl) (lb rfl)) q11a q11c (g := (mkF m 25 #[vR ra0, vR ra3] [(.ref ra3), (.ref ra2)])) rfl (by rw [hml]; rfl) (Steps.refl _) (argsL := [(.ref ra3)]) (rest := []) (lenOf pd_5 rfl) rfl (lb rfl) (hb hby d10_25) (fun _ _ => ⟨rfl, e10, (lb rfl), (lb rfl)⟩)
      dsimp only [Pt.U, Pt.locs, Pt.cells, Pt.slots] at X11 l11 y11 z11 st11 hQ11
      subst l11 y11 z11
      obtain ⟨rfl, Nq11, eq11⟩ := hQ11
      have N11 := Fr.app N0 Nq11
      refine ot T11 (mkF m 28 #[vR ra0, vR ra3] [(.int (own_ica [] [cb0, cb1, cb2]))]) st11 ?_
      by_cases hc12 : (own_ica [] [cb0, cb1, cb2]) = (0 : Int32)
      · refine og T11 (mkF m 36 #[vR ra0, vR ra3] [(.int (0 : Int32))]) (fun _ k => XS.ifYes X11.here hx rfl (pc0 := 28) (pc' := 35) rfl (hb hby d10_28) rfl ((if0 _ _).trans (teq hc12).1) (by decide) (by decide) (XS.iconst X11.here hx rfl (hb hby d10_35) k)) ?_
        exact own_leaveN X11 hlk (v := some (.int (nar .boolean (0 : Int32)))) (fun h => by rw [hret] at h; cases h) (lb rfl) (lb rfl) (by rw [eq11]; exact ⟨(by show some (Value.int (0 : Int32)) = _; exact congrArg (fun z => some (Value.int z)) (Eq.symm (Eq.trans ((if_neg hc3).trans (if_pos hc9)) (hc12)))), N11, rfl⟩) (fun fs hr => retN X11 hx (t := .boolean) hret (by simp) (hb hby d10_36) hr)
      · refine og T11 (mkF m 36 #[vR ra0, vR ra3] [(.int (1 : Int32))]) (fun _ k => XS.ifNo X11.here hx rfl (hb hby d10_28) rfl ((if0 _ _).trans (feq hc12).1) (XS.iconst X11.here hx rfl (hb hby d10_31) (XS.goto X11.here hx rfl (pc0 := 32) (pc' := 36) rfl (hb hby d10_32) (by decide) (by decide) k))) ?_
        exact own_leaveN X11 hlk (v := some (.int (nar .boolean (1 : Int32)))) (fun h => by rw [hret] at h; cases h) (lb rfl) (lb rfl) (by rw [eq11]; exact ⟨(by show some (Value.int (1 : Int32)) = _; exact congrArg (fun z => some (Value.int z)) (Eq.symm (Eq.trans ((if_neg hc3).trans (if_pos hc9)) ((own_ica01 _ _).resolve_left hc12)))), N11, rfl⟩) (fun fs hr => retN X11 hx (t := .boolean) hret (by simp) (hb hby d10_36) hr)
    · refine og T8 (mkF m 36 #[vR ra0, vR ra3] [(.int (0 : Int32))]) (fun _ k => Jvm.RoadKit.acmp (g := (mkF m 17 #[vR ra0, vR ra3] [(.ref kw5), (.ref ra1)])) X8 hx rfl rfl rfl (pc0 := 17) (pc' := 35) (same := false) rfl (hb hby d10_17) rfl (decide_eq_false fun q => hc9 (Value.ref.inj q)) (by decide) (by decide) (XS.iconst X8.here hx rfl (hb hby d10_35) k)) ?_
      exact own_leaveN X8 hlk (v := some (.int (nar .boolean (0 : Int32)))) (fun h => by rw [hret] at h; cases h) (lb rfl) (lb rfl) (by rw [e8]; exact ⟨(by show some (Value.int (0 : Int32)) = _; exact congrArg (fun z => some (Value.int z)) (Eq.symm ((if_neg hc3).trans (if_neg hc9)))), N0, rfl⟩) (fun fs hr => retN X8 hx (t := .boolean) hret (by simp) (hb hby d10_36) hr)
abbrev R11_17 : Room := { frames := 2, cells := 0, slots := 0, locals := 26 }
def Q11_17 (Z : State) (ra0 : Addr) (ra1 : Addr) (kc2 : ClassId) (ci3 : Int32) (ra4 : Addr) (ra5 : Addr) (kc6 : ClassId) (G1 : Int32) (h0 : Heap) (n0 : Nat) (v : Option Value) (h : Heap) (L : List Loc) : Prop := (v = some (.int (own_ica [ci3] [])) ∧ Fr n0 L ∧ h = h0)
theorem rm11_17 (l : Launch) (Z : State) (a0 : Array Value) (hw : HW Z a0) (ra0 : Addr) (ra1 : Addr) (kc2 : ClassId) (ci3 : Int32) (ra4 : Addr) (ra5 : Addr) (kc6 : ClassId) (G1 : Int32) (h0 : Heap) (n0 : Nat) (OLD : Old Z n0 h0) (E_ra0 : Exa Z h0 ra0 "java/lang/String") (F_coder_ra0 : Fld Z h0 ra0 "java/lang/String" "coder" "B" (.int (0 : Int32))) (F_value_ra0 : Fld Z h0 ra0 "java/lang/String" "value" "[B" (.ref ra1)) (hl_ci3 : ¬ ci3 < 0 ∧ ¬ (255 : Int32) < ci3) (V_ra1 : Arv Z h0 ra1 kc2 .byte (1 : Int32) [(.int (ci3.toInt8.toInt32))] (.int (0 : Int32))) (E_ra4 : Exa Z h0 ra4 "java/lang/String") (F_coder_ra4 : Fld Z h0 ra4 "java/lang/String" "coder" "B" (.int (0 : Int32))) (F_value_ra4 : Fld Z h0 ra4 "java/lang/String" "value" "[B" (.ref ra5)) (V_ra5 : Arv Z h0 ra5 kc6 .byte (0 : Int32) [] (.int (0 : Int32))) (hk9 : ¬ (ra0 = ra4)) (O2 : Sta Z Z.heap "java/lang/String" "COMPACT_STRINGS" "Z" (.int G1)) (P5 : ¬ (G1 = (0 : Int32))) :
    own_CN l Z y6 jdk_42_method_70_code 2 (some .boolean) [] R11_17 #[(.ref ra0), (.ref ra4)] h0 (Q11_17 Z ra0 ra1 kc2 ci3 ra4 ra5 kc6 G1 h0 n0) := by
  refine own_entryN (plainFor_of_name pn_0) fun p e s m below meth c s₁ hx hby hml hown hnm hret hlk hZ hh X0 e0 => ?_
  have N0 := Fr.nil n0
  rw [ef_11_17 m ra0 ra4]
  refine og s₁ (mkF m 14 #[vR ra0, vR ra4] [(.ref ra4)]) (fun _ k => XS.aloadN X0.here hx rfl (hb hby d11_0) rfl rfl (XS.aloadN X0.here hx rfl (hb hby d11_1) rfl rfl (Jvm.RoadKit.acmp (g := (mkF m 2 #[vR ra0, vR ra4] [(.ref ra4), (.ref ra0)])) X0 hx rfl rfl rfl (pc0 := 2) (pc' := 9) (same := false) rfl (hb hby d11_2) rfl (decide_eq_false fun q => hk9 (Value.ref.inj q)) (by decide) (by decide) (XS.aloadN X0.here hx rfl (hb hby d11_9) rfl rfl (XS.ifnullNo X0.here hx rfl (hb hby d11_10) rfl (XS.aloadN X0.here hx rfl (hb hby d11_13) rfl rfl k)))))) ?_
  have hp1 : ∀ c ∈ ([] : List Int32), ¬ c < 0 ∧ ¬ (255 : Int32) < c := by
    intro c hc
    cases hc
  obtain ⟨cq2, kq2, q2a, q2b, q2c⟩ := isOf hZ e0 E_ra4
  obtain ⟨_, _, ⟨T2, L2, k2, n2⟩, -, X2, ⟨Lc2, hQ2, l2, y2, z2⟩, st2⟩ := X0.virtualBack hx (y := y2) (z := y2) hown (mvT hZ (own_w hw 70)) (mvT hZ (own_w hw 71)) (notFace_of_selects (args := #[]) (mvT hZ (own_w hw 73))) (mvT hZ (own_w hw 73)) (mvT hZ (own_w hw 72)) (by decide) (StrChars.Road.lenW (W := 0) hZ (own_hln hw) (kI := 4) (own_w hw 13) (cs := ([] : List Int32)) E_ra4 F_value_ra4 F_coder_ra4 V_ra5 (StrChars.Road.codOf rfl (fun c hc => (hp1 c hc).2)) (own_up _ hp1) (O2.ext OLD.2) P5 (lb rfl) (lb rfl) (lb rfl)) q2a q2c (g := (mkF m 14 #[vR ra0, vR ra4] [(.ref ra4)])) rfl (by rw [hml]; rfl) (Steps.refl _) (argsL := []) (rest := []) (lenOf pd_1 rfl) rfl (lb rfl) (hb hby d11_14) (fun _ _ => ⟨rfl, e0, (lb rfl), (lb rfl)⟩)
  dsimp only [Pt.U, Pt.locs, Pt.cells, Pt.slots] at X2 l2 y2 z2 st2 hQ2
  subst l2 y2 z2
  obtain ⟨rfl, rfl, eq2⟩ := hQ2
  have N2 := Fr.app N0 (Fr.nil n0)
  refine ot T2 (mkF m 17 #[vR ra0, vR ra4] [(.int (0 : Int32))]) st2 ?_
  refine og T2 (mkF m 18 #[vR ra0, vR ra4] [(.ref ra0), (.int (0 : Int32))]) (fun _ k => XS.aloadN X2.here hx rfl (hb hby d11_17) rfl rfl k) ?_
  have hp3 : ∀ c ∈ ([ci3] : List Int32), ¬ c < 0 ∧ ¬ (255 : Int32) < c := by
    intro c hc
    simp only [List.mem_cons, List.not_mem_nil, or_false] at hc
    rcases hc with rfl
    · exact hl_ci3
  obtain ⟨cq4, kq4, q4a, q4b, q4c⟩ := isOf hZ eq2 E_ra0
  obtain ⟨_, _, ⟨T4, L4, k4, n4⟩, -, X4, ⟨Lc4, hQ4, l4, y4, z4⟩, st4⟩ := X2.virtualBack hx (y := y2) (z := y2) hown (mvT hZ (own_w hw 70)) (mvT hZ (own_w hw 71)) (notFace_of_selects (args := #[]) (mvT hZ (own_w hw 73))) (mvT hZ (own_w hw 73)) (mvT hZ (own_w hw 72)) (by decide) (StrChars.Road.lenW (W := 1) hZ (own_hln hw) (kI := 4) (own_w hw 13) (cs := ([ci3] : List Int32)) E_ra0 F_value_ra0 F_coder_ra0 V_ra1 (StrChars.Road.codOf rfl (fun c hc => (hp3 c hc).2)) (own_up _ hp3) (O2.ext OLD.2) P5 (lb rfl) (lb rfl) (lb rfl)) q4a q4c (g := (mkF m 18 #[vR ra0, vR ra4] [(.ref ra0), (.int (0 : Int32))])) rfl (by rw [hml]; rfl) (Steps.refl _) (argsL := []) (rest := [(.int (0 : Int32))]) (lenOf pd_1 rfl) rfl (lb rfl) (hb hby d11_18) (fun _ _ => ⟨rfl, eq2, (lb rfl), (lb rfl)⟩)
  dsimp only [Pt.U, Pt.locs, Pt.cells, Pt.slots] at X4 l4 y4 z4 st4 hQ4
  subst l4 y4 z4
  obtain ⟨rfl, rfl, eq4⟩ := hQ4
  have N4 := Fr.app N2 (Fr.nil n0)
  refine ot T4 (mkF m 21 #[vR ra0, vR ra4] [(.int (1 : Int32)), (.int (0 : Int32))]) st4 ?_
  refine og T4 (mkF m 44 #[vR ra0, vR ra4] [(.int (0 : Int32))]) (fun _ k => XS.icmpYes X4.here hx rfl (pc0 := 21) (pc' := 43) rfl (hb hby d11_21) rfl (feq (by decide : ¬ ((0 : Int32) = (1 : Int32)))).2 (by decide) (by decide) (XS.iconst X4.here hx rfl (hb hby d11_43) k)) ?_
  exact own_leaveN X4 hlk (v := some (.int (nar .boolean (0 : Int32)))) (fun h => by rw [hret] at h; cases h) (lb rfl) (lb rfl) (by rw [eq4]; exact ⟨(by show some (Value.int (0 : Int32)) = _; first | rfl | (simp [own_ica]; done)), N4, rfl⟩) (fun fs hr => retN X4 hx (t := .boolean) hret (by simp) (hb hby d11_44) hr)
abbrev R10_16 : Room := { frames := 5, cells := 0, slots := 0, locals := 100 }
def Q10_16 (Z : State) (ra0 : Addr) (ra1 : Addr) (ra2 : Addr) (rt2 : Addr) (ra3 : Addr) (rt3 : Addr) (kc2 : ClassId) (kc3 : ClassId) (ca0 : Int32) (kw0 : Addr) (G1 : Int32) (kw5 : Addr) (h0 : Heap) (n0 : Nat) (v : Option Value) (h : Heap) (L : List Loc) : Prop := (v = some (.int (own_isv ra1 kw0 kw5 (own_ica [ca0] []))) ∧ Fr n0 L ∧ h = h0)
theorem rm10_16 (l : Launch) (Z : State) (a0 : Array Value) (hw : HW Z a0) (ra0 : Addr) (ra1 : Addr) (ra2 : Addr) (rt2 : Addr) (ra3 : Addr) (rt3 : Addr) (kc2 : ClassId) (kc3 : ClassId) (ca0 : Int32) (kw0 : Addr) (G1 : Int32) (kw5 : Addr) (h0 : Heap) (n0 : Nat) (OLD : Old Z n0 h0) (E_ra0 : Exa Z h0 ra0 "com/example/agave/agave/query/Tokens$Token") (F_kind_ra0 : Fld Z h0 ra0 "com/example/agave/agave/query/Tokens$Token" "kind" "Lcom/example/agave/agave/query/Tokens$Kind;" (.ref ra1)) (F_text_ra0 : Fld Z h0 ra0 "com/example/agave/agave/query/Tokens$Token" "text" "Ljava/lang/String;" (.ref ra2)) (E_ra2 : Exa Z h0 ra2 "java/lang/String") (F_coder_ra2 : Fld Z h0 ra2 "java/lang/String" "coder" "B" (.int (0 : Int32))) (F_value_ra2 : Fld Z h0 ra2 "java/lang/String" "value" "[B" (.ref rt2)) (V_rt2 : Arv Z h0 rt2 kc2 .byte (1 : Int32) [(.int (ca0.toInt8.toInt32))] (.int (0 : Int32))) (E_ra3 : Exa Z h0 ra3 "java/lang/String") (F_coder_ra3 : Fld Z h0 ra3 "java/lang/String" "coder" "B" (.int (0 : Int32))) (F_value_ra3 : Fld Z h0 ra3 "java/lang/String" "value" "[B" (.ref rt3)) (V_rt3 : Arv Z h0 rt3 kc3 .byte (0 : Int32) [] (.int (0 : Int32))) (hl_ca0 : ¬ ca0 < 0 ∧ ¬ (255 : Int32) < ca0) (hk12 : ¬ (ra2 = ra3)) (SK0 : Sta Z Z.heap "com/example/agave/agave/query/Tokens$Kind" "WORD" "Lcom/example/agave/agave/query/Tokens$Kind;" (.ref kw0)) (EK0 : Exa Z Z.heap kw0 "com/example/agave/agave/query/Tokens$Kind") (O2 : Sta Z Z.heap "java/lang/String" "COMPACT_STRINGS" "Z" (.int G1)) (P5 : ¬ (G1 = (0 : Int32))) (SK5 : Sta Z Z.heap "com/example/agave/agave/query/Tokens$Kind" "SYMBOL" "Lcom/example/agave/agave/query/Tokens$Kind;" (.ref kw5)) (EK5 : Exa Z Z.heap kw5 "com/example/agave/agave/query/Tokens$Kind") :
    own_CN l Z y7 prog_6_method_6_code 2 (some .boolean) [] R10_16 #[(.ref ra0), (.ref ra3)] h0 (Q10_16 Z ra0 ra1 ra2 rt2 ra3 rt3 kc2 kc3 ca0 kw0 G1 kw5 h0 n0) := by
  refine own_entryN (plainFor_of_name pn_2) fun p e s m below meth c s₁ hx hby hml hown hnm hret hlk hZ hh X0 e0 => ?_
  have N0 := Fr.nil n0
  rw [ef_10_16 m ra0 ra3]
  refine og s₁ (mkF m 1 #[vR ra0, vR ra3] [(.ref ra0)]) (fun _ k => XS.aloadN X0.here hx rfl (hb hby d10_0) rfl rfl k) ?_
  obtain ⟨T1, X1, e1, st1⟩ := getF X0 hx hZ hown (host := "") (Or.inl (own_w hw 51)) Via.refl e0 F_kind_ra0 (g := (mkF m 1 #[vR ra0, vR ra3] [(.ref ra0)])) rfl rfl (hb hby d10_1)
  refine og T1 (mkF m 4 #[vR ra0, vR ra3] [(.ref ra1)]) st1 ?_
  obtain ⟨T2, X2, e2, st2⟩ := getS2 X1 hx hZ hown (host := "") (Or.inl (own_w hw 64)) Via.refl e1 (SK0.ext OLD.2) (g := (mkF m 4 #[vR ra0, vR ra3] [(.ref ra1)])) rfl (hb hby d10_4)
  refine og T2 (mkF m 7 #[vR ra0, vR ra3] [(.ref kw0), (.ref ra1)]) st2 ?_
  by_cases hc3 : ra1 = kw0
  · refine og T2 (mkF m 21 #[vR ra0, vR ra3] [(.ref ra0)]) (fun _ k => Jvm.RoadKit.acmp (g := (mkF m 7 #[vR ra0, vR ra3] [(.ref kw0), (.ref ra1)])) X2 hx rfl rfl rfl (pc0 := 7) (pc' := 20) (same := true) rfl (hb hby d10_7) rfl (decide_eq_true (congrArg Value.ref hc3)) (by decide) (by decide) (XS.aloadN X2.here hx rfl (hb hby d10_20) rfl rfl k)) ?_
    obtain ⟨T4, X4, e4, st4⟩ := getF X2 hx hZ hown (host := "") (Or.inl (own_w hw 53)) Via.refl e2 F_text_ra0 (g := (mkF m 21 #[vR ra0, vR ra3] [(.ref ra0)])) rfl rfl (hb hby d10_21)
    refine og T4 (mkF m 24 #[vR ra0, vR ra3] [(.ref ra2)]) st4 ?_
    refine og T4 (mkF m 25 #[vR ra0, vR ra3] [(.ref ra3), (.ref ra2)]) (fun _ k => XS.aloadN X4.here hx rfl (hb hby d10_24) rfl rfl k) ?_
    obtain ⟨cq5, kq5, q5a, q5b, q5c⟩ := isOf hZ e4 E_ra2
    obtain ⟨_, _, ⟨T5, L5, k5, n5⟩, -, X5, ⟨Lc5, hQ5, l5, y5, z5⟩, st5⟩ := X4.virtualBack hx (y := y6) (z := y6) hown (mvT hZ (own_w hw 65)) (mvT hZ (own_w hw 66)) (notFace_of_selects (args := #[]) (mvT hZ (own_w hw 68))) (mvT hZ (own_w hw 68)) (mvT hZ (own_w hw 67)) (by decide) (backOf (W := 0) (rm11_17 l Z a0 hw ra2 rt2 kc2 ca0 ra3 rt3 kc3 G1 h0 n0 OLD E_ra2 F_coder_ra2 F_value_ra2 hl_ca0 V_rt2 E_ra3 F_coder_ra3 F_value_ra3 V_rt3 hk12 O2 P5) hZ (own_w hw 69) (own_w hw 14) (lb rfl) (lb rfl)) q5a q5c (g := (mkF m 25 #[vR ra0, vR ra3] [(.ref ra3), (.ref ra2)])) rfl (by rw [hml]; rfl) (Steps.refl _) (argsL := [(.ref ra3)]) (rest := []) (lenOf pd_5 rfl) rfl (lb rfl) (hb hby d10_25) (fun _ _ => ⟨rfl, e4, (lb rfl), (lb rfl)⟩)
    dsimp only [Pt.U, Pt.locs, Pt.cells, Pt.slots] at X5 l5 y5 z5 st5 hQ5
    subst l5 y5 z5
    obtain ⟨rfl, Nq5, eq5⟩ := hQ5
    have N5 := Fr.app N0 Nq5
    refine ot T5 (mkF m 28 #[vR ra0, vR ra3] [(.int (own_ica [ca0] []))]) st5 ?_
    by_cases hc6 : (own_ica [ca0] []) = (0 : Int32)
    · refine og T5 (mkF m 36 #[vR ra0, vR ra3] [(.int (0 : Int32))]) (fun _ k => XS.ifYes X5.here hx rfl (pc0 := 28) (pc' := 35) rfl (hb hby d10_28) rfl ((if0 _ _).trans (teq hc6).1) (by decide) (by decide) (XS.iconst X5.here hx rfl (hb hby d10_35) k)) ?_
      exact own_leaveN X5 hlk (v := some (.int (nar .boolean (0 : Int32)))) (fun h => by rw [hret] at h; cases h) (lb rfl) (lb rfl) (by rw [eq5]; exact ⟨(by show some (Value.int (0 : Int32)) = _; exact congrArg (fun z => some (Value.int z)) (Eq.symm (Eq.trans (if_pos hc3) (hc6)))), N5, rfl⟩) (fun fs hr => retN X5 hx (t := .boolean) hret (by simp) (hb hby d10_36) hr)
    · refine og T5 (mkF m 36 #[vR ra0, vR ra3] [(.int (1 : Int32))]) (fun _ k => XS.ifNo X5.here hx rfl (hb hby d10_28) rfl ((if0 _ _).trans (feq hc6).1) (XS.iconst X5.here hx rfl (hb hby d10_31) (XS.goto X5.here hx rfl (pc0 := 32) (pc' := 36) rfl (hb hby d10_32) (by decide) (by decide) k))) ?_
      exact own_leaveN X5 hlk (v := some (.int (nar .boolean (1 : Int32)))) (fun h => by rw [hret] at h; cases h) (lb rfl) (lb rfl) (by rw [eq5]; exact ⟨(by show some (Value.int (1 : Int32)) = _; exact congrArg (fun z => some (Value.int z)) (Eq.symm (Eq.trans (if_pos hc3) ((own_ica01 _ _).resolve_left hc6)))), N5, rfl⟩) (fun fs hr => retN X5 hx (t := .boolean) hret (by simp) (hb hby d10_36) hr)
  · refine og T2 (mkF m 11 #[vR ra0, vR ra3] [(.ref ra0)]) (fun _ k => Jvm.RoadKit.acmp (g := (mkF m 7 #[vR ra0, vR ra3] [(.ref kw0), (.ref ra1)])) X2 hx rfl rfl rfl (pc0 := 7) (pc' := 10) (same := false) rfl (hb hby d10_7) rfl (decide_eq_false fun q => hc3 (Value.ref.inj q)) (by decide) (by decide) (XS.aloadN X2.here hx rfl (hb hby d10_10) rfl rfl k)) ?_
    obtain ⟨T7, X7, e7, st7⟩ := getF X2 hx hZ hown (host := "") (Or.inl (own_w hw 51)) Via.refl e2 F_kind_ra0 (g := (mkF m 11 #[vR ra0, vR ra3] [(.ref ra0)])) rfl rfl (hb hby d10_11)
    refine og T7 (mkF m 14 #[vR ra0, vR ra3] [(.ref ra1)]) st7 ?_
    obtain ⟨T8, X8, e8, st8⟩ := getS2 X7 hx hZ hown (host := "") (Or.inl (own_w hw 82)) Via.refl e7 (SK5.ext OLD.2) (g := (mkF m 14 #[vR ra0, vR ra3] [(.ref ra1)])) rfl (hb hby d10_14)
    refine og T8 (mkF m 17 #[vR ra0, vR ra3] [(.ref kw5), (.ref ra1)]) st8 ?_
    by_cases hc9 : ra1 = kw5
    · refine og T8 (mkF m 21 #[vR ra0, vR ra3] [(.ref ra0)]) (fun _ k => Jvm.RoadKit.acmp (g := (mkF m 17 #[vR ra0, vR ra3] [(.ref kw5), (.ref ra1)])) X8 hx rfl rfl rfl (pc0 := 17) (pc' := 20) (same := true) rfl (hb hby d10_17) rfl (decide_eq_true (congrArg Value.ref hc9)) (by decide) (by decide) (XS.aloadN X8.here hx rfl (hb hby d10_20) rfl rfl k)) ?_
      obtain ⟨T10, X10, e10, st10⟩ := getF X8 hx hZ hown (host := "") (Or.inl (own_w hw 53)) Via.refl e8 F_text_ra0 (g := (mkF m 21 #[vR ra0, vR ra3] [(.ref ra0)])) rfl rfl (hb hby d10_21)
      refine og T10 (mkF m 24 #[vR ra0, vR ra3] [(.ref ra2)]) st10 ?_
      refine og T10 (mkF m 25 #[vR ra0, vR ra3] [(.ref ra3), (.ref ra2)]) (fun _ k => XS.aloadN X10.here hx rfl (hb hby d10_24) rfl rfl k) ?_
      obtain ⟨cq11, kq11, q11a, q11b, q11c⟩ := isOf hZ e10 E_ra2
      obtain ⟨_, _, ⟨T11, L11, k11, n11⟩, -, X11, ⟨Lc11, hQ11, l11, y11, z11⟩, st11⟩ := X10.virtualBack hx (y := y6) (z := y6) hown (mvT hZ (own_w hw 65)) (mvT hZ (own_w hw 66)) (notFace_of_selects (args := #[]) (mvT hZ (own_w hw 68))) (mvT hZ (own_w hw 68)) (mvT hZ (own_w hw 67)) (by decide) (backOf (W := 0) (rm11_17 l Z a0 hw ra2 rt2 kc2 ca0 ra3 rt3 kc3 G1 h0 n0 OLD E_ra2 F_coder_ra2 F_value_ra2 hl_ca0 V_rt2 E_ra3 F_coder_ra3 F_value_ra3 V_rt3 hk12 O2 P5) hZ (own_w hw 69) (own_w hw 14) (lb rfl) (lb rfl)) q11a q11c (g := (mkF m 25 #[vR ra0, vR ra3] [(.ref ra3), (.ref ra2)])) rfl (by rw [hml]; rfl) (Steps.refl _) (argsL := [(.ref ra3)]) (rest := []) (lenOf pd_5 rfl) rfl (lb rfl) (hb hby d10_25) (fun _ _ => ⟨rfl, e10, (lb rfl), (lb rfl)⟩)
      dsimp only [Pt.U, Pt.locs, Pt.cells, Pt.slots] at X11 l11 y11 z11 st11 hQ11
      subst l11 y11 z11
      obtain ⟨rfl, Nq11, eq11⟩ := hQ11
      have N11 := Fr.app N0 Nq11
      refine ot T11 (mkF m 28 #[vR ra0, vR ra3] [(.int (own_ica [ca0] []))]) st11 ?_
      by_cases hc12 : (own_ica [ca0] []) = (0 : Int32)
      · refine og T11 (mkF m 36 #[vR ra0, vR ra3] [(.int (0 : Int32))]) (fun _ k => XS.ifYes X11.here hx rfl (pc0 := 28) (pc' := 35) rfl (hb hby d10_28) rfl ((if0 _ _).trans (teq hc12).1) (by decide) (by decide) (XS.iconst X11.here hx rfl (hb hby d10_35) k)) ?_
        exact own_leaveN X11 hlk (v := some (.int (nar .boolean (0 : Int32)))) (fun h => by rw [hret] at h; cases h) (lb rfl) (lb rfl) (by rw [eq11]; exact ⟨(by show some (Value.int (0 : Int32)) = _; exact congrArg (fun z => some (Value.int z)) (Eq.symm (Eq.trans ((if_neg hc3).trans (if_pos hc9)) (hc12)))), N11, rfl⟩) (fun fs hr => retN X11 hx (t := .boolean) hret (by simp) (hb hby d10_36) hr)
      · refine og T11 (mkF m 36 #[vR ra0, vR ra3] [(.int (1 : Int32))]) (fun _ k => XS.ifNo X11.here hx rfl (hb hby d10_28) rfl ((if0 _ _).trans (feq hc12).1) (XS.iconst X11.here hx rfl (hb hby d10_31) (XS.goto X11.here hx rfl (pc0 := 32) (pc' := 36) rfl (hb hby d10_32) (by decide) (by decide) k))) ?_
        exact own_leaveN X11 hlk (v := some (.int (nar .boolean (1 : Int32)))) (fun h => by rw [hret] at h; cases h) (lb rfl) (lb rfl) (by rw [eq11]; exact ⟨(by show some (Value.int (1 : Int32)) = _; exact congrArg (fun z => some (Value.int z)) (Eq.symm (Eq.trans ((if_neg hc3).trans (if_pos hc9)) ((own_ica01 _ _).resolve_left hc12)))), N11, rfl⟩) (fun fs hr => retN X11 hx (t := .boolean) hret (by simp) (hb hby d10_36) hr)
    · refine og T8 (mkF m 36 #[vR ra0, vR ra3] [(.int (0 : Int32))]) (fun _ k => Jvm.RoadKit.acmp (g := (mkF m 17 #[vR ra0, vR ra3] [(.ref kw5), (.ref ra1)])) X8 hx rfl rfl rfl (pc0 := 17) (pc' := 35) (same := false) rfl (hb hby d10_17) rfl (decide_eq_false fun q => hc9 (Value.ref.inj q)) (by decide) (by decide) (XS.iconst X8.here hx rfl (hb hby d10_35) k)) ?_
      exact own_leaveN X8 hlk (v := some (.int (nar .boolean (0 : Int32)))) (fun h => by rw [hret] at h; cases h) (lb rfl) (lb rfl) (by rw [e8]; exact ⟨(by show some (Value.int (0 : Int32)) = _; exact congrArg (fun z => some (Value.int z)) (Eq.symm ((if_neg hc3).trans (if_neg hc9)))), N0, rfl⟩) (fun fs hr => retN X8 hx (t := .boolean) hret (by simp) (hb hby d10_36) hr)
abbrev R13_21 : Room := { frames := 0, cells := 0, slots := 0, locals := 0 }
def Q13_21 (Z : State) (ra0 : Addr) (ra1 : Addr) (kc2 : ClassId) (ci3 : Int32) (G1 : Int32) (h0 : Heap) (n0 : Nat) (v : Option Value) (h : Heap) (L : List Loc) : Prop := (v = some (.int (0 : Int32)) ∧ Fr n0 L ∧ h = h0)
theorem rm13_21 (l : Launch) (Z : State) (a0 : Array Value) (hw : HW Z a0) (ra0 : Addr) (ra1 : Addr) (kc2 : ClassId) (ci3 : Int32) (G1 : Int32) (h0 : Heap) (n0 : Nat) (OLD : Old Z n0 h0) (E_ra0 : Exa Z h0 ra0 "java/lang/String") (F_coder_ra0 : Fld Z h0 ra0 "java/lang/String" "coder" "B" (.int (0 : Int32))) (F_value_ra0 : Fld Z h0 ra0 "java/lang/String" "value" "[B" (.ref ra1)) (hl_ci3 : ¬ ci3 < 0 ∧ ¬ (255 : Int32) < ci3) (V_ra1 : Arv Z h0 ra1 kc2 .byte (1 : Int32) [(.int (ci3.toInt8.toInt32))] (.int (0 : Int32))) (O2 : Sta Z Z.heap "java/lang/String" "COMPACT_STRINGS" "Z" (.int G1)) (P5 : ¬ (G1 = (0 : Int32))) :
    own_CN l Z y3 jdk_42_method_152_code 1 (some .byte) [] R13_21 #[(.ref ra0)] h0 (Q13_21 Z ra0 ra1 kc2 ci3 G1 h0 n0) := by
  refine own_entryN (plainFor_of_name pn_0) fun p e s m below meth c s₁ hx hby hml hown hnm hret hlk hZ hh X0 e0 => ?_
  have N0 := Fr.nil n0
  rw [ef_13_21 m ra0]
  obtain ⟨T1, X1, e1, st1⟩ := getS2 X0 hx hZ hown (host := "") (Or.inl (own_w hw 25)) Via.refl e0 (O2.ext OLD.2) (g := (mkF m 0 #[vR ra0] [])) rfl (hb hby d13_0)
  refine og T1 (mkF m 3 #[vR ra0] [(.int G1)]) st1 ?_
  refine og T1 (mkF m 7 #[vR ra0] [(.ref ra0)]) (fun _ k => XS.ifNo X1.here hx rfl (hb hby d13_3) rfl ((if0 _ _).trans (feq P5).1) (XS.aloadN X1.here hx rfl (hb hby d13_6) rfl rfl k)) ?_
  obtain ⟨T2, X2, e2, st2⟩ := getF X1 hx hZ hown (host := "") (Or.inl (own_w hw 37)) Via.refl e1 F_coder_ra0 (g := (mkF m 7 #[vR ra0] [(.ref ra0)])) rfl rfl (hb hby d13_7)
  refine og T2 (mkF m 10 #[vR ra0] [(.int (0 : Int32))]) st2 ?_
  refine og T2 (mkF m 14 #[vR ra0] [(.int (0 : Int32))]) (fun _ k => XS.goto X2.here hx rfl (pc0 := 10) (pc' := 14) rfl (hb hby d13_10) (by decide) (by decide) k) ?_
  exact own_leaveN X2 hlk (v := some (.int (nar .byte (0 : Int32)))) (fun h => by rw [hret] at h; cases h) (lb rfl) (lb rfl) (by rw [e2]; exact ⟨rfl, N0, rfl⟩) (fun fs hr => retN X2 hx (t := .byte) hret (by simp) (hb hby d13_14) hr)
abbrev R18_23 : Room := { frames := 0, cells := 0, slots := 0, locals := 0 }
def Q18_23 (Z : State) (pi0 : Int32) (pi1 : Int32) (h0 : Heap) (n0 : Nat) (v : Option Value) (h : Heap) (L : List Loc) : Prop := (v = some (.int (own_ic pi0 pi1)) ∧ Fr n0 L ∧ h = h0)
theorem rm18_23 (l : Launch) (Z : State) (a0 : Array Value) (hw : HW Z a0) (pi0 : Int32) (pi1 : Int32) (h0 : Heap) (n0 : Nat) (OLD : Old Z n0 h0) :
    own_CN l Z y8 jdk_116_method_22_code 3 (some .boolean) [] R18_23 #[(.int pi0), (.int pi1)] h0 (Q18_23 Z pi0 pi1 h0 n0) := by
  refine own_entryN (plainFor_of_name pn_3) fun p e s m below meth c s₁ hx hby hml hown hnm hret hlk hZ hh X0 e0 => ?_
  have N0 := Fr.nil n0
  rw [ef_18_23 m pi0 pi1]
  refine og s₁ (mkF m 2 #[vI pi0, vI pi1, vU] [(.int pi1), (.int pi0)]) (fun _ k => XS.iloadN X0.here hx rfl (hb hby d18_0) rfl (XS.iloadN X0.here hx rfl (hb hby d18_1) rfl k)) ?_
  by_cases hc1 : pi0 = pi1
  · refine og s₁ (mkF m 6 #[vI pi0, vI pi1, vU] [(.int (1 : Int32))]) (fun _ k => XS.icmpNo X0.here hx rfl (hb hby d18_2) rfl (teq hc1).2 (XS.iconst X0.here hx rfl (hb hby d18_5) k)) ?_
    exact own_leaveN X0 hlk (v := some (.int (nar .boolean (1 : Int32)))) (fun h => by rw [hret] at h; cases h) (lb rfl) (lb rfl) (by rw [e0]; exact ⟨(by show some (Value.int (1 : Int32)) = _; first | (simp only [own_ic, *, if_true, if_false, ite_true, ite_false, not_false_eq_true]; done) | (simp [own_ic, *]; done) | (simp only [own_ic]; (repeat (first | rw [if_pos (by assumption)] | rw [if_neg (by assumption)])) <;> rfl)), N0, rfl⟩) (fun fs hr => retN X0 hx (t := .boolean) hret (by simp) (hb hby d18_6) hr)
  · refine og s₁ (mkF m 16 #[vI pi0, vI pi1, vI (pi0 &&& (223 : Int32))] [(.int (65 : Int32)), (.int (pi0 &&& (223 : Int32)))]) (fun _ k => XS.icmpYes X0.here hx rfl (pc0 := 2) (pc' := 7) rfl (hb hby d18_2) rfl (feq hc1).2 (by decide) (by decide) (XS.iloadN X0.here hx rfl (hb hby d18_7) rfl (XS.sipush X0.here hx rfl (hb hby d18_8) (XS.iand X0.here hx rfl (hb hby d18_11) rfl (XS.istoreN X0.here hx rfl (hb hby d18_12) rfl (l' := #[vI pi0, vI pi1, vI (pi0 &&& (223 : Int32))]) rfl (XS.iloadN X0.here hx rfl (hb hby d18_13) rfl (XS.bipush X0.here hx rfl (hb hby d18_14) k))))))) ?_
    by_cases hc2 : (pi0 &&& (223 : Int32)) < (65 : Int32)
    · refine og s₁ (mkF m 20 #[vI pi0, vI pi1, vI (pi0 &&& (223 : Int32))] [(.int (0 : Int32))]) (fun _ k => XS.icmpNo X0.here hx rfl (hb hby d18_16) rfl (tlt hc2).2.1 (XS.iconst X0.here hx rfl (hb hby d18_19) k)) ?_
      exact own_leaveN X0 hlk (v := some (.int (nar .boolean (0 : Int32)))) (fun h => by rw [hret] at h; cases h) (lb rfl) (lb rfl) (by rw [e0]; exact ⟨(by show some (Value.int (0 : Int32)) = _; first | (simp only [own_ic, *, if_true, if_false, ite_true, ite_false, not_false_eq_true]; done) | (simp [own_ic, *]; done) | (simp only [own_ic]; (repeat (first | rw [if_pos (by assumption)] | rw [if_neg (by assumption)])) <;> rfl)), N0, rfl⟩) (fun fs hr => retN X0 hx (t := .boolean) hret (by simp) (hb hby d18_20) hr)
    · refine og s₁ (mkF m 24 #[vI pi0, vI pi1, vI (pi0 &&& (223 : Int32))] [(.int (90 : Int32)), (.int (pi0 &&& (223 : Int32)))]) (fun _ k => XS.icmpYes X0.here hx rfl (pc0 := 16) (pc' := 21) rfl (hb hby d18_16) rfl (flt hc2).2.1 (by decide) (by decide) (XS.iloadN X0.here hx rfl (hb hby d18_21) rfl (XS.bipush X0.here hx rfl (hb hby d18_22) k))) ?_
      by_cases hc3 : (90 : Int32) < (pi0 &&& (223 : Int32))
      · refine og s₁ (mkF m 31 #[vI pi0, vI pi1, vI (pi0 &&& (223 : Int32))] [(.int (192 : Int32)), (.int (pi0 &&& (223 : Int32)))]) (fun _ k => XS.icmpNo X0.here hx rfl (hb hby d18_24) rfl (tlt hc3).2.2.2 (XS.iloadN X0.here hx rfl (hb hby d18_27) rfl (XS.sipush X0.here hx rfl (hb hby d18_28) k))) ?_
        by_cases hc4 : (pi0 &&& (223 : Int32)) < (192 : Int32)
        · refine og s₁ (mkF m 62 #[vI pi0, vI pi1, vI (pi0 &&& (223 : Int32))] [(.int (0 : Int32))]) (fun _ k => XS.icmpYes X0.here hx rfl (pc0 := 31) (pc' := 61) rfl (hb hby d18_31) rfl (tlt hc4).1 (by decide) (by decide) (XS.iconst X0.here hx rfl (hb hby d18_61) k)) ?_
          exact own_leaveN X0 hlk (v := some (.int (nar .boolean (0 : Int32)))) (fun h => by rw [hret] at h; cases h) (lb rfl) (lb rfl) (by rw [e0]; exact ⟨(by show some (Value.int (0 : Int32)) = _; first | (simp only [own_ic, *, if_true, if_false, ite_true, ite_false, not_false_eq_true]; done) | (simp [own_ic, *]; done) | (simp only [own_ic]; (repeat (first | rw [if_pos (by assumption)] | rw [if_neg (by assumption)])) <;> rfl)), N0, rfl⟩) (fun fs hr => retN X0 hx (t := .boolean) hret (by simp) (hb hby d18_62) hr)
        · refine og s₁ (mkF m 38 #[vI pi0, vI pi1, vI (pi0 &&& (223 : Int32))] [(.int (222 : Int32)), (.int (pi0 &&& (223 : Int32)))]) (fun _ k => XS.icmpNo X0.here hx rfl (hb hby d18_31) rfl (flt hc4).1 (XS.iloadN X0.here hx rfl (hb hby d18_34) rfl (XS.sipush X0.here hx rfl (hb hby d18_35) k))) ?_
          by_cases hc5 : (222 : Int32) < (pi0 &&& (223 : Int32))
          · refine og s₁ (mkF m 62 #[vI pi0, vI pi1, vI (pi0 &&& (223 : Int32))] [(.int (0 : Int32))]) (fun _ k => XS.icmpYes X0.here hx rfl (pc0 := 38) (pc' := 61) rfl (hb hby d18_38) rfl (tlt hc5).2.2.1 (by decide) (by decide) (XS.iconst X0.here hx rfl (hb hby d18_61) k)) ?_
            exact own_leaveN X0 hlk (v := some (.int (nar .boolean (0 : Int32)))) (fun h => by rw [hret] at h; cases h) (lb rfl) (lb rfl) (by rw [e0]; exact ⟨(by show some (Value.int (0 : Int32)) = _; first | (simp only [own_ic, *, if_true, if_false, ite_true, ite_false, not_false_eq_true]; done) | (simp [own_ic, *]; done) | (simp only [own_ic]; (repeat (first | rw [if_pos (by assumption)] | rw [if_neg (by assumption)])) <;> rfl)), N0, rfl⟩) (fun fs hr => retN X0 hx (t := .boolean) hret (by simp) (hb hby d18_62) hr)
          · refine og s₁ (mkF m 45 #[vI pi0, vI pi1, vI (pi0 &&& (223 : Int32))] [(.int (215 : Int32)), (.int (pi0 &&& (223 : Int32)))]) (fun _ k => XS.icmpNo X0.here hx rfl (hb hby d18_38) rfl (flt hc5).2.2.1 (XS.iloadN X0.here hx rfl (hb hby d18_41) rfl (XS.sipush X0.here hx rfl (hb hby d18_42) k))) ?_
            by_cases hc6 : (pi0 &&& (223 : Int32)) = (215 : Int32)
            · refine og s₁ (mkF m 62 #[vI pi0, vI pi1, vI (pi0 &&& (223 : Int32))] [(.int (0 : Int32))]) (fun _ k => XS.icmpYes X0.here hx rfl (pc0 := 45) (pc' := 61) rfl (hb hby d18_45) rfl (teq hc6).1 (by decide) (by decide) (XS.iconst X0.here hx rfl (hb hby d18_61) k)) ?_
              exact own_leaveN X0 hlk (v := some (.int (nar .boolean (0 : Int32)))) (fun h => by rw [hret] at h; cases h) (lb rfl) (lb rfl) (by rw [e0]; exact ⟨(by show some (Value.int (0 : Int32)) = _; first | (simp only [own_ic, *, if_true, if_false, ite_true, ite_false, not_false_eq_true]; done) | (simp [own_ic, *]; done) | (simp only [own_ic]; (repeat (first | rw [if_pos (by assumption)] | rw [if_neg (by assumption)])) <;> rfl)), N0, rfl⟩) (fun fs hr => retN X0 hx (t := .boolean) hret (by simp) (hb hby d18_62) hr)
            · refine og s₁ (mkF m 54 #[vI pi0, vI pi1, vI (pi0 &&& (223 : Int32))] [(.int (pi1 &&& (223 : Int32))), (.int (pi0 &&& (223 : Int32)))]) (fun _ k => XS.icmpNo X0.here hx rfl (hb hby d18_45) rfl (feq hc6).1 (XS.iloadN X0.here hx rfl (hb hby d18_48) rfl (XS.iloadN X0.here hx rfl (hb hby d18_49) rfl (XS.sipush X0.here hx rfl (hb hby d18_50) (XS.iand X0.here hx rfl (hb hby d18_53) rfl k))))) ?_
              by_cases hc7 : (pi0 &&& (223 : Int32)) = (pi1 &&& (223 : Int32))
              · refine og s₁ (mkF m 62 #[vI pi0, vI pi1, vI (pi0 &&& (223 : Int32))] [(.int (1 : Int32))]) (fun _ k => XS.icmpNo X0.here hx rfl (hb hby d18_54) rfl (teq hc7).2 (XS.iconst X0.here hx rfl (hb hby d18_57) (XS.goto X0.here hx rfl (pc0 := 58) (pc' := 62) rfl (hb hby d18_58) (by decide) (by decide) k))) ?_
                exact own_leaveN X0 hlk (v := some (.int (nar .boolean (1 : Int32)))) (fun h => by rw [hret] at h; cases h) (lb rfl) (lb rfl) (by rw [e0]; exact ⟨(by show some (Value.int (1 : Int32)) = _; first | (simp only [own_ic, *, if_true, if_false, ite_true, ite_false, not_false_eq_true]; done) | (simp [own_ic, *]; done) | (simp only [own_ic]; (repeat (first | rw [if_pos (by assumption)] | rw [if_neg (by assumption)])) <;> rfl)), N0, rfl⟩) (fun fs hr => retN X0 hx (t := .boolean) hret (by simp) (hb hby d18_62) hr)
              · refine og s₁ (mkF m 62 #[vI pi0, vI pi1, vI (pi0 &&& (223 : Int32))] [(.int (0 : Int32))]) (fun _ k => XS.icmpYes X0.here hx rfl (pc0 := 54) (pc' := 61) rfl (hb hby d18_54) rfl (feq hc7).2 (by decide) (by decide) (XS.iconst X0.here hx rfl (hb hby d18_61) k)) ?_
                exact own_leaveN X0 hlk (v := some (.int (nar .boolean (0 : Int32)))) (fun h => by rw [hret] at h; cases h) (lb rfl) (lb rfl) (by rw [e0]; exact ⟨(by show some (Value.int (0 : Int32)) = _; first | (simp only [own_ic, *, if_true, if_false, ite_true, ite_false, not_false_eq_true]; done) | (simp [own_ic, *]; done) | (simp only [own_ic]; (repeat (first | rw [if_pos (by assumption)] | rw [if_neg (by assumption)])) <;> rfl)), N0, rfl⟩) (fun fs hr => retN X0 hx (t := .boolean) hret (by simp) (hb hby d18_62) hr)
      · refine og s₁ (mkF m 54 #[vI pi0, vI pi1, vI (pi0 &&& (223 : Int32))] [(.int (pi1 &&& (223 : Int32))), (.int (pi0 &&& (223 : Int32)))]) (fun _ k => XS.icmpYes X0.here hx rfl (pc0 := 24) (pc' := 48) rfl (hb hby d18_24) rfl (flt hc3).2.2.2 (by decide) (by decide) (XS.iloadN X0.here hx rfl (hb hby d18_48) rfl (XS.iloadN X0.here hx rfl (hb hby d18_49) rfl (XS.sipush X0.here hx rfl (hb hby d18_50) (XS.iand X0.here hx rfl (hb hby d18_53) rfl k))))) ?_
        by_cases hc8 : (pi0 &&& (223 : Int32)) = (pi1 &&& (223 : Int32))
        · refine og s₁ (mkF m 62 #[vI pi0, vI pi1, vI (pi0 &&& (223 : Int32))] [(.int (1 : Int32))]) (fun _ k => XS.icmpNo X0.here hx rfl (hb hby d18_54) rfl (teq hc8).2 (XS.iconst X0.here hx rfl (hb hby d18_57) (XS.goto X0.here hx rfl (pc0 := 58) (pc' := 62) rfl (hb hby d18_58) (by decide) (by decide) k))) ?_
          exact own_leaveN X0 hlk (v := some (.int (nar .boolean (1 : Int32)))) (fun h => by rw [hret] at h; cases h) (lb rfl) (lb rfl) (by rw [e0]; exact ⟨(by show some (Value.int (1 : Int32)) = _; first | (simp only [own_ic, *, if_true, if_false, ite_true, ite_false, not_false_eq_true]; done) | (simp [own_ic, *]; done) | (simp only [own_ic]; (repeat (first | rw [if_pos (by assumption)] | rw [if_neg (by assumption)])) <;> rfl)), N0, rfl⟩) (fun fs hr => retN X0 hx (t := .boolean) hret (by simp) (hb hby d18_62) hr)
        · refine og s₁ (mkF m 62 #[vI pi0, vI pi1, vI (pi0 &&& (223 : Int32))] [(.int (0 : Int32))]) (fun _ k => XS.icmpYes X0.here hx rfl (pc0 := 54) (pc' := 61) rfl (hb hby d18_54) rfl (feq hc8).2 (by decide) (by decide) (XS.iconst X0.here hx rfl (hb hby d18_61) k)) ?_
          exact own_leaveN X0 hlk (v := some (.int (nar .boolean (0 : Int32)))) (fun h => by rw [hret] at h; cases h) (lb rfl) (lb rfl) (by rw [e0]; exact ⟨(by show some (Value.int (0 : Int32)) = _; first | (simp only [own_ic, *, if_true, if_false, ite_true, ite_false, not_false_eq_true]; done) | (simp [own_ic, *]; done) | (simp only [own_ic]; (repeat (first | rw [if_pos (by assumption)] | rw [if_neg (by assumption)])) <;> rfl)), N0, rfl⟩) (fun fs hr => retN X0 hx (t := .boolean) hret (by simp) (hb hby d18_62) hr)
abbrev R17_22 : Room := { frames := 1, cells := 0, slots := 0, locals := 14 }
def Q17_22 (Z : State) (ra0 : Addr) (kc1 : ClassId) (ci2 : Int32) (ra3 : Addr) (kc4 : ClassId) (ci5 : Int32) (h0 : Heap) (n0 : Nat) (v : Option Value) (h : Heap) (L : List Loc) : Prop := (v = some (.int (own_ica [ci2] [ci5])) ∧ Fr n0 L ∧ h = h0)
theorem rm17_22 (l : Launch) (Z : State) (a0 : Array Value) (hw : HW Z a0) (ra0 : Addr) (kc1 : ClassId) (ci2 : Int32) (ra3 : Addr) (kc4 : ClassId) (ci5 : Int32) (h0 : Heap) (n0 : Nat) (OLD : Old Z n0 h0) (hl_ci2 : ¬ ci2 < 0 ∧ ¬ (255 : Int32) < ci2) (V_ra0 : Arv Z h0 ra0 kc1 .byte (1 : Int32) [(.int (ci2.toInt8.toInt32))] (.int (0 : Int32))) (hl_ci5 : ¬ ci5 < 0 ∧ ¬ (255 : Int32) < ci5) (V_ra3 : Arv Z h0 ra3 kc4 .byte (1 : Int32) [(.int (ci5.toInt8.toInt32))] (.int (0 : Int32))) :
    own_CN l Z y4 jdk_43_method_30_code 8 (some .boolean) [] R17_22 #[(.ref ra0), (.int (0 : Int32)), (.ref ra3), (.int (0 : Int32)), (.int (1 : Int32))] h0 (Q17_22 Z ra0 kc1 ci2 ra3 kc4 ci5 h0 n0) := by
  refine own_entryN (plainFor_of_name pn_1) fun p e s m below meth c s₁ hx hby hml hown hnm hret hlk hZ hh X0 e0 => ?_
  have N0 := Fr.nil n0
  rw [ef_17_22 m ra0 ra3]
  refine og s₁ (mkF m 17 #[vR ra0, vI (1 : Int32), vR ra3, vI (0 : Int32), vI (1 : Int32), vI (1 : Int32), vU, vU] [(.int (0 : Int32)), (.ref ra0)]) (fun _ k => XS.iloadN X0.here hx rfl (hb hby d17_0) rfl (XS.iload X0.here hx rfl (hb hby d17_1) rfl (XS.iadd X0.here hx rfl (hb hby d17_3) rfl (XS.istore X0.here hx rfl (hb hby d17_4) rfl (l' := #[vR ra0, vI (0 : Int32), vR ra3, vI (0 : Int32), vI (1 : Int32), vI (1 : Int32), vU, vU]) rfl (XS.iloadN X0.here hx rfl (hb hby d17_6) rfl (XS.iload X0.here hx rfl (hb hby d17_7) rfl (XS.icmpNo X0.here hx rfl (hb hby d17_9) rfl (tlt (by decide : (0 : Int32) < (1 : Int32))).2.1 (XS.aloadN X0.here hx rfl (hb hby d17_12) rfl rfl (XS.iloadN X0.here hx rfl (hb hby d17_13) rfl (XS.iinc X0.here hx rfl (hb hby d17_14) rfl (l' := #[vR ra0, vI (1 : Int32), vR ra3, vI (0 : Int32), vI (1 : Int32), vI (1 : Int32), vU, vU]) rfl k)))))))))) ?_
  obtain ⟨cl1, Ar1, qr1, Sr1, Nr1, Hr1, Gr1⟩ := id V_ra0
  have hi1 : ¬ ((0 : Int32) < 0 ∨ cl1.slots.size ≤ ((0 : Int32)).toNatClampNeg) := inb_of Sr1 ⟨by decide, by decide⟩
  refine og s₁ (mkF m 18 #[vR ra0, vI (1 : Int32), vR ra3, vI (0 : Int32), vI (1 : Int32), vI (1 : Int32), vU, vU] [(.int (ci2.toInt8.toInt32))]) (fun t k => X0.baloadBytes hx (j := (0 : Int32)) (v := (.int (ci2.toInt8.toInt32))) (by rw [e0]; exact Ar1.1) (State.isArrayOf_alike hZ.alike Ar1.2.1) Ar1.2.2 hi1 (Has.at Hr1 hi1 rfl) (g := (mkF m 17 #[vR ra0, vI (1 : Int32), vR ra3, vI (0 : Int32), vI (1 : Int32), vI (1 : Int32), vU, vU] [(.int (0 : Int32)), (.ref ra0)])) rfl rfl (hb hby d17_17) t k) ?_
  refine og s₁ (mkF m 25 #[vR ra0, vI (1 : Int32), vR ra3, vI (1 : Int32), vI (1 : Int32), vI (1 : Int32), vI (ci2.toInt8.toInt32), vU] [(.int (0 : Int32)), (.ref ra3)]) (fun _ k => XS.istore X0.here hx rfl (hb hby d17_18) rfl (l' := #[vR ra0, vI (1 : Int32), vR ra3, vI (0 : Int32), vI (1 : Int32), vI (1 : Int32), vI (ci2.toInt8.toInt32), vU]) rfl (XS.aloadN X0.here hx rfl (hb hby d17_20) rfl rfl (XS.iloadN X0.here hx rfl (hb hby d17_21) rfl (XS.iinc X0.here hx rfl (hb hby d17_22) rfl (l' := #[vR ra0, vI (1 : Int32), vR ra3, vI (1 : Int32), vI (1 : Int32), vI (1 : Int32), vI (ci2.toInt8.toInt32), vU]) rfl k)))) ?_
  obtain ⟨cl2, Ar2, qr2, Sr2, Nr2, Hr2, Gr2⟩ := id V_ra3
  have hi2 : ¬ ((0 : Int32) < 0 ∨ cl2.slots.size ≤ ((0 : Int32)).toNatClampNeg) := inb_of Sr2 ⟨by decide, by decide⟩
  refine og s₁ (mkF m 26 #[vR ra0, vI (1 : Int32), vR ra3, vI (1 : Int32), vI (1 : Int32), vI (1 : Int32), vI (ci2.toInt8.toInt32), vU] [(.int (ci5.toInt8.toInt32))]) (fun t k => X0.baloadBytes hx (j := (0 : Int32)) (v := (.int (ci5.toInt8.toInt32))) (by rw [e0]; exact Ar2.1) (State.isArrayOf_alike hZ.alike Ar2.2.1) Ar2.2.2 hi2 (Has.at Hr2 hi2 rfl) (g := (mkF m 25 #[vR ra0, vI (1 : Int32), vR ra3, vI (1 : Int32), vI (1 : Int32), vI (1 : Int32), vI (ci2.toInt8.toInt32), vU] [(.int (0 : Int32)), (.ref ra3)])) rfl rfl (hb hby d17_25) t k) ?_
  refine og s₁ (mkF m 32 #[vR ra0, vI (1 : Int32), vR ra3, vI (1 : Int32), vI (1 : Int32), vI (1 : Int32), vI (ci2.toInt8.toInt32), vI (ci5.toInt8.toInt32)] [(.int (ci5.toInt8.toInt32)), (.int (ci2.toInt8.toInt32))]) (fun _ k => XS.istore X0.here hx rfl (hb hby d17_26) rfl (l' := #[vR ra0, vI (1 : Int32), vR ra3, vI (1 : Int32), vI (1 : Int32), vI (1 : Int32), vI (ci2.toInt8.toInt32), vI (ci5.toInt8.toInt32)]) rfl (XS.iload X0.here hx rfl (hb hby d17_28) rfl (XS.iload X0.here hx rfl (hb hby d17_30) rfl k))) ?_
  obtain ⟨_, _, ⟨T3, L3, k3, n3⟩, -, X3, ⟨Lc3, hQ3, l3, y3, z3⟩, st3⟩ := Jvm.LawKit.callS X0 hx (y := y8) hown (mvT hZ (own_w hw 108)) (mvT hZ (own_w hw 109)) (mvT hZ (own_w hw 110)) (mvT hZ (own_w hw 111)) (by decide) (backOf (W := 0) (rm18_23 l Z a0 hw ((ci2.toInt8.toInt32)) ((ci5.toInt8.toInt32)) h0 n0 OLD ) hZ (own_w hw 111) (own_w hw 110) (lb rfl) (lb rfl)) (g := (mkF m 32 #[vR ra0, vI (1 : Int32), vR ra3, vI (1 : Int32), vI (1 : Int32), vI (1 : Int32), vI (ci2.toInt8.toInt32), vI (ci5.toInt8.toInt32)] [(.int (ci5.toInt8.toInt32)), (.int (ci2.toInt8.toInt32))])) rfl (by rw [hml]; rfl) (argsL := [(.int (ci2.toInt8.toInt32)), (.int (ci5.toInt8.toInt32))]) (rest := []) (lenOf pd_6 rfl) rfl (lb rfl) (hb hby d17_32) (fun _ _ => ⟨rfl, e0, (lb rfl), (lb rfl)⟩)
  dsimp only [Pt.U, Pt.locs, Pt.cells, Pt.slots] at X3 l3 y3 z3 st3 hQ3
  subst l3 y3 z3
  obtain ⟨rfl, Nq3, eq3⟩ := hQ3
  have N3 := Fr.app N0 Nq3
  refine og T3 (mkF m 35 #[vR ra0, vI (1 : Int32), vR ra3, vI (1 : Int32), vI (1 : Int32), vI (1 : Int32), vI (ci2.toInt8.toInt32), vI (ci5.toInt8.toInt32)] [(.int (own_ic (ci2.toInt8.toInt32) (ci5.toInt8.toInt32)))]) st3 ?_
  rw [own_icq hl_ci2 hl_ci5]
  by_cases hc4 : (own_eqv ci2 ci5) = (0 : Int32)
  · refine og T3 (mkF m 42 #[vR ra0, vI (1 : Int32), vR ra3, vI (1 : Int32), vI (1 : Int32), vI (1 : Int32), vI (ci2.toInt8.toInt32), vI (ci5.toInt8.toInt32)] [(.int (0 : Int32))]) (fun _ k => XS.ifYes X3.here hx rfl (pc0 := 35) (pc' := 41) rfl (hb hby d17_35) rfl ((if0 _ _).trans (teq hc4).1) (by decide) (by decide) (XS.iconst X3.here hx rfl (hb hby d17_41) k)) ?_
    exact own_leaveN X3 hlk (v := some (.int (nar .boolean (0 : Int32)))) (fun h => by rw [hret] at h; cases h) (lb rfl) (lb rfl) (by rw [eq3]; exact ⟨(by show some (Value.int (0 : Int32)) = _; first | rfl | (simp [own_ica, hc4]; done)), N3, rfl⟩) (fun fs hr => retN X3 hx (t := .boolean) hret (by simp) (hb hby d17_42) hr)
  · refine og T3 (mkF m 44 #[vR ra0, vI (1 : Int32), vR ra3, vI (1 : Int32), vI (1 : Int32), vI (1 : Int32), vI (ci2.toInt8.toInt32), vI (ci5.toInt8.toInt32)] [(.int (1 : Int32))]) (fun _ k => XS.ifNo X3.here hx rfl (hb hby d17_35) rfl ((if0 _ _).trans (feq hc4).1) (XS.goto X3.here hx rfl (pc0 := 38) (pc' := 6) rfl (hb hby d17_38) (by decide) (by decide) (XS.iloadN X3.here hx rfl (hb hby d17_6) rfl (XS.iload X3.here hx rfl (hb hby d17_7) rfl (XS.icmpYes X3.here hx rfl (pc0 := 9) (pc' := 43) rfl (hb hby d17_9) rfl (flt (by decide : ¬ ((1 : Int32) < (1 : Int32)))).2.1 (by decide) (by decide) (XS.iconst X3.here hx rfl (hb hby d17_43) k)))))) ?_
    exact own_leaveN X3 hlk (v := some (.int (nar .boolean (1 : Int32)))) (fun h => by rw [hret] at h; cases h) (lb rfl) (lb rfl) (by rw [eq3]; exact ⟨(by show some (Value.int (1 : Int32)) = _; first | rfl | (simp [own_ica, hc4]; done)), N3, rfl⟩) (fun fs hr => retN X3 hx (t := .boolean) hret (by simp) (hb hby d17_44) hr)
abbrev R16_20 : Room := { frames := 2, cells := 0, slots := 0, locals := 33 }
def Q16_20 (Z : State) (ra0 : Addr) (ra1 : Addr) (kc2 : ClassId) (ci3 : Int32) (ra4 : Addr) (ra5 : Addr) (kc6 : ClassId) (ci7 : Int32) (G1 : Int32) (h0 : Heap) (n0 : Nat) (v : Option Value) (h : Heap) (L : List Loc) : Prop := (v = some (.int (own_ica [ci3] [ci7])) ∧ Fr n0 L ∧ h = h0)
theorem rm16_20 (l : Launch) (Z : State) (a0 : Array Value) (hw : HW Z a0) (ra0 : Addr) (ra1 : Addr) (kc2 : ClassId) (ci3 : Int32) (ra4 : Addr) (ra5 : Addr) (kc6 : ClassId) (ci7 : Int32) (G1 : Int32) (h0 : Heap) (n0 : Nat) (OLD : Old Z n0 h0) (E_ra0 : Exa Z h0 ra0 "java/lang/String") (F_coder_ra0 : Fld Z h0 ra0 "java/lang/String" "coder" "B" (.int (0 : Int32))) (F_value_ra0 : Fld Z h0 ra0 "java/lang/String" "value" "[B" (.ref ra1)) (hl_ci3 : ¬ ci3 < 0 ∧ ¬ (255 : Int32) < ci3) (V_ra1 : Arv Z h0 ra1 kc2 .byte (1 : Int32) [(.int (ci3.toInt8.toInt32))] (.int (0 : Int32))) (E_ra4 : Exa Z h0 ra4 "java/lang/String") (F_coder_ra4 : Fld Z h0 ra4 "java/lang/String" "coder" "B" (.int (0 : Int32))) (F_value_ra4 : Fld Z h0 ra4 "java/lang/String" "value" "[B" (.ref ra5)) (hl_ci7 : ¬ ci7 < 0 ∧ ¬ (255 : Int32) < ci7) (V_ra5 : Arv Z h0 ra5 kc6 .byte (1 : Int32) [(.int (ci7.toInt8.toInt32))] (.int (0 : Int32))) (O2 : Sta Z Z.heap "java/lang/String" "COMPACT_STRINGS" "Z" (.int G1)) (P5 : ¬ (G1 = (0 : Int32))) :
    own_CN l Z y5 jdk_42_method_74_code 9 (some .boolean) [] R16_20 #[(.ref ra0), (.int (1 : Int32)), (.int (0 : Int32)), (.ref ra4), (.int (0 : Int32)), (.int (1 : Int32))] h0 (Q16_20 Z ra0 ra1 kc2 ci3 ra4 ra5 kc6 ci7 G1 h0 n0) := by
  refine own_entryN (plainFor_of_name pn_0) fun p e s m below meth c s₁ hx hby hml hown hnm hret hlk hZ hh X0 e0 => ?_
  have N0 := Fr.nil n0
  rw [ef_16_20 m ra0 ra4]
  refine og s₁ (mkF m 27 #[vR ra0, vI (1 : Int32), vI (0 : Int32), vR ra4, vI (0 : Int32), vI (1 : Int32), vU, vU, vU] [(.ref ra0), (.long (0 : Int64))]) (fun _ k => XS.iloadN X0.here hx rfl (hb hby d16_0) rfl (XS.ifYes X0.here hx rfl (pc0 := 1) (pc' := 15) rfl (hb hby d16_1) rfl ((if0 _ _).trans (feq (by decide : ¬ ((1 : Int32) = (0 : Int32)))).2) (by decide) (by decide) (XS.iload X0.here hx rfl (hb hby d16_15) rfl (XS.ifNo X0.here hx rfl (hb hby d16_17) rfl ((if0 _ _).trans (flt (by decide : ¬ ((0 : Int32) < (0 : Int32)))).1) (XS.iloadN X0.here hx rfl (hb hby d16_20) rfl (XS.ifNo X0.here hx rfl (hb hby d16_21) rfl ((if0 _ _).trans (flt (by decide : ¬ ((0 : Int32) < (0 : Int32)))).1) (XS.iloadN X0.here hx rfl (hb hby d16_24) rfl (XS.i2l X0.here hx rfl (hb hby d16_25) rfl (XS.aloadN X0.here hx rfl (hb hby d16_26) rfl rfl k))))))))) ?_
  have hp1 : ∀ c ∈ ([ci3] : List Int32), ¬ c < 0 ∧ ¬ (255 : Int32) < c := by
    intro c hc
    simp only [List.mem_cons, List.not_mem_nil, or_false] at hc
    rcases hc with rfl
    · exact hl_ci3
  obtain ⟨cq2, kq2, q2a, q2b, q2c⟩ := isOf hZ e0 E_ra0
  obtain ⟨_, _, ⟨T2, L2, k2, n2⟩, -, X2, ⟨Lc2, hQ2, l2, y2, z2⟩, st2⟩ := X0.virtualBack hx (y := y2) (z := y2) hown (mvT hZ (own_w hw 70)) (mvT hZ (own_w hw 71)) (notFace_of_selects (args := #[]) (mvT hZ (own_w hw 73))) (mvT hZ (own_w hw 73)) (mvT hZ (own_w hw 72)) (by decide) (StrChars.Road.lenW (W := 2) hZ (own_hln hw) (kI := 4) (own_w hw 13) (cs := ([ci3] : List Int32)) E_ra0 F_value_ra0 F_coder_ra0 V_ra1 (StrChars.Road.codOf rfl (fun c hc => (hp1 c hc).2)) (own_up _ hp1) (O2.ext OLD.2) P5 (lb rfl) (lb rfl) (lb rfl)) q2a q2c (g := (mkF m 27 #[vR ra0, vI (1 : Int32), vI (0 : Int32), vR ra4, vI (0 : Int32), vI (1 : Int32), vU, vU, vU] [(.ref ra0), (.long (0 : Int64))])) rfl (by rw [hml]; rfl) (Steps.refl _) (argsL := []) (rest := [(.long (0 : Int64))]) (lenOf pd_1 rfl) rfl (lb rfl) (hb hby d16_27) (fun _ _ => ⟨rfl, e0, (lb rfl), (lb rfl)⟩)
  dsimp only [Pt.U, Pt.locs, Pt.cells, Pt.slots] at X2 l2 y2 z2 st2 hQ2
  subst l2 y2 z2
  obtain ⟨rfl, rfl, eq2⟩ := hQ2
  have N2 := Fr.app N0 (Fr.nil n0)
  refine ot T2 (mkF m 30 #[vR ra0, vI (1 : Int32), vI (0 : Int32), vR ra4, vI (0 : Int32), vI (1 : Int32), vU, vU, vU] [(.int (1 : Int32)), (.long (0 : Int64))]) st2 ?_
  refine og T2 (mkF m 35 #[vR ra0, vI (1 : Int32), vI (0 : Int32), vR ra4, vI (0 : Int32), vI (1 : Int32), vU, vU, vU] [(.long (0 : Int64)), (.long (0 : Int64))]) (fun _ k => XS.i2l X2.here hx rfl (hb hby d16_30) rfl (XS.iload X2.here hx rfl (hb hby d16_31) rfl (XS.i2l X2.here hx rfl (hb hby d16_33) rfl (XS.lsub X2.here hx rfl (hb hby d16_34) rfl k)))) ?_
  refine og T2 (mkF m 36 #[vR ra0, vI (1 : Int32), vI (0 : Int32), vR ra4, vI (0 : Int32), vI (1 : Int32), vU, vU, vU] [(.int (0 : Int32))]) (fun _ k => XS.lcmp X2.here hx rfl (hb hby d16_35) rfl (by exact k)) ?_
  refine og T2 (mkF m 43 #[vR ra0, vI (1 : Int32), vI (0 : Int32), vR ra4, vI (0 : Int32), vI (1 : Int32), vU, vU, vU] [(.ref ra4), (.long (0 : Int64))]) (fun _ k => XS.ifNo X2.here hx rfl (hb hby d16_36) rfl ((if0 _ _).trans (flt (by decide : ¬ ((0 : Int32) < (0 : Int32)))).2.2.1) (XS.iload X2.here hx rfl (hb hby d16_39) rfl (XS.i2l X2.here hx rfl (hb hby d16_41) rfl (XS.aloadN X2.here hx rfl (hb hby d16_42) rfl rfl k)))) ?_
  have hp3 : ∀ c ∈ ([ci7] : List Int32), ¬ c < 0 ∧ ¬ (255 : Int32) < c := by
    intro c hc
    simp only [List.mem_cons, List.not_mem_nil, or_false] at hc
    rcases hc with rfl
    · exact hl_ci7
  obtain ⟨cq4, kq4, q4a, q4b, q4c⟩ := isOf hZ eq2 E_ra4
  obtain ⟨_, _, ⟨T4, L4, k4, n4⟩, -, X4, ⟨Lc4, hQ4, l4, y4, z4⟩, st4⟩ := X2.virtualBack hx (y := y2) (z := y2) hown (mvT hZ (own_w hw 70)) (mvT hZ (own_w hw 71)) (notFace_of_selects (args := #[]) (mvT hZ (own_w hw 73))) (mvT hZ (own_w hw 73)) (mvT hZ (own_w hw 72)) (by decide) (StrChars.Road.lenW (W := 2) hZ (own_hln hw) (kI := 4) (own_w hw 13) (cs := ([ci7] : List Int32)) E_ra4 F_value_ra4 F_coder_ra4 V_ra5 (StrChars.Road.codOf rfl (fun c hc => (hp3 c hc).2)) (own_up _ hp3) (O2.ext OLD.2) P5 (lb rfl) (lb rfl) (lb rfl)) q4a q4c (g := (mkF m 43 #[vR ra0, vI (1 : Int32), vI (0 : Int32), vR ra4, vI (0 : Int32), vI (1 : Int32), vU, vU, vU] [(.ref ra4), (.long (0 : Int64))])) rfl (by rw [hml]; rfl) (Steps.refl _) (argsL := []) (rest := [(.long (0 : Int64))]) (lenOf pd_1 rfl) rfl (lb rfl) (hb hby d16_43) (fun _ _ => ⟨rfl, eq2, (lb rfl), (lb rfl)⟩)
  dsimp only [Pt.U, Pt.locs, Pt.cells, Pt.slots] at X4 l4 y4 z4 st4 hQ4
  subst l4 y4 z4
  obtain ⟨rfl, rfl, eq4⟩ := hQ4
  have N4 := Fr.app N2 (Fr.nil n0)
  refine ot T4 (mkF m 46 #[vR ra0, vI (1 : Int32), vI (0 : Int32), vR ra4, vI (0 : Int32), vI (1 : Int32), vU, vU, vU] [(.int (1 : Int32)), (.long (0 : Int64))]) st4 ?_
  refine og T4 (mkF m 51 #[vR ra0, vI (1 : Int32), vI (0 : Int32), vR ra4, vI (0 : Int32), vI (1 : Int32), vU, vU, vU] [(.long (0 : Int64)), (.long (0 : Int64))]) (fun _ k => XS.i2l X4.here hx rfl (hb hby d16_46) rfl (XS.iload X4.here hx rfl (hb hby d16_47) rfl (XS.i2l X4.here hx rfl (hb hby d16_49) rfl (XS.lsub X4.here hx rfl (hb hby d16_50) rfl k)))) ?_
  refine og T4 (mkF m 52 #[vR ra0, vI (1 : Int32), vI (0 : Int32), vR ra4, vI (0 : Int32), vI (1 : Int32), vU, vU, vU] [(.int (0 : Int32))]) (fun _ k => XS.lcmp X4.here hx rfl (hb hby d16_51) rfl (by exact k)) ?_
  refine og T4 (mkF m 58 #[vR ra0, vI (1 : Int32), vI (0 : Int32), vR ra4, vI (0 : Int32), vI (1 : Int32), vU, vU, vU] [(.ref ra0)]) (fun _ k => XS.ifYes X4.here hx rfl (pc0 := 52) (pc' := 57) rfl (hb hby d16_52) rfl ((if0 _ _).trans (flt (by decide : ¬ ((0 : Int32) < (0 : Int32)))).2.2.2) (by decide) (by decide) (XS.aloadN X4.here hx rfl (hb hby d16_57) rfl rfl k)) ?_
  obtain ⟨T5, X5, e5, st5⟩ := getF X4 hx hZ hown (host := "") (Or.inl (own_w hw 39)) Via.refl eq4 F_value_ra0 (g := (mkF m 58 #[vR ra0, vI (1 : Int32), vI (0 : Int32), vR ra4, vI (0 : Int32), vI (1 : Int32), vU, vU, vU] [(.ref ra0)])) rfl rfl (hb hby d16_58)
  refine og T5 (mkF m 61 #[vR ra0, vI (1 : Int32), vI (0 : Int32), vR ra4, vI (0 : Int32), vI (1 : Int32), vU, vU, vU] [(.ref ra1)]) st5 ?_
  refine og T5 (mkF m 64 #[vR ra0, vI (1 : Int32), vI (0 : Int32), vR ra4, vI (0 : Int32), vI (1 : Int32), vR ra1, vU, vU] [(.ref ra4)]) (fun _ k => XS.astore X5.here hx rfl (hb hby d16_61) rfl rfl (l' := #[vR ra0, vI (1 : Int32), vI (0 : Int32), vR ra4, vI (0 : Int32), vI (1 : Int32), vR ra1, vU, vU]) rfl (XS.aloadN X5.here hx rfl (hb hby d16_63) rfl rfl k)) ?_
  obtain ⟨T6, X6, e6, st6⟩ := getF X5 hx hZ hown (host := "") (Or.inl (own_w hw 39)) Via.refl e5 F_value_ra4 (g := (mkF m 64 #[vR ra0, vI (1 : Int32), vI (0 : Int32), vR ra4, vI (0 : Int32), vI (1 : Int32), vR ra1, vU, vU] [(.ref ra4)])) rfl rfl (hb hby d16_64)
  refine og T6 (mkF m 67 #[vR ra0, vI (1 : Int32), vI (0 : Int32), vR ra4, vI (0 : Int32), vI (1 : Int32), vR ra1, vU, vU] [(.ref ra5)]) st6 ?_
  refine og T6 (mkF m 70 #[vR ra0, vI (1 : Int32), vI (0 : Int32), vR ra4, vI (0 : Int32), vI (1 : Int32), vR ra1, vR ra5, vU] [(.ref ra0)]) (fun _ k => XS.astore X6.here hx rfl (hb hby d16_67) rfl rfl (l' := #[vR ra0, vI (1 : Int32), vI (0 : Int32), vR ra4, vI (0 : Int32), vI (1 : Int32), vR ra1, vR ra5, vU]) rfl (XS.aloadN X6.here hx rfl (hb hby d16_69) rfl rfl k)) ?_
  obtain ⟨cq7, kq7, q7a, q7b, q7c⟩ := isOf hZ e6 E_ra0
  obtain ⟨_, _, ⟨T7, L7, k7, n7⟩, -, X7, ⟨Lc7, hQ7, l7, y7, z7⟩, st7⟩ := X6.virtualBack hx (y := y3) (z := y3) hown (mvT hZ (own_w hw 75)) (mvT hZ (own_w hw 76)) (notFace_of_selects (args := #[]) (mvT hZ (own_w hw 78))) (mvT hZ (own_w hw 78)) (mvT hZ (own_w hw 77)) (by decide) (backOf (W := 0) (rm13_21 l Z a0 hw ra0 ra1 kc2 ci3 G1 h0 n0 OLD E_ra0 F_coder_ra0 F_value_ra0 hl_ci3 V_ra1 O2 P5) hZ (own_w hw 79) (own_w hw 14) (lb rfl) (lb rfl)) q7a q7c (g := (mkF m 70 #[vR ra0, vI (1 : Int32), vI (0 : Int32), vR ra4, vI (0 : Int32), vI (1 : Int32), vR ra1, vR ra5, vU] [(.ref ra0)])) rfl (by rw [hml]; rfl) (Steps.refl _) (argsL := []) (rest := []) (lenOf pd_2 rfl) rfl (lb rfl) (hb hby d16_70) (fun _ _ => ⟨rfl, e6, (lb rfl), (lb rfl)⟩)
  dsimp only [Pt.U, Pt.locs, Pt.cells, Pt.slots] at X7 l7 y7 z7 st7 hQ7
  subst l7 y7 z7
  obtain ⟨rfl, Nq7, eq7⟩ := hQ7
  have N7 := Fr.app N4 Nq7
  refine ot T7 (mkF m 73 #[vR ra0, vI (1 : Int32), vI (0 : Int32), vR ra4, vI (0 : Int32), vI (1 : Int32), vR ra1, vR ra5, vU] [(.int (0 : Int32))]) st7 ?_
  refine og T7 (mkF m 78 #[vR ra0, vI (1 : Int32), vI (0 : Int32), vR ra4, vI (0 : Int32), vI (1 : Int32), vR ra1, vR ra5, vI (0 : Int32)] [(.ref ra4), (.int (0 : Int32))]) (fun _ k => XS.istore X7.here hx rfl (hb hby d16_73) rfl (l' := #[vR ra0, vI (1 : Int32), vI (0 : Int32), vR ra4, vI (0 : Int32), vI (1 : Int32), vR ra1, vR ra5, vI (0 : Int32)]) rfl (XS.iload X7.here hx rfl (hb hby d16_75) rfl (XS.aloadN X7.here hx rfl (hb hby d16_77) rfl rfl k))) ?_
  obtain ⟨cq8, kq8, q8a, q8b, q8c⟩ := isOf hZ eq7 E_ra4
  obtain ⟨_, _, ⟨T8, L8, k8, n8⟩, -, X8, ⟨Lc8, hQ8, l8, y8, z8⟩, st8⟩ := X7.virtualBack hx (y := y3) (z := y3) hown (mvT hZ (own_w hw 75)) (mvT hZ (own_w hw 76)) (notFace_of_selects (args := #[]) (mvT hZ (own_w hw 78))) (mvT hZ (own_w hw 78)) (mvT hZ (own_w hw 77)) (by decide) (backOf (W := 1) (rm13_21 l Z a0 hw ra4 ra5 kc6 ci7 G1 h0 n0 OLD E_ra4 F_coder_ra4 F_value_ra4 hl_ci7 V_ra5 O2 P5) hZ (own_w hw 79) (own_w hw 14) (lb rfl) (lb rfl)) q8a q8c (g := (mkF m 78 #[vR ra0, vI (1 : Int32), vI (0 : Int32), vR ra4, vI (0 : Int32), vI (1 : Int32), vR ra1, vR ra5, vI (0 : Int32)] [(.ref ra4), (.int (0 : Int32))])) rfl (by rw [hml]; rfl) (Steps.refl _) (argsL := []) (rest := [(.int (0 : Int32))]) (lenOf pd_2 rfl) rfl (lb rfl) (hb hby d16_78) (fun _ _ => ⟨rfl, eq7, (lb rfl), (lb rfl)⟩)
  dsimp only [Pt.U, Pt.locs, Pt.cells, Pt.slots] at X8 l8 y8 z8 st8 hQ8
  subst l8 y8 z8
  obtain ⟨rfl, Nq8, eq8⟩ := hQ8
  have N8 := Fr.app N7 Nq8
  refine ot T8 (mkF m 81 #[vR ra0, vI (1 : Int32), vI (0 : Int32), vR ra4, vI (0 : Int32), vI (1 : Int32), vR ra1, vR ra5, vI (0 : Int32)] [(.int (0 : Int32)), (.int (0 : Int32))]) st8 ?_
  refine og T8 (mkF m 98 #[vR ra0, vI (1 : Int32), vI (0 : Int32), vR ra4, vI (0 : Int32), vI (1 : Int32), vR ra1, vR ra5, vI (0 : Int32)] [(.int (1 : Int32)), (.int (0 : Int32)), (.ref ra5), (.int (0 : Int32)), (.ref ra1)]) (fun _ k => XS.icmpNo X8.here hx rfl (hb hby d16_81) rfl (teq (by decide : (0 : Int32) = (0 : Int32))).2 (XS.iload X8.here hx rfl (hb hby d16_84) rfl (XS.ifNo X8.here hx rfl (hb hby d16_86) rfl ((if0 _ _).trans (teq (by decide : (0 : Int32) = (0 : Int32))).2) (XS.aload X8.here hx rfl (hb hby d16_89) rfl rfl (XS.iloadN X8.here hx rfl (hb hby d16_91) rfl (XS.aload X8.here hx rfl (hb hby d16_92) rfl rfl (XS.iload X8.here hx rfl (hb hby d16_94) rfl (XS.iload X8.here hx rfl (hb hby d16_96) rfl k)))))))) ?_
  obtain ⟨_, _, ⟨T9, L9, k9, n9⟩, -, X9, ⟨Lc9, hQ9, l9, y9, z9⟩, st9⟩ := Jvm.LawKit.callS X8 hx (y := y4) hown (mvT hZ (own_w hw 104)) (mvT hZ (own_w hw 105)) (mvT hZ (own_w hw 106)) (mvT hZ (own_w hw 107)) (by decide) (backOf (W := 0) (rm17_22 l Z a0 hw ra1 kc2 ci3 ra5 kc6 ci7 h0 n0 OLD hl_ci3 V_ra1 hl_ci7 V_ra5) hZ (own_w hw 107) (own_w hw 106) (lb rfl) (lb rfl)) (g := (mkF m 98 #[vR ra0, vI (1 : Int32), vI (0 : Int32), vR ra4, vI (0 : Int32), vI (1 : Int32), vR ra1, vR ra5, vI (0 : Int32)] [(.int (1 : Int32)), (.int (0 : Int32)), (.ref ra5), (.int (0 : Int32)), (.ref ra1)])) rfl (by rw [hml]; rfl) (argsL := [(.ref ra1), (.int (0 : Int32)), (.ref ra5), (.int (0 : Int32)), (.int (1 : Int32))]) (rest := []) (lenOf pd_3 rfl) rfl (lb rfl) (hb hby d16_98) (fun _ _ => ⟨rfl, eq8, (lb rfl), (lb rfl)⟩)
  dsimp only [Pt.U, Pt.locs, Pt.cells, Pt.slots] at X9 l9 y9 z9 st9 hQ9
  subst l9 y9 z9
  obtain ⟨rfl, Nq9, eq9⟩ := hQ9
  have N9 := Fr.app N8 Nq9
  refine og T9 (mkF m 101 #[vR ra0, vI (1 : Int32), vI (0 : Int32), vR ra4, vI (0 : Int32), vI (1 : Int32), vR ra1, vR ra5, vI (0 : Int32)] [(.int (own_ica [ci3] [ci7]))]) st9 ?_
  refine og T9 (mkF m 116 #[vR ra0, vI (1 : Int32), vI (0 : Int32), vR ra4, vI (0 : Int32), vI (1 : Int32), vR ra1, vR ra5, vI (0 : Int32)] [(.int (own_ica [ci3] [ci7]))]) (fun _ k => XS.goto X9.here hx rfl (pc0 := 101) (pc' := 116) rfl (hb hby d16_101) (by decide) (by decide) k) ?_
  exact own_leaveN X9 hlk (v := some (.int (nar .boolean (own_ica [ci3] [ci7])))) (fun h => by rw [hret] at h; cases h) (lb rfl) (lb rfl) (by rw [eq9]; exact ⟨(by first | rfl | (exact congrArg (fun z => some (Value.int z)) (own_narb _ _)) | (simp [own_ica, own_narb, *]; done)), N9, rfl⟩) (fun fs hr => retN X9 hx (t := .boolean) hret (by simp) (hb hby d16_116) hr)
abbrev R11_19 : Room := { frames := 3, cells := 0, slots := 0, locals := 53 }
def Q11_19 (Z : State) (ra0 : Addr) (ra1 : Addr) (kc2 : ClassId) (ci3 : Int32) (ra4 : Addr) (ra5 : Addr) (kc6 : ClassId) (ci7 : Int32) (G1 : Int32) (h0 : Heap) (n0 : Nat) (v : Option Value) (h : Heap) (L : List Loc) : Prop := (v = some (.int (own_ica [ci3] [ci7])) ∧ Fr n0 L ∧ h = h0)
theorem rm11_19 (l : Launch) (Z : State) (a0 : Array Value) (hw : HW Z a0) (ra0 : Addr) (ra1 : Addr) (kc2 : ClassId) (ci3 : Int32) (ra4 : Addr) (ra5 : Addr) (kc6 : ClassId) (ci7 : Int32) (G1 : Int32) (h0 : Heap) (n0 : Nat) (OLD : Old Z n0 h0) (E_ra0 : Exa Z h0 ra0 "java/lang/String") (F_coder_ra0 : Fld Z h0 ra0 "java/lang/String" "coder" "B" (.int (0 : Int32))) (F_value_ra0 : Fld Z h0 ra0 "java/lang/String" "value" "[B" (.ref ra1)) (hl_ci3 : ¬ ci3 < 0 ∧ ¬ (255 : Int32) < ci3) (V_ra1 : Arv Z h0 ra1 kc2 .byte (1 : Int32) [(.int (ci3.toInt8.toInt32))] (.int (0 : Int32))) (E_ra4 : Exa Z h0 ra4 "java/lang/String") (F_coder_ra4 : Fld Z h0 ra4 "java/lang/String" "coder" "B" (.int (0 : Int32))) (F_value_ra4 : Fld Z h0 ra4 "java/lang/String" "value" "[B" (.ref ra5)) (hl_ci7 : ¬ ci7 < 0 ∧ ¬ (255 : Int32) < ci7) (V_ra5 : Arv Z h0 ra5 kc6 .byte (1 : Int32) [(.int (ci7.toInt8.toInt32))] (.int (0 : Int32))) (hk10 : ¬ (ra0 = ra4)) (O2 : Sta Z Z.heap "java/lang/String" "COMPACT_STRINGS" "Z" (.int G1)) (P5 : ¬ (G1 = (0 : Int32))) :
    own_CN l Z y6 jdk_42_method_70_code 2 (some .boolean) [] R11_19 #[(.ref ra0), (.ref ra4)] h0 (Q11_19 Z ra0 ra1 kc2 ci3 ra4 ra5 kc6 ci7 G1 h0 n0) := by
  refine own_entryN (plainFor_of_name pn_0) fun p e s m below meth c s₁ hx hby hml hown hnm hret hlk hZ hh X0 e0 => ?_
  have N0 := Fr.nil n0
  rw [ef_11_19 m ra0 ra4]
  refine og s₁ (mkF m 14 #[vR ra0, vR ra4] [(.ref ra4)]) (fun _ k => XS.aloadN X0.here hx rfl (hb hby d11_0) rfl rfl (XS.aloadN X0.here hx rfl (hb hby d11_1) rfl rfl (Jvm.RoadKit.acmp (g := (mkF m 2 #[vR ra0, vR ra4] [(.ref ra4), (.ref ra0)])) X0 hx rfl rfl rfl (pc0 := 2) (pc' := 9) (same := false) rfl (hb hby d11_2) rfl (decide_eq_false fun q => hk10 (Value.ref.inj q)) (by decide) (by decide) (XS.aloadN X0.here hx rfl (hb hby d11_9) rfl rfl (XS.ifnullNo X0.here hx rfl (hb hby d11_10) rfl (XS.aloadN X0.here hx rfl (hb hby d11_13) rfl rfl k)))))) ?_
  have hp1 : ∀ c ∈ ([ci7] : List Int32), ¬ c < 0 ∧ ¬ (255 : Int32) < c := by
    intro c hc
    simp only [List.mem_cons, List.not_mem_nil, or_false] at hc
    rcases hc with rfl
    · exact hl_ci7
  obtain ⟨cq2, kq2, q2a, q2b, q2c⟩ := isOf hZ e0 E_ra4
  obtain ⟨_, _, ⟨T2, L2, k2, n2⟩, -, X2, ⟨Lc2, hQ2, l2, y2, z2⟩, st2⟩ := X0.virtualBack hx (y := y2) (z := y2) hown (mvT hZ (own_w hw 70)) (mvT hZ (own_w hw 71)) (notFace_of_selects (args := #[]) (mvT hZ (own_w hw 73))) (mvT hZ (own_w hw 73)) (mvT hZ (own_w hw 72)) (by decide) (StrChars.Road.lenW (W := 0) hZ (own_hln hw) (kI := 4) (own_w hw 13) (cs := ([ci7] : List Int32)) E_ra4 F_value_ra4 F_coder_ra4 V_ra5 (StrChars.Road.codOf rfl (fun c hc => (hp1 c hc).2)) (own_up _ hp1) (O2.ext OLD.2) P5 (lb rfl) (lb rfl) (lb rfl)) q2a q2c (g := (mkF m 14 #[vR ra0, vR ra4] [(.ref ra4)])) rfl (by rw [hml]; rfl) (Steps.refl _) (argsL := []) (rest := []) (lenOf pd_1 rfl) rfl (lb rfl) (hb hby d11_14) (fun _ _ => ⟨rfl, e0, (lb rfl), (lb rfl)⟩)
  dsimp only [Pt.U, Pt.locs, Pt.cells, Pt.slots] at X2 l2 y2 z2 st2 hQ2
  subst l2 y2 z2
  obtain ⟨rfl, rfl, eq2⟩ := hQ2
  have N2 := Fr.app N0 (Fr.nil n0)
  refine ot T2 (mkF m 17 #[vR ra0, vR ra4] [(.int (1 : Int32))]) st2 ?_
  refine og T2 (mkF m 18 #[vR ra0, vR ra4] [(.ref ra0), (.int (1 : Int32))]) (fun _ k => XS.aloadN X2.here hx rfl (hb hby d11_17) rfl rfl k) ?_
  have hp3 : ∀ c ∈ ([ci3] : List Int32), ¬ c < 0 ∧ ¬ (255 : Int32) < c := by
    intro c hc
    simp only [List.mem_cons, List.not_mem_nil, or_false] at hc
    rcases hc with rfl
    · exact hl_ci3
  obtain ⟨cq4, kq4, q4a, q4b, q4c⟩ := isOf hZ eq2 E_ra0
  obtain ⟨_, _, ⟨T4, L4, k4, n4⟩, -, X4, ⟨Lc4, hQ4, l4, y4, z4⟩, st4⟩ := X2.virtualBack hx (y := y2) (z := y2) hown (mvT hZ (own_w hw 70)) (mvT hZ (own_w hw 71)) (notFace_of_selects (args := #[]) (mvT hZ (own_w hw 73))) (mvT hZ (own_w hw 73)) (mvT hZ (own_w hw 72)) (by decide) (StrChars.Road.lenW (W := 1) hZ (own_hln hw) (kI := 4) (own_w hw 13) (cs := ([ci3] : List Int32)) E_ra0 F_value_ra0 F_coder_ra0 V_ra1 (StrChars.Road.codOf rfl (fun c hc => (hp3 c hc).2)) (own_up _ hp3) (O2.ext OLD.2) P5 (lb rfl) (lb rfl) (lb rfl)) q4a q4c (g := (mkF m 18 #[vR ra0, vR ra4] [(.ref ra0), (.int (1 : Int32))])) rfl (by rw [hml]; rfl) (Steps.refl _) (argsL := []) (rest := [(.int (1 : Int32))]) (lenOf pd_1 rfl) rfl (lb rfl) (hb hby d11_18) (fun _ _ => ⟨rfl, eq2, (lb rfl), (lb rfl)⟩)
  dsimp only [Pt.U, Pt.locs, Pt.cells, Pt.slots] at X4 l4 y4 z4 st4 hQ4
  subst l4 y4 z4
  obtain ⟨rfl, rfl, eq4⟩ := hQ4
  have N4 := Fr.app N2 (Fr.nil n0)
  refine ot T4 (mkF m 21 #[vR ra0, vR ra4] [(.int (1 : Int32)), (.int (1 : Int32))]) st4 ?_
  refine og T4 (mkF m 30 #[vR ra0, vR ra4] [(.ref ra0), (.int (0 : Int32)), (.ref ra4), (.int (0 : Int32)), (.int (1 : Int32)), (.ref ra0)]) (fun _ k => XS.icmpNo X4.here hx rfl (hb hby d11_21) rfl (teq (by decide : (1 : Int32) = (1 : Int32))).2 (XS.aloadN X4.here hx rfl (hb hby d11_24) rfl rfl (XS.iconst X4.here hx rfl (hb hby d11_25) (XS.iconst X4.here hx rfl (hb hby d11_26) (XS.aloadN X4.here hx rfl (hb hby d11_27) rfl rfl (XS.iconst X4.here hx rfl (hb hby d11_28) (XS.aloadN X4.here hx rfl (hb hby d11_29) rfl rfl k))))))) ?_
  obtain ⟨cq5, kq5, q5a, q5b, q5c⟩ := isOf hZ eq4 E_ra0
  obtain ⟨_, _, ⟨T5, L5, k5, n5⟩, -, X5, ⟨Lc5, hQ5, l5, y5, z5⟩, st5⟩ := X4.virtualBack hx (y := y2) (z := y2) hown (mvT hZ (own_w hw 70)) (mvT hZ (own_w hw 71)) (notFace_of_selects (args := #[]) (mvT hZ (own_w hw 73))) (mvT hZ (own_w hw 73)) (mvT hZ (own_w hw 72)) (by decide) (StrChars.Road.lenW (W := 5) hZ (own_hln hw) (kI := 4) (own_w hw 13) (cs := ([ci3] : List Int32)) E_ra0 F_value_ra0 F_coder_ra0 V_ra1 (StrChars.Road.codOf rfl (fun c hc => (hp3 c hc).2)) (own_up _ hp3) (O2.ext OLD.2) P5 (lb rfl) (lb rfl) (lb rfl)) q5a q5c (g := (mkF m 30 #[vR ra0, vR ra4] [(.ref ra0), (.int (0 : Int32)), (.ref ra4), (.int (0 : Int32)), (.int (1 : Int32)), (.ref ra0)])) rfl (by rw [hml]; rfl) (Steps.refl _) (argsL := []) (rest := [(.int (0 : Int32)), (.ref ra4), (.int (0 : Int32)), (.int (1 : Int32)), (.ref ra0)]) (lenOf pd_1 rfl) rfl (lb rfl) (hb hby d11_30) (fun _ _ => ⟨rfl, eq4, (lb rfl), (lb rfl)⟩)
  dsimp only [Pt.U, Pt.locs, Pt.cells, Pt.slots] at X5 l5 y5 z5 st5 hQ5
  subst l5 y5 z5
  obtain ⟨rfl, rfl, eq5⟩ := hQ5
  have N5 := Fr.app N4 (Fr.nil n0)
  refine ot T5 (mkF m 33 #[vR ra0, vR ra4] [(.int (1 : Int32)), (.int (0 : Int32)), (.ref ra4), (.int (0 : Int32)), (.int (1 : Int32)), (.ref ra0)]) st5 ?_
  obtain ⟨cq6, kq6, q6a, q6b, q6c⟩ := isOf hZ eq5 E_ra0
  obtain ⟨_, _, ⟨T6, L6, k6, n6⟩, -, X6, ⟨Lc6, hQ6, l6, y6, z6⟩, st6⟩ := X5.virtualBack hx (y := y5) (z := y5) hown (mvT hZ (own_w hw 99)) (mvT hZ (own_w hw 100)) (notFace_of_selects (args := #[]) (mvT hZ (own_w hw 102))) (mvT hZ (own_w hw 102)) (mvT hZ (own_w hw 101)) (by decide) (backOf (W := 0) (rm16_20 l Z a0 hw ra0 ra1 kc2 ci3 ra4 ra5 kc6 ci7 G1 h0 n0 OLD E_ra0 F_coder_ra0 F_value_ra0 hl_ci3 V_ra1 E_ra4 F_coder_ra4 F_value_ra4 hl_ci7 V_ra5 O2 P5) hZ (own_w hw 103) (own_w hw 14) (lb rfl) (lb rfl)) q6a q6c (g := (mkF m 33 #[vR ra0, vR ra4] [(.int (1 : Int32)), (.int (0 : Int32)), (.ref ra4), (.int (0 : Int32)), (.int (1 : Int32)), (.ref ra0)])) rfl (by rw [hml]; rfl) (Steps.refl _) (argsL := [(.int (1 : Int32)), (.int (0 : Int32)), (.ref ra4), (.int (0 : Int32)), (.int (1 : Int32))]) (rest := []) (lenOf pd_4 rfl) rfl (lb rfl) (hb hby d11_33) (fun _ _ => ⟨rfl, eq5, (lb rfl), (lb rfl)⟩)
  dsimp only [Pt.U, Pt.locs, Pt.cells, Pt.slots] at X6 l6 y6 z6 st6 hQ6
  subst l6 y6 z6
  obtain ⟨rfl, Nq6, eq6⟩ := hQ6
  have N6 := Fr.app N5 Nq6
  refine ot T6 (mkF m 36 #[vR ra0, vR ra4] [(.int (own_ica [ci3] [ci7]))]) st6 ?_
  by_cases hc7 : (own_ica [ci3] [ci7]) = (0 : Int32)
  · refine og T6 (mkF m 44 #[vR ra0, vR ra4] [(.int (0 : Int32))]) (fun _ k => XS.ifYes X6.here hx rfl (pc0 := 36) (pc' := 43) rfl (hb hby d11_36) rfl ((if0 _ _).trans (teq hc7).1) (by decide) (by decide) (XS.iconst X6.here hx rfl (hb hby d11_43) k)) ?_
    exact own_leaveN X6 hlk (v := some (.int (nar .boolean (0 : Int32)))) (fun h => by rw [hret] at h; cases h) (lb rfl) (lb rfl) (by rw [eq6]; exact ⟨(by show some (Value.int (0 : Int32)) = _; exact congrArg (fun z => some (Value.int z)) (hc7).symm), N6, rfl⟩) (fun fs hr => retN X6 hx (t := .boolean) hret (by simp) (hb hby d11_44) hr)
  · refine og T6 (mkF m 44 #[vR ra0, vR ra4] [(.int (1 : Int32))]) (fun _ k => XS.ifNo X6.here hx rfl (hb hby d11_36) rfl ((if0 _ _).trans (feq hc7).1) (XS.iconst X6.here hx rfl (hb hby d11_39) (XS.goto X6.here hx rfl (pc0 := 40) (pc' := 44) rfl (hb hby d11_40) (by decide) (by decide) k))) ?_
    exact own_leaveN X6 hlk (v := some (.int (nar .boolean (1 : Int32)))) (fun h => by rw [hret] at h; cases h) (lb rfl) (lb rfl) (by rw [eq6]; exact ⟨(by show some (Value.int (1 : Int32)) = _; exact congrArg (fun z => some (Value.int z)) ((own_ica01 _ _).resolve_left hc7).symm), N6, rfl⟩) (fun fs hr => retN X6 hx (t := .boolean) hret (by simp) (hb hby d11_44) hr)
abbrev R10_18 : Room := { frames := 5, cells := 0, slots := 0, locals := 100 }
def Q10_18 (Z : State) (ra0 : Addr) (ra1 : Addr) (ra2 : Addr) (rt2 : Addr) (ra3 : Addr) (rt3 : Addr) (kc2 : ClassId) (kc3 : ClassId) (ca0 : Int32) (cb0 : Int32) (kw0 : Addr) (G1 : Int32) (kw5 : Addr) (h0 : Heap) (n0 : Nat) (v : Option Value) (h : Heap) (L : List Loc) : Prop := (v = some (.int (own_isv ra1 kw0 kw5 (own_ica [ca0] [cb0]))) ∧ Fr n0 L ∧ h = h0)
theorem rm10_18 (l : Launch) (Z : State) (a0 : Array Value) (hw : HW Z a0) (ra0 : Addr) (ra1 : Addr) (ra2 : Addr) (rt2 : Addr) (ra3 : Addr) (rt3 : Addr) (kc2 : ClassId) (kc3 : ClassId) (ca0 : Int32) (cb0 : Int32) (kw0 : Addr) (G1 : Int32) (kw5 : Addr) (h0 : Heap) (n0 : Nat) (OLD : Old Z n0 h0) (E_ra0 : Exa Z h0 ra0 "com/example/agave/agave/query/Tokens$Token") (F_kind_ra0 : Fld Z h0 ra0 "com/example/agave/agave/query/Tokens$Token" "kind" "Lcom/example/agave/agave/query/Tokens$Kind;" (.ref ra1)) (F_text_ra0 : Fld Z h0 ra0 "com/example/agave/agave/query/Tokens$Token" "text" "Ljava/lang/String;" (.ref ra2)) (E_ra2 : Exa Z h0 ra2 "java/lang/String") (F_coder_ra2 : Fld Z h0 ra2 "java/lang/String" "coder" "B" (.int (0 : Int32))) (F_value_ra2 : Fld Z h0 ra2 "java/lang/String" "value" "[B" (.ref rt2)) (V_rt2 : Arv Z h0 rt2 kc2 .byte (1 : Int32) [(.int (ca0.toInt8.toInt32))] (.int (0 : Int32))) (E_ra3 : Exa Z h0 ra3 "java/lang/String") (F_coder_ra3 : Fld Z h0 ra3 "java/lang/String" "coder" "B" (.int (0 : Int32))) (F_value_ra3 : Fld Z h0 ra3 "java/lang/String" "value" "[B" (.ref rt3)) (V_rt3 : Arv Z h0 rt3 kc3 .byte (1 : Int32) [(.int (cb0.toInt8.toInt32))] (.int (0 : Int32))) (hl_ca0 : ¬ ca0 < 0 ∧ ¬ (255 : Int32) < ca0) (hl_cb0 : ¬ cb0 < 0 ∧ ¬ (255 : Int32) < cb0) (hk13 : ¬ (ra2 = ra3)) (SK0 : Sta Z Z.heap "com/example/agave/agave/query/Tokens$Kind" "WORD" "Lcom/example/agave/agave/query/Tokens$Kind;" (.ref kw0)) (EK0 : Exa Z Z.heap kw0 "com/example/agave/agave/query/Tokens$Kind") (O2 : Sta Z Z.heap "java/lang/String" "COMPACT_STRINGS" "Z" (.int G1)) (P5 : ¬ (G1 = (0 : Int32))) (SK5 : Sta Z Z.heap "com/example/agave/agave/query/Tokens$Kind" "SYMBOL" "Lcom/example/agave/agave/query/Tokens$Kind;" (.ref kw5)) (EK5 : Exa Z Z.heap kw5 "com/example/agave/agave/query/Tokens$Kind") :
    own_CN l Z y7 prog_6_method_6_code 2 (some .boolean) [] R10_18 #[(.ref ra0), (.ref ra3)] h0 (Q10_18 Z ra0 ra1 ra2 rt2 ra3 rt3 kc2 kc3 ca0 cb0 kw0 G1 kw5 h0 n0) := by
  refine own_entryN (plainFor_of_name pn_2) fun p e s m below meth c s₁ hx hby hml hown hnm hret hlk hZ hh X0 e0 => ?_
  have N0 := Fr.nil n0
  rw [ef_10_18 m ra0 ra3]
  refine og s₁ (mkF m 1 #[vR ra0, vR ra3] [(.ref ra0)]) (fun _ k => XS.aloadN X0.here hx rfl (hb hby d10_0) rfl rfl k) ?_
  obtain ⟨T1, X1, e1, st1⟩ := getF X0 hx hZ hown (host := "") (Or.inl (own_w hw 51)) Via.refl e0 F_kind_ra0 (g := (mkF m 1 #[vR ra0, vR ra3] [(.ref ra0)])) rfl rfl (hb hby d10_1)
  refine og T1 (mkF m 4 #[vR ra0, vR ra3] [(.ref ra1)]) st1 ?_
  obtain ⟨T2, X2, e2, st2⟩ := getS2 X1 hx hZ hown (host := "") (Or.inl (own_w hw 64)) Via.refl e1 (SK0.ext OLD.2) (g := (mkF m 4 #[vR ra0, vR ra3] [(.ref ra1)])) rfl (hb hby d10_4)
  refine og T2 (mkF m 7 #[vR ra0, vR ra3] [(.ref kw0), (.ref ra1)]) st2 ?_
  by_cases hc3 : ra1 = kw0
  · refine og T2 (mkF m 21 #[vR ra0, vR ra3] [(.ref ra0)]) (fun _ k => Jvm.RoadKit.acmp (g := (mkF m 7 #[vR ra0, vR ra3] [(.ref kw0), (.ref ra1)])) X2 hx rfl rfl rfl (pc0 := 7) (pc' := 20) (same := true) rfl (hb hby d10_7) rfl (decide_eq_true (congrArg Value.ref hc3)) (by decide) (by decide) (XS.aloadN X2.here hx rfl (hb hby d10_20) rfl rfl k)) ?_
    obtain ⟨T4, X4, e4, st4⟩ := getF X2 hx hZ hown (host := "") (Or.inl (own_w hw 53)) Via.refl e2 F_text_ra0 (g := (mkF m 21 #[vR ra0, vR ra3] [(.ref ra0)])) rfl rfl (hb hby d10_21)
    refine og T4 (mkF m 24 #[vR ra0, vR ra3] [(.ref ra2)]) st4 ?_
    refine og T4 (mkF m 25 #[vR ra0, vR ra3] [(.ref ra3), (.ref ra2)]) (fun _ k => XS.aloadN X4.here hx rfl (hb hby d10_24) rfl rfl k) ?_
    obtain ⟨cq5, kq5, q5a, q5b, q5c⟩ := isOf hZ e4 E_ra2
    obtain ⟨_, _, ⟨T5, L5, k5, n5⟩, -, X5, ⟨Lc5, hQ5, l5, y5, z5⟩, st5⟩ := X4.virtualBack hx (y := y6) (z := y6) hown (mvT hZ (own_w hw 65)) (mvT hZ (own_w hw 66)) (notFace_of_selects (args := #[]) (mvT hZ (own_w hw 68))) (mvT hZ (own_w hw 68)) (mvT hZ (own_w hw 67)) (by decide) (backOf (W := 0) (rm11_19 l Z a0 hw ra2 rt2 kc2 ca0 ra3 rt3 kc3 cb0 G1 h0 n0 OLD E_ra2 F_coder_ra2 F_value_ra2 hl_ca0 V_rt2 E_ra3 F_coder_ra3 F_value_ra3 hl_cb0 V_rt3 hk13 O2 P5) hZ (own_w hw 69) (own_w hw 14) (lb rfl) (lb rfl)) q5a q5c (g := (mkF m 25 #[vR ra0, vR ra3] [(.ref ra3), (.ref ra2)])) rfl (by rw [hml]; rfl) (Steps.refl _) (argsL := [(.ref ra3)]) (rest := []) (lenOf pd_5 rfl) rfl (lb rfl) (hb hby d10_25) (fun _ _ => ⟨rfl, e4, (lb rfl), (lb rfl)⟩)
    dsimp only [Pt.U, Pt.locs, Pt.cells, Pt.slots] at X5 l5 y5 z5 st5 hQ5
    subst l5 y5 z5
    obtain ⟨rfl, Nq5, eq5⟩ := hQ5
    have N5 := Fr.app N0 Nq5
    refine ot T5 (mkF m 28 #[vR ra0, vR ra3] [(.int (own_ica [ca0] [cb0]))]) st5 ?_
    by_cases hc6 : (own_ica [ca0] [cb0]) = (0 : Int32)
    · refine og T5 (mkF m 36 #[vR ra0, vR ra3] [(.int (0 : Int32))]) (fun _ k => XS.ifYes X5.here hx rfl (pc0 := 28) (pc' := 35) rfl (hb hby d10_28) rfl ((if0 _ _).trans (teq hc6).1) (by decide) (by decide) (XS.iconst X5.here hx rfl (hb hby d10_35) k)) ?_
      exact own_leaveN X5 hlk (v := some (.int (nar .boolean (0 : Int32)))) (fun h => by rw [hret] at h; cases h) (lb rfl) (lb rfl) (by rw [eq5]; exact ⟨(by show some (Value.int (0 : Int32)) = _; exact congrArg (fun z => some (Value.int z)) (Eq.symm (Eq.trans (if_pos hc3) (hc6)))), N5, rfl⟩) (fun fs hr => retN X5 hx (t := .boolean) hret (by simp) (hb hby d10_36) hr)
    · refine og T5 (mkF m 36 #[vR ra0, vR ra3] [(.int (1 : Int32))]) (fun _ k => XS.ifNo X5.here hx rfl (hb hby d10_28) rfl ((if0 _ _).trans (feq hc6).1) (XS.iconst X5.here hx rfl (hb hby d10_31) (XS.goto X5.here hx rfl (pc0 := 32) (pc' := 36) rfl (hb hby d10_32) (by decide) (by decide) k))) ?_
      exact own_leaveN X5 hlk (v := some (.int (nar .boolean (1 : Int32)))) (fun h => by rw [hret] at h; cases h) (lb rfl) (lb rfl) (by rw [eq5]; exact ⟨(by show some (Value.int (1 : Int32)) = _; exact congrArg (fun z => some (Value.int z)) (Eq.symm (Eq.trans (if_pos hc3) ((own_ica01 _ _).resolve_left hc6)))), N5, rfl⟩) (fun fs hr => retN X5 hx (t := .boolean) hret (by simp) (hb hby d10_36) hr)
  · refine og T2 (mkF m 11 #[vR ra0, vR ra3] [(.ref ra0)]) (fun _ k => Jvm.RoadKit.acmp (g := (mkF m 7 #[vR ra0, vR ra3] [(.ref kw0), (.ref ra1)])) X2 hx rfl rfl rfl (pc0 := 7) (pc' := 10) (same := false) rfl (hb hby d10_7) rfl (decide_eq_false fun q => hc3 (Value.ref.inj q)) (by decide) (by decide) (XS.aloadN X2.here hx rfl (hb hby d10_10) rfl rfl k)) ?_
    obtain ⟨T7, X7, e7, st7⟩ := getF X2 hx hZ hown (host := "") (Or.inl (own_w hw 51)) Via.refl e2 F_kind_ra0 (g := (mkF m 11 #[vR ra0, vR ra3] [(.ref ra0)])) rfl rfl (hb hby d10_11)
    refine og T7 (mkF m 14 #[vR ra0, vR ra3] [(.ref ra1)]) st7 ?_
    obtain ⟨T8, X8, e8, st8⟩ := getS2 X7 hx hZ hown (host := "") (Or.inl (own_w hw 82)) Via.refl e7 (SK5.ext OLD.2) (g := (mkF m 14 #[vR ra0, vR ra3] [(.ref ra1)])) rfl (hb hby d10_14)
    refine og T8 (mkF m 17 #[vR ra0, vR ra3] [(.ref kw5), (.ref ra1)]) st8 ?_
    by_cases hc9 : ra1 = kw5
    · refine og T8 (mkF m 21 #[vR ra0, vR ra3] [(.ref ra0)]) (fun _ k => Jvm.RoadKit.acmp (g := (mkF m 17 #[vR ra0, vR ra3] [(.ref kw5), (.ref ra1)])) X8 hx rfl rfl rfl (pc0 := 17) (pc' := 20) (same := true) rfl (hb hby d10_17) rfl (decide_eq_true (congrArg Value.ref hc9)) (by decide) (by decide) (XS.aloadN X8.here hx rfl (hb hby d10_20) rfl rfl k)) ?_
      obtain ⟨T10, X10, e10, st10⟩ := getF X8 hx hZ hown (host := "") (Or.inl (own_w hw 53)) Via.refl e8 F_text_ra0 (g := (mkF m 21 #[vR ra0, vR ra3] [(.ref ra0)])) rfl rfl (hb hby d10_21)
      refine og T10 (mkF m 24 #[vR ra0, vR ra3] [(.ref ra2)]) st10 ?_
      refine og T10 (mkF m 25 #[vR ra0, vR ra3] [(.ref ra3), (.ref ra2)]) (fun _ k => XS.aloadN X10.here hx rfl (hb hby d10_24) rfl rfl k) ?_
      obtain ⟨cq11, kq11, q11a, q11b, q11c⟩ := isOf hZ e10 E_ra2
      obtain ⟨_, _, ⟨T11, L11, k11, n11⟩, -, X11, ⟨Lc11, hQ11, l11, y11, z11⟩, st11⟩ := X10.virtualBack hx (y := y6) (z := y6) hown (mvT hZ (own_w hw 65)) (mvT hZ (own_w hw 66)) (notFace_of_selects (args := #[]) (mvT hZ (own_w hw 68))) (mvT hZ (own_w hw 68)) (mvT hZ (own_w hw 67)) (by decide) (backOf (W := 0) (rm11_19 l Z a0 hw ra2 rt2 kc2 ca0 ra3 rt3 kc3 cb0 G1 h0 n0 OLD E_ra2 F_coder_ra2 F_value_ra2 hl_ca0 V_rt2 E_ra3 F_coder_ra3 F_value_ra3 hl_cb0 V_rt3 hk13 O2 P5) hZ (own_w hw 69) (own_w hw 14) (lb rfl) (lb rfl)) q11a q11c (g := (mkF m 25 #[vR ra0, vR ra3] [(.ref ra3), (.ref ra2)])) rfl (by rw [hml]; rfl) (Steps.refl _) (argsL := [(.ref ra3)]) (rest := []) (lenOf pd_5 rfl) rfl (lb rfl) (hb hby d10_25) (fun _ _ => ⟨rfl, e10, (lb rfl), (lb rfl)⟩)
      dsimp only [Pt.U, Pt.locs, Pt.cells, Pt.slots] at X11 l11 y11 z11 st11 hQ11
      subst l11 y11 z11
      obtain ⟨rfl, Nq11, eq11⟩ := hQ11
      have N11 := Fr.app N0 Nq11
      refine ot T11 (mkF m 28 #[vR ra0, vR ra3] [(.int (own_ica [ca0] [cb0]))]) st11 ?_
      by_cases hc12 : (own_ica [ca0] [cb0]) = (0 : Int32)
      · refine og T11 (mkF m 36 #[vR ra0, vR ra3] [(.int (0 : Int32))]) (fun _ k => XS.ifYes X11.here hx rfl (pc0 := 28) (pc' := 35) rfl (hb hby d10_28) rfl ((if0 _ _).trans (teq hc12).1) (by decide) (by decide) (XS.iconst X11.here hx rfl (hb hby d10_35) k)) ?_
        exact own_leaveN X11 hlk (v := some (.int (nar .boolean (0 : Int32)))) (fun h => by rw [hret] at h; cases h) (lb rfl) (lb rfl) (by rw [eq11]; exact ⟨(by show some (Value.int (0 : Int32)) = _; exact congrArg (fun z => some (Value.int z)) (Eq.symm (Eq.trans ((if_neg hc3).trans (if_pos hc9)) (hc12)))), N11, rfl⟩) (fun fs hr => retN X11 hx (t := .boolean) hret (by simp) (hb hby d10_36) hr)
      · refine og T11 (mkF m 36 #[vR ra0, vR ra3] [(.int (1 : Int32))]) (fun _ k => XS.ifNo X11.here hx rfl (hb hby d10_28) rfl ((if0 _ _).trans (feq hc12).1) (XS.iconst X11.here hx rfl (hb hby d10_31) (XS.goto X11.here hx rfl (pc0 := 32) (pc' := 36) rfl (hb hby d10_32) (by decide) (by decide) k))) ?_
        exact own_leaveN X11 hlk (v := some (.int (nar .boolean (1 : Int32)))) (fun h => by rw [hret] at h; cases h) (lb rfl) (lb rfl) (by rw [eq11]; exact ⟨(by show some (Value.int (1 : Int32)) = _; exact congrArg (fun z => some (Value.int z)) (Eq.symm (Eq.trans ((if_neg hc3).trans (if_pos hc9)) ((own_ica01 _ _).resolve_left hc12)))), N11, rfl⟩) (fun fs hr => retN X11 hx (t := .boolean) hret (by simp) (hb hby d10_36) hr)
    · refine og T8 (mkF m 36 #[vR ra0, vR ra3] [(.int (0 : Int32))]) (fun _ k => Jvm.RoadKit.acmp (g := (mkF m 17 #[vR ra0, vR ra3] [(.ref kw5), (.ref ra1)])) X8 hx rfl rfl rfl (pc0 := 17) (pc' := 35) (same := false) rfl (hb hby d10_17) rfl (decide_eq_false fun q => hc9 (Value.ref.inj q)) (by decide) (by decide) (XS.iconst X8.here hx rfl (hb hby d10_35) k)) ?_
      exact own_leaveN X8 hlk (v := some (.int (nar .boolean (0 : Int32)))) (fun h => by rw [hret] at h; cases h) (lb rfl) (lb rfl) (by rw [e8]; exact ⟨(by show some (Value.int (0 : Int32)) = _; exact congrArg (fun z => some (Value.int z)) (Eq.symm ((if_neg hc3).trans (if_neg hc9)))), N0, rfl⟩) (fun fs hr => retN X8 hx (t := .boolean) hret (by simp) (hb hby d10_36) hr)
abbrev R11_25 : Room := { frames := 2, cells := 0, slots := 0, locals := 26 }
def Q11_25 (Z : State) (ra0 : Addr) (ra1 : Addr) (kc2 : ClassId) (ci3 : Int32) (ra4 : Addr) (ra5 : Addr) (kc6 : ClassId) (ci7 : Int32) (ci8 : Int32) (G1 : Int32) (h0 : Heap) (n0 : Nat) (v : Option Value) (h : Heap) (L : List Loc) : Prop := (v = some (.int (own_ica [ci3] [ci7, ci8])) ∧ Fr n0 L ∧ h = h0)
theorem rm11_25 (l : Launch) (Z : State) (a0 : Array Value) (hw : HW Z a0) (ra0 : Addr) (ra1 : Addr) (kc2 : ClassId) (ci3 : Int32) (ra4 : Addr) (ra5 : Addr) (kc6 : ClassId) (ci7 : Int32) (ci8 : Int32) (G1 : Int32) (h0 : Heap) (n0 : Nat) (OLD : Old Z n0 h0) (E_ra0 : Exa Z h0 ra0 "java/lang/String") (F_coder_ra0 : Fld Z h0 ra0 "java/lang/String" "coder" "B" (.int (0 : Int32))) (F_value_ra0 : Fld Z h0 ra0 "java/lang/String" "value" "[B" (.ref ra1)) (hl_ci3 : ¬ ci3 < 0 ∧ ¬ (255 : Int32) < ci3) (V_ra1 : Arv Z h0 ra1 kc2 .byte (1 : Int32) [(.int (ci3.toInt8.toInt32))] (.int (0 : Int32))) (E_ra4 : Exa Z h0 ra4 "java/lang/String") (F_coder_ra4 : Fld Z h0 ra4 "java/lang/String" "coder" "B" (.int (0 : Int32))) (F_value_ra4 : Fld Z h0 ra4 "java/lang/String" "value" "[B" (.ref ra5)) (hl_ci7 : ¬ ci7 < 0 ∧ ¬ (255 : Int32) < ci7) (hl_ci8 : ¬ ci8 < 0 ∧ ¬ (255 : Int32) < ci8) (V_ra5 : Arv Z h0 ra5 kc6 .byte (2 : Int32) [(.int (ci7.toInt8.toInt32)), (.int (ci8.toInt8.toInt32))] (.int (0 : Int32))) (hk11 : ¬ (ra0 = ra4)) (O2 : Sta Z Z.heap "java/lang/String" "COMPACT_STRINGS" "Z" (.int G1)) (P5 : ¬ (G1 = (0 : Int32))) :
    own_CN l Z y6 jdk_42_method_70_code 2 (some .boolean) [] R11_25 #[(.ref ra0), (.ref ra4)] h0 (Q11_25 Z ra0 ra1 kc2 ci3 ra4 ra5 kc6 ci7 ci8 G1 h0 n0) := by
  refine own_entryN (plainFor_of_name pn_0) fun p e s m below meth c s₁ hx hby hml hown hnm hret hlk hZ hh X0 e0 => ?_
  have N0 := Fr.nil n0
  rw [ef_11_25 m ra0 ra4]
  refine og s₁ (mkF m 14 #[vR ra0, vR ra4] [(.ref ra4)]) (fun _ k => XS.aloadN X0.here hx rfl (hb hby d11_0) rfl rfl (XS.aloadN X0.here hx rfl (hb hby d11_1) rfl rfl (Jvm.RoadKit.acmp (g := (mkF m 2 #[vR ra0, vR ra4] [(.ref ra4), (.ref ra0)])) X0 hx rfl rfl rfl (pc0 := 2) (pc' := 9) (same := false) rfl (hb hby d11_2) rfl (decide_eq_false fun q => hk11 (Value.ref.inj q)) (by decide) (by decide) (XS.aloadN X0.here hx rfl (hb hby d11_9) rfl rfl (XS.ifnullNo X0.here hx rfl (hb hby d11_10) rfl (XS.aloadN X0.here hx rfl (hb hby d11_13) rfl rfl k)))))) ?_
  have hp1 : ∀ c ∈ ([ci7, ci8] : List Int32), ¬ c < 0 ∧ ¬ (255 : Int32) < c := by
    intro c hc
    simp only [List.mem_cons, List.not_mem_nil, or_false] at hc
    rcases hc with rfl | rfl
    · exact hl_ci7
    · exact hl_ci8
  obtain ⟨cq2, kq2, q2a, q2b, q2c⟩ := isOf hZ e0 E_ra4
  obtain ⟨_, _, ⟨T2, L2, k2, n2⟩, -, X2, ⟨Lc2, hQ2, l2, y2, z2⟩, st2⟩ := X0.virtualBack hx (y := y2) (z := y2) hown (mvT hZ (own_w hw 70)) (mvT hZ (own_w hw 71)) (notFace_of_selects (args := #[]) (mvT hZ (own_w hw 73))) (mvT hZ (own_w hw 73)) (mvT hZ (own_w hw 72)) (by decide) (StrChars.Road.lenW (W := 0) hZ (own_hln hw) (kI := 4) (own_w hw 13) (cs := ([ci7, ci8] : List Int32)) E_ra4 F_value_ra4 F_coder_ra4 V_ra5 (StrChars.Road.codOf rfl (fun c hc => (hp1 c hc).2)) (own_up _ hp1) (O2.ext OLD.2) P5 (lb rfl) (lb rfl) (lb rfl)) q2a q2c (g := (mkF m 14 #[vR ra0, vR ra4] [(.ref ra4)])) rfl (by rw [hml]; rfl) (Steps.refl _) (argsL := []) (rest := []) (lenOf pd_1 rfl) rfl (lb rfl) (hb hby d11_14) (fun _ _ => ⟨rfl, e0, (lb rfl), (lb rfl)⟩)
  dsimp only [Pt.U, Pt.locs, Pt.cells, Pt.slots] at X2 l2 y2 z2 st2 hQ2
  subst l2 y2 z2
  obtain ⟨rfl, rfl, eq2⟩ := hQ2
  have N2 := Fr.app N0 (Fr.nil n0)
  refine ot T2 (mkF m 17 #[vR ra0, vR ra4] [(.int (2 : Int32))]) st2 ?_
  refine og T2 (mkF m 18 #[vR ra0, vR ra4] [(.ref ra0), (.int (2 : Int32))]) (fun _ k => XS.aloadN X2.here hx rfl (hb hby d11_17) rfl rfl k) ?_
  have hp3 : ∀ c ∈ ([ci3] : List Int32), ¬ c < 0 ∧ ¬ (255 : Int32) < c := by
    intro c hc
    simp only [List.mem_cons, List.not_mem_nil, or_false] at hc
    rcases hc with rfl
    · exact hl_ci3
  obtain ⟨cq4, kq4, q4a, q4b, q4c⟩ := isOf hZ eq2 E_ra0
  obtain ⟨_, _, ⟨T4, L4, k4, n4⟩, -, X4, ⟨Lc4, hQ4, l4, y4, z4⟩, st4⟩ := X2.virtualBack hx (y := y2) (z := y2) hown (mvT hZ (own_w hw 70)) (mvT hZ (own_w hw 71)) (notFace_of_selects (args := #[]) (mvT hZ (own_w hw 73))) (mvT hZ (own_w hw 73)) (mvT hZ (own_w hw 72)) (by decide) (StrChars.Road.lenW (W := 1) hZ (own_hln hw) (kI := 4) (own_w hw 13) (cs := ([ci3] : List Int32)) E_ra0 F_value_ra0 F_coder_ra0 V_ra1 (StrChars.Road.codOf rfl (fun c hc => (hp3 c hc).2)) (own_up _ hp3) (O2.ext OLD.2) P5 (lb rfl) (lb rfl) (lb rfl)) q4a q4c (g := (mkF m 18 #[vR ra0, vR ra4] [(.ref ra0), (.int (2 : Int32))])) rfl (by rw [hml]; rfl) (Steps.refl _) (argsL := []) (rest := [(.int (2 : Int32))]) (lenOf pd_1 rfl) rfl (lb rfl) (hb hby d11_18) (fun _ _ => ⟨rfl, eq2, (lb rfl), (lb rfl)⟩)
  dsimp only [Pt.U, Pt.locs, Pt.cells, Pt.slots] at X4 l4 y4 z4 st4 hQ4
  subst l4 y4 z4
  obtain ⟨rfl, rfl, eq4⟩ := hQ4
  have N4 := Fr.app N2 (Fr.nil n0)
  refine ot T4 (mkF m 21 #[vR ra0, vR ra4] [(.int (1 : Int32)), (.int (2 : Int32))]) st4 ?_
  refine og T4 (mkF m 44 #[vR ra0, vR ra4] [(.int (0 : Int32))]) (fun _ k => XS.icmpYes X4.here hx rfl (pc0 := 21) (pc' := 43) rfl (hb hby d11_21) rfl (feq (by decide : ¬ ((2 : Int32) = (1 : Int32)))).2 (by decide) (by decide) (XS.iconst X4.here hx rfl (hb hby d11_43) k)) ?_
  exact own_leaveN X4 hlk (v := some (.int (nar .boolean (0 : Int32)))) (fun h => by rw [hret] at h; cases h) (lb rfl) (lb rfl) (by rw [eq4]; exact ⟨(by show some (Value.int (0 : Int32)) = _; first | rfl | (simp [own_ica]; done)), N4, rfl⟩) (fun fs hr => retN X4 hx (t := .boolean) hret (by simp) (hb hby d11_44) hr)
abbrev R10_24 : Room := { frames := 5, cells := 0, slots := 0, locals := 100 }
def Q10_24 (Z : State) (ra0 : Addr) (ra1 : Addr) (ra2 : Addr) (rt2 : Addr) (ra3 : Addr) (rt3 : Addr) (kc2 : ClassId) (kc3 : ClassId) (ca0 : Int32) (cb0 : Int32) (cb1 : Int32) (kw0 : Addr) (G1 : Int32) (kw5 : Addr) (h0 : Heap) (n0 : Nat) (v : Option Value) (h : Heap) (L : List Loc) : Prop := (v = some (.int (own_isv ra1 kw0 kw5 (own_ica [ca0] [cb0, cb1]))) ∧ Fr n0 L ∧ h = h0)
theorem rm10_24 (l : Launch) (Z : State) (a0 : Array Value) (hw : HW Z a0) (ra0 : Addr) (ra1 : Addr) (ra2 : Addr) (rt2 : Addr) (ra3 : Addr) (rt3 : Addr) (kc2 : ClassId) (kc3 : ClassId) (ca0 : Int32) (cb0 : Int32) (cb1 : Int32) (kw0 : Addr) (G1 : Int32) (kw5 : Addr) (h0 : Heap) (n0 : Nat) (OLD : Old Z n0 h0) (E_ra0 : Exa Z h0 ra0 "com/example/agave/agave/query/Tokens$Token") (F_kind_ra0 : Fld Z h0 ra0 "com/example/agave/agave/query/Tokens$Token" "kind" "Lcom/example/agave/agave/query/Tokens$Kind;" (.ref ra1)) (F_text_ra0 : Fld Z h0 ra0 "com/example/agave/agave/query/Tokens$Token" "text" "Ljava/lang/String;" (.ref ra2)) (E_ra2 : Exa Z h0 ra2 "java/lang/String") (F_coder_ra2 : Fld Z h0 ra2 "java/lang/String" "coder" "B" (.int (0 : Int32))) (F_value_ra2 : Fld Z h0 ra2 "java/lang/String" "value" "[B" (.ref rt2)) (V_rt2 : Arv Z h0 rt2 kc2 .byte (1 : Int32) [(.int (ca0.toInt8.toInt32))] (.int (0 : Int32))) (E_ra3 : Exa Z h0 ra3 "java/lang/String") (F_coder_ra3 : Fld Z h0 ra3 "java/lang/String" "coder" "B" (.int (0 : Int32))) (F_value_ra3 : Fld Z h0 ra3 "java/lang/String" "value" "[B" (.ref rt3)) (V_rt3 : Arv Z h0 rt3 kc3 .byte (2 : Int32) [(.int (cb0.toInt8.toInt32)), (.int (cb1.toInt8.toInt32))] (.int (0 : Int32))) (hl_ca0 : ¬ ca0 < 0 ∧ ¬ (255 : Int32) < ca0) (hl_cb0 : ¬ cb0 < 0 ∧ ¬ (255 : Int32) < cb0) (hl_cb1 : ¬ cb1 < 0 ∧ ¬ (255 : Int32) < cb1) (hk14 : ¬ (ra2 = ra3)) (SK0 : Sta Z Z.heap "com/example/agave/agave/query/Tokens$Kind" "WORD" "Lcom/example/agave/agave/query/Tokens$Kind;" (.ref kw0)) (EK0 : Exa Z Z.heap kw0 "com/example/agave/agave/query/Tokens$Kind") (O2 : Sta Z Z.heap "java/lang/String" "COMPACT_STRINGS" "Z" (.int G1)) (P5 : ¬ (G1 = (0 : Int32))) (SK5 : Sta Z Z.heap "com/example/agave/agave/query/Tokens$Kind" "SYMBOL" "Lcom/example/agave/agave/query/Tokens$Kind;" (.ref kw5)) (EK5 : Exa Z Z.heap kw5 "com/example/agave/agave/query/Tokens$Kind") :
    own_CN l Z y7 prog_6_method_6_code 2 (some .boolean) [] R10_24 #[(.ref ra0), (.ref ra3)] h0 (Q10_24 Z ra0 ra1 ra2 rt2 ra3 rt3 kc2 kc3 ca0 cb0 cb1 kw0 G1 kw5 h0 n0) := by
  refine own_entryN (plainFor_of_name pn_2) fun p e s m below meth c s₁ hx hby hml hown hnm hret hlk hZ hh X0 e0 => ?_
  have N0 := Fr.nil n0
  rw [ef_10_24 m ra0 ra3]
  refine og s₁ (mkF m 1 #[vR ra0, vR ra3] [(.ref ra0)]) (fun _ k => XS.aloadN X0.here hx rfl (hb hby d10_0) rfl rfl k) ?_
  obtain ⟨T1, X1, e1, st1⟩ := getF X0 hx hZ hown (host := "") (Or.inl (own_w hw 51)) Via.refl e0 F_kind_ra0 (g := (mkF m 1 #[vR ra0, vR ra3] [(.ref ra0)])) rfl rfl (hb hby d10_1)
  refine og T1 (mkF m 4 #[vR ra0, vR ra3] [(.ref ra1)]) st1 ?_
  obtain ⟨T2, X2, e2, st2⟩ := getS2 X1 hx hZ hown (host := "") (Or.inl (own_w hw 64)) Via.refl e1 (SK0.ext OLD.2) (g := (mkF m 4 #[vR ra0, vR ra3] [(.ref ra1)])) rfl (hb hby d10_4)
  refine og T2 (mkF m 7 #[vR ra0, vR ra3] [(.ref kw0), (.ref ra1)]) st2 ?_
  by_cases hc3 : ra1 = kw0
  · refine og T2 (mkF m 21 #[vR ra0, vR ra3] [(.ref ra0)]) (fun _ k => Jvm.RoadKit.acmp (g := (mkF m 7 #[vR ra0, vR ra3] [(.ref kw0), (.ref ra1)])) X2 hx rfl rfl rfl (pc0 := 7) (pc' := 20) (same := true) rfl (hb hby d10_7) rfl (decide_eq_true (congrArg Value.ref hc3)) (by decide) (by decide) (XS.aloadN X2.here hx rfl (hb hby d10_20) rfl rfl k)) ?_
    obtain ⟨T4, X4, e4, st4⟩ := getF X2 hx hZ hown (host := "") (Or.inl (own_w hw 53)) Via.refl e2 F_text_ra0 (g := (mkF m 21 #[vR ra0, vR ra3] [(.ref ra0)])) rfl rfl (hb hby d10_21)
    refine og T4 (mkF m 24 #[vR ra0, vR ra3] [(.ref ra2)]) st4 ?_
    refine og T4 (mkF m 25 #[vR ra0, vR ra3] [(.ref ra3), (.ref ra2)]) (fun _ k => XS.aloadN X4.here hx rfl (hb hby d10_24) rfl rfl k) ?_
    obtain ⟨cq5, kq5, q5a, q5b, q5c⟩ := isOf hZ e4 E_ra2
    obtain ⟨_, _, ⟨T5, L5, k5, n5⟩, -, X5, ⟨Lc5, hQ5, l5, y5, z5⟩, st5⟩ := X4.virtualBack hx (y := y6) (z := y6) hown (mvT hZ (own_w hw 65)) (mvT hZ (own_w hw 66)) (notFace_of_selects (args := #[]) (mvT hZ (own_w hw 68))) (mvT hZ (own_w hw 68)) (mvT hZ (own_w hw 67)) (by decide) (backOf (W := 0) (rm11_25 l Z a0 hw ra2 rt2 kc2 ca0 ra3 rt3 kc3 cb0 cb1 G1 h0 n0 OLD E_ra2 F_coder_ra2 F_value_ra2 hl_ca0 V_rt2 E_ra3 F_coder_ra3 F_value_ra3 hl_cb0 hl_cb1 V_rt3 hk14 O2 P5) hZ (own_w hw 69) (own_w hw 14) (lb rfl) (lb rfl)) q5a q5c (g := (mkF m 25 #[vR ra0, vR ra3] [(.ref ra3), (.ref ra2)])) rfl (by rw [hml]; rfl) (Steps.refl _) (argsL := [(.ref ra3)]) (rest := []) (lenOf pd_5 rfl) rfl (lb rfl) (hb hby d10_25) (fun _ _ => ⟨rfl, e4, (lb rfl), (lb rfl)⟩)
    dsimp only [Pt.U, Pt.locs, Pt.cells, Pt.slots] at X5 l5 y5 z5 st5 hQ5
    subst l5 y5 z5
    obtain ⟨rfl, Nq5, eq5⟩ := hQ5
    have N5 := Fr.app N0 Nq5
    refine ot T5 (mkF m 28 #[vR ra0, vR ra3] [(.int (own_ica [ca0] [cb0, cb1]))]) st5 ?_
    by_cases hc6 : (own_ica [ca0] [cb0, cb1]) = (0 : Int32)
    · refine og T5 (mkF m 36 #[vR ra0, vR ra3] [(.int (0 : Int32))]) (fun _ k => XS.ifYes X5.here hx rfl (pc0 := 28) (pc' := 35) rfl (hb hby d10_28) rfl ((if0 _ _).trans (teq hc6).1) (by decide) (by decide) (XS.iconst X5.here hx rfl (hb hby d10_35) k)) ?_
      exact own_leaveN X5 hlk (v := some (.int (nar .boolean (0 : Int32)))) (fun h => by rw [hret] at h; cases h) (lb rfl) (lb rfl) (by rw [eq5]; exact ⟨(by show some (Value.int (0 : Int32)) = _; exact congrArg (fun z => some (Value.int z)) (Eq.symm (Eq.trans (if_pos hc3) (hc6)))), N5, rfl⟩) (fun fs hr => retN X5 hx (t := .boolean) hret (by simp) (hb hby d10_36) hr)
    · refine og T5 (mkF m 36 #[vR ra0, vR ra3] [(.int (1 : Int32))]) (fun _ k => XS.ifNo X5.here hx rfl (hb hby d10_28) rfl ((if0 _ _).trans (feq hc6).1) (XS.iconst X5.here hx rfl (hb hby d10_31) (XS.goto X5.here hx rfl (pc0 := 32) (pc' := 36) rfl (hb hby d10_32) (by decide) (by decide) k))) ?_
      exact own_leaveN X5 hlk (v := some (.int (nar .boolean (1 : Int32)))) (fun h => by rw [hret] at h; cases h) (lb rfl) (lb rfl) (by rw [eq5]; exact ⟨(by show some (Value.int (1 : Int32)) = _; exact congrArg (fun z => some (Value.int z)) (Eq.symm (Eq.trans (if_pos hc3) ((own_ica01 _ _).resolve_left hc6)))), N5, rfl⟩) (fun fs hr => retN X5 hx (t := .boolean) hret (by simp) (hb hby d10_36) hr)
  · refine og T2 (mkF m 11 #[vR ra0, vR ra3] [(.ref ra0)]) (fun _ k => Jvm.RoadKit.acmp (g := (mkF m 7 #[vR ra0, vR ra3] [(.ref kw0), (.ref ra1)])) X2 hx rfl rfl rfl (pc0 := 7) (pc' := 10) (same := false) rfl (hb hby d10_7) rfl (decide_eq_false fun q => hc3 (Value.ref.inj q)) (by decide) (by decide) (XS.aloadN X2.here hx rfl (hb hby d10_10) rfl rfl k)) ?_
    obtain ⟨T7, X7, e7, st7⟩ := getF X2 hx hZ hown (host := "") (Or.inl (own_w hw 51)) Via.refl e2 F_kind_ra0 (g := (mkF m 11 #[vR ra0, vR ra3] [(.ref ra0)])) rfl rfl (hb hby d10_11)
    refine og T7 (mkF m 14 #[vR ra0, vR ra3] [(.ref ra1)]) st7 ?_
    obtain ⟨T8, X8, e8, st8⟩ := getS2 X7 hx hZ hown (host := "") (Or.inl (own_w hw 82)) Via.refl e7 (SK5.ext OLD.2) (g := (mkF m 14 #[vR ra0, vR ra3] [(.ref ra1)])) rfl (hb hby d10_14)
    refine og T8 (mkF m 17 #[vR ra0, vR ra3] [(.ref kw5), (.ref ra1)]) st8 ?_
    by_cases hc9 : ra1 = kw5
    · refine og T8 (mkF m 21 #[vR ra0, vR ra3] [(.ref ra0)]) (fun _ k => Jvm.RoadKit.acmp (g := (mkF m 17 #[vR ra0, vR ra3] [(.ref kw5), (.ref ra1)])) X8 hx rfl rfl rfl (pc0 := 17) (pc' := 20) (same := true) rfl (hb hby d10_17) rfl (decide_eq_true (congrArg Value.ref hc9)) (by decide) (by decide) (XS.aloadN X8.here hx rfl (hb hby d10_20) rfl rfl k)) ?_
      obtain ⟨T10, X10, e10, st10⟩ := getF X8 hx hZ hown (host := "") (Or.inl (own_w hw 53)) Via.refl e8 F_text_ra0 (g := (mkF m 21 #[vR ra0, vR ra3] [(.ref ra0)])) rfl rfl (hb hby d10_21)
      refine og T10 (mkF m 24 #[vR ra0, vR ra3] [(.ref ra2)]) st10 ?_
      refine og T10 (mkF m 25 #[vR ra0, vR ra3] [(.ref ra3), (.ref ra2)]) (fun _ k => XS.aloadN X10.here hx rfl (hb hby d10_24) rfl rfl k) ?_
      obtain ⟨cq11, kq11, q11a, q11b, q11c⟩ := isOf hZ e10 E_ra2
      obtain ⟨_, _, ⟨T11, L11, k11, n11⟩, -, X11, ⟨Lc11, hQ11, l11, y11, z11⟩, st11⟩ := X10.virtualBack hx (y := y6) (z := y6) hown (mvT hZ (own_w hw 65)) (mvT hZ (own_w hw 66)) (notFace_of_selects (args := #[]) (mvT hZ (own_w hw 68))) (mvT hZ (own_w hw 68)) (mvT hZ (own_w hw 67)) (by decide) (backOf (W := 0) (rm11_25 l Z a0 hw ra2 rt2 kc2 ca0 ra3 rt3 kc3 cb0 cb1 G1 h0 n0 OLD E_ra2 F_coder_ra2 F_value_ra2 hl_ca0 V_rt2 E_ra3 F_coder_ra3 F_value_ra3 hl_cb0 hl_cb1 V_rt3 hk14 O2 P5) hZ (own_w hw 69) (own_w hw 14) (lb rfl) (lb rfl)) q11a q11c (g := (mkF m 25 #[vR ra0, vR ra3] [(.ref ra3), (.ref ra2)])) rfl (by rw [hml]; rfl) (Steps.refl _) (argsL := [(.ref ra3)]) (rest := []) (lenOf pd_5 rfl) rfl (lb rfl) (hb hby d10_25) (fun _ _ => ⟨rfl, e10, (lb rfl), (lb rfl)⟩)
      dsimp only [Pt.U, Pt.locs, Pt.cells, Pt.slots] at X11 l11 y11 z11 st11 hQ11
      subst l11 y11 z11
      obtain ⟨rfl, Nq11, eq11⟩ := hQ11
      have N11 := Fr.app N0 Nq11
      refine ot T11 (mkF m 28 #[vR ra0, vR ra3] [(.int (own_ica [ca0] [cb0, cb1]))]) st11 ?_
      by_cases hc12 : (own_ica [ca0] [cb0, cb1]) = (0 : Int32)
      · refine og T11 (mkF m 36 #[vR ra0, vR ra3] [(.int (0 : Int32))]) (fun _ k => XS.ifYes X11.here hx rfl (pc0 := 28) (pc' := 35) rfl (hb hby d10_28) rfl ((if0 _ _).trans (teq hc12).1) (by decide) (by decide) (XS.iconst X11.here hx rfl (hb hby d10_35) k)) ?_
        exact own_leaveN X11 hlk (v := some (.int (nar .boolean (0 : Int32)))) (fun h => by rw [hret] at h; cases h) (lb rfl) (lb rfl) (by rw [eq11]; exact ⟨(by show some (Value.int (0 : Int32)) = _; exact congrArg (fun z => some (Value.int z)) (Eq.symm (Eq.trans ((if_neg hc3).trans (if_pos hc9)) (hc12)))), N11, rfl⟩) (fun fs hr => retN X11 hx (t := .boolean) hret (by simp) (hb hby d10_36) hr)
      · refine og T11 (mkF m 36 #[vR ra0, vR ra3] [(.int (1 : Int32))]) (fun _ k => XS.ifNo X11.here hx rfl (hb hby d10_28) rfl ((if0 _ _).trans (feq hc12).1) (XS.iconst X11.here hx rfl (hb hby d10_31) (XS.goto X11.here hx rfl (pc0 := 32) (pc' := 36) rfl (hb hby d10_32) (by decide) (by decide) k))) ?_
        exact own_leaveN X11 hlk (v := some (.int (nar .boolean (1 : Int32)))) (fun h => by rw [hret] at h; cases h) (lb rfl) (lb rfl) (by rw [eq11]; exact ⟨(by show some (Value.int (1 : Int32)) = _; exact congrArg (fun z => some (Value.int z)) (Eq.symm (Eq.trans ((if_neg hc3).trans (if_pos hc9)) ((own_ica01 _ _).resolve_left hc12)))), N11, rfl⟩) (fun fs hr => retN X11 hx (t := .boolean) hret (by simp) (hb hby d10_36) hr)
    · refine og T8 (mkF m 36 #[vR ra0, vR ra3] [(.int (0 : Int32))]) (fun _ k => Jvm.RoadKit.acmp (g := (mkF m 17 #[vR ra0, vR ra3] [(.ref kw5), (.ref ra1)])) X8 hx rfl rfl rfl (pc0 := 17) (pc' := 35) (same := false) rfl (hb hby d10_17) rfl (decide_eq_false fun q => hc9 (Value.ref.inj q)) (by decide) (by decide) (XS.iconst X8.here hx rfl (hb hby d10_35) k)) ?_
      exact own_leaveN X8 hlk (v := some (.int (nar .boolean (0 : Int32)))) (fun h => by rw [hret] at h; cases h) (lb rfl) (lb rfl) (by rw [e8]; exact ⟨(by show some (Value.int (0 : Int32)) = _; exact congrArg (fun z => some (Value.int z)) (Eq.symm ((if_neg hc3).trans (if_neg hc9)))), N0, rfl⟩) (fun fs hr => retN X8 hx (t := .boolean) hret (by simp) (hb hby d10_36) hr)
abbrev R11_27 : Room := { frames := 2, cells := 0, slots := 0, locals := 26 }
def Q11_27 (Z : State) (ra0 : Addr) (ra1 : Addr) (kc2 : ClassId) (ci3 : Int32) (ra4 : Addr) (ra5 : Addr) (kc6 : ClassId) (ci7 : Int32) (ci8 : Int32) (ci9 : Int32) (G1 : Int32) (h0 : Heap) (n0 : Nat) (v : Option Value) (h : Heap) (L : List Loc) : Prop := (v = some (.int (own_ica [ci3] [ci7, ci8, ci9])) ∧ Fr n0 L ∧ h = h0)
theorem rm11_27 (l : Launch) (Z : State) (a0 : Array Value) (hw : HW Z a0) (ra0 : Addr) (ra1 : Addr) (kc2 : ClassId) (ci3 : Int32) (ra4 : Addr) (ra5 : Addr) (kc6 : ClassId) (ci7 : Int32) (ci8 : Int32) (ci9 : Int32) (G1 : Int32) (h0 : Heap) (n0 : Nat) (OLD : Old Z n0 h0) (E_ra0 : Exa Z h0 ra0 "java/lang/String") (F_coder_ra0 : Fld Z h0 ra0 "java/lang/String" "coder" "B" (.int (0 : Int32))) (F_value_ra0 : Fld Z h0 ra0 "java/lang/String" "value" "[B" (.ref ra1)) (hl_ci3 : ¬ ci3 < 0 ∧ ¬ (255 : Int32) < ci3) (V_ra1 : Arv Z h0 ra1 kc2 .byte (1 : Int32) [(.int (ci3.toInt8.toInt32))] (.int (0 : Int32))) (E_ra4 : Exa Z h0 ra4 "java/lang/String") (F_coder_ra4 : Fld Z h0 ra4 "java/lang/String" "coder" "B" (.int (0 : Int32))) (F_value_ra4 : Fld Z h0 ra4 "java/lang/String" "value" "[B" (.ref ra5)) (hl_ci7 : ¬ ci7 < 0 ∧ ¬ (255 : Int32) < ci7) (hl_ci8 : ¬ ci8 < 0 ∧ ¬ (255 : Int32) < ci8) (hl_ci9 : ¬ ci9 < 0 ∧ ¬ (255 : Int32) < ci9) (V_ra5 : Arv Z h0 ra5 kc6 .byte (3 : Int32) [(.int (ci7.toInt8.toInt32)), (.int (ci8.toInt8.toInt32)), (.int (ci9.toInt8.toInt32))] (.int (0 : Int32))) (hk12 : ¬ (ra0 = ra4)) (O2 : Sta Z Z.heap "java/lang/String" "COMPACT_STRINGS" "Z" (.int G1)) (P5 : ¬ (G1 = (0 : Int32))) :
    own_CN l Z y6 jdk_42_method_70_code 2 (some .boolean) [] R11_27 #[(.ref ra0), (.ref ra4)] h0 (Q11_27 Z ra0 ra1 kc2 ci3 ra4 ra5 kc6 ci7 ci8 ci9 G1 h0 n0) := by
  refine own_entryN (plainFor_of_name pn_0) fun p e s m below meth c s₁ hx hby hml hown hnm hret hlk hZ hh X0 e0 => ?_
  have N0 := Fr.nil n0
  rw [ef_11_27 m ra0 ra4]
  refine og s₁ (mkF m 14 #[vR ra0, vR ra4] [(.ref ra4)]) (fun _ k => XS.aloadN X0.here hx rfl (hb hby d11_0) rfl rfl (XS.aloadN X0.here hx rfl (hb hby d11_1) rfl rfl (Jvm.RoadKit.acmp (g := (mkF m 2 #[vR ra0, vR ra4] [(.ref ra4), (.ref ra0)])) X0 hx rfl rfl rfl (pc0 := 2) (pc' := 9) (same := false) rfl (hb hby d11_2) rfl (decide_eq_false fun q => hk12 (Value.ref.inj q)) (by decide) (by decide) (XS.aloadN X0.here hx rfl (hb hby d11_9) rfl rfl (XS.ifnullNo X0.here hx rfl (hb hby d11_10) rfl (XS.aloadN X0.here hx rfl (hb hby d11_13) rfl rfl k)))))) ?_
  have hp1 : ∀ c ∈ ([ci7, ci8, ci9] : List Int32), ¬ c < 0 ∧ ¬ (255 : Int32) < c := by
    intro c hc
    simp only [List.mem_cons, List.not_mem_nil, or_false] at hc
    rcases hc with rfl | rfl | rfl
    · exact hl_ci7
    · exact hl_ci8
    · exact hl_ci9
  obtain ⟨cq2, kq2, q2a, q2b, q2c⟩ := isOf hZ e0 E_ra4
  obtain ⟨_, _, ⟨T2, L2, k2, n2⟩, -, X2, ⟨Lc2, hQ2, l2, y2, z2⟩, st2⟩ := X0.virtualBack hx (y := y2) (z := y2) hown (mvT hZ (own_w hw 70)) (mvT hZ (own_w hw 71)) (notFace_of_selects (args := #[]) (mvT hZ (own_w hw 73))) (mvT hZ (own_w hw 73)) (mvT hZ (own_w hw 72)) (by decide) (StrChars.Road.lenW (W := 0) hZ (own_hln hw) (kI := 4) (own_w hw 13) (cs := ([ci7, ci8, ci9] : List Int32)) E_ra4 F_value_ra4 F_coder_ra4 V_ra5 (StrChars.Road.codOf rfl (fun c hc => (hp1 c hc).2)) (own_up _ hp1) (O2.ext OLD.2) P5 (lb rfl) (lb rfl) (lb rfl)) q2a q2c (g := (mkF m 14 #[vR ra0, vR ra4] [(.ref ra4)])) rfl (by rw [hml]; rfl) (Steps.refl _) (argsL := []) (rest := []) (lenOf pd_1 rfl) rfl (lb rfl) (hb hby d11_14) (fun _ _ => ⟨rfl, e0, (lb rfl), (lb rfl)⟩)
  dsimp only [Pt.U, Pt.locs, Pt.cells, Pt.slots] at X2 l2 y2 z2 st2 hQ2
  subst l2 y2 z2
  obtain ⟨rfl, rfl, eq2⟩ := hQ2
  have N2 := Fr.app N0 (Fr.nil n0)
  refine ot T2 (mkF m 17 #[vR ra0, vR ra4] [(.int (3 : Int32))]) st2 ?_
  refine og T2 (mkF m 18 #[vR ra0, vR ra4] [(.ref ra0), (.int (3 : Int32))]) (fun _ k => XS.aloadN X2.here hx rfl (hb hby d11_17) rfl rfl k) ?_
  have hp3 : ∀ c ∈ ([ci3] : List Int32), ¬ c < 0 ∧ ¬ (255 : Int32) < c := by
    intro c hc
    simp only [List.mem_cons, List.not_mem_nil, or_false] at hc
    rcases hc with rfl
    · exact hl_ci3
  obtain ⟨cq4, kq4, q4a, q4b, q4c⟩ := isOf hZ eq2 E_ra0
  obtain ⟨_, _, ⟨T4, L4, k4, n4⟩, -, X4, ⟨Lc4, hQ4, l4, y4, z4⟩, st4⟩ := X2.virtualBack hx (y := y2) (z := y2) hown (mvT hZ (own_w hw 70)) (mvT hZ (own_w hw 71)) (notFace_of_selects (args := #[]) (mvT hZ (own_w hw 73))) (mvT hZ (own_w hw 73)) (mvT hZ (own_w hw 72)) (by decide) (StrChars.Road.lenW (W := 1) hZ (own_hln hw) (kI := 4) (own_w hw 13) (cs := ([ci3] : List Int32)) E_ra0 F_value_ra0 F_coder_ra0 V_ra1 (StrChars.Road.codOf rfl (fun c hc => (hp3 c hc).2)) (own_up _ hp3) (O2.ext OLD.2) P5 (lb rfl) (lb rfl) (lb rfl)) q4a q4c (g := (mkF m 18 #[vR ra0, vR ra4] [(.ref ra0), (.int (3 : Int32))])) rfl (by rw [hml]; rfl) (Steps.refl _) (argsL := []) (rest := [(.int (3 : Int32))]) (lenOf pd_1 rfl) rfl (lb rfl) (hb hby d11_18) (fun _ _ => ⟨rfl, eq2, (lb rfl), (lb rfl)⟩)
  dsimp only [Pt.U, Pt.locs, Pt.cells, Pt.slots] at X4 l4 y4 z4 st4 hQ4
  subst l4 y4 z4
  obtain ⟨rfl, rfl, eq4⟩ := hQ4
  have N4 := Fr.app N2 (Fr.nil n0)
  refine ot T4 (mkF m 21 #[vR ra0, vR ra4] [(.int (1 : Int32)), (.int (3 : Int32))]) st4 ?_
  refine og T4 (mkF m 44 #[vR ra0, vR ra4] [(.int (0 : Int32))]) (fun _ k => XS.icmpYes X4.here hx rfl (pc0 := 21) (pc' := 43) rfl (hb hby d11_21) rfl (feq (by decide : ¬ ((3 : Int32) = (1 : Int32)))).2 (by decide) (by decide) (XS.iconst X4.here hx rfl (hb hby d11_43) k)) ?_
  exact own_leaveN X4 hlk (v := some (.int (nar .boolean (0 : Int32)))) (fun h => by rw [hret] at h; cases h) (lb rfl) (lb rfl) (by rw [eq4]; exact ⟨(by show some (Value.int (0 : Int32)) = _; first | rfl | (simp [own_ica]; done)), N4, rfl⟩) (fun fs hr => retN X4 hx (t := .boolean) hret (by simp) (hb hby d11_44) hr)
abbrev R10_26 : Room := { frames := 5, cells := 0, slots := 0, locals := 100 }
def Q10_26 (Z : State) (ra0 : Addr) (ra1 : Addr) (ra2 : Addr) (rt2 : Addr) (ra3 : Addr) (rt3 : Addr) (kc2 : ClassId) (kc3 : ClassId) (ca0 : Int32) (cb0 : Int32) (cb1 : Int32) (cb2 : Int32) (kw0 : Addr) (G1 : Int32) (kw5 : Addr) (h0 : Heap) (n0 : Nat) (v : Option Value) (h : Heap) (L : List Loc) : Prop := (v = some (.int (own_isv ra1 kw0 kw5 (own_ica [ca0] [cb0, cb1, cb2]))) ∧ Fr n0 L ∧ h = h0)
theorem rm10_26 (l : Launch) (Z : State) (a0 : Array Value) (hw : HW Z a0) (ra0 : Addr) (ra1 : Addr) (ra2 : Addr) (rt2 : Addr) (ra3 : Addr) (rt3 : Addr) (kc2 : ClassId) (kc3 : ClassId) (ca0 : Int32) (cb0 : Int32) (cb1 : Int32) (cb2 : Int32) (kw0 : Addr) (G1 : Int32) (kw5 : Addr) (h0 : Heap) (n0 : Nat) (OLD : Old Z n0 h0) (E_ra0 : Exa Z h0 ra0 "com/example/agave/agave/query/Tokens$Token") (F_kind_ra0 : Fld Z h0 ra0 "com/example/agave/agave/query/Tokens$Token" "kind" "Lcom/example/agave/agave/query/Tokens$Kind;" (.ref ra1)) (F_text_ra0 : Fld Z h0 ra0 "com/example/agave/agave/query/Tokens$Token" "text" "Ljava/lang/String;" (.ref ra2)) (E_ra2 : Exa Z h0 ra2 "java/lang/String") (F_coder_ra2 : Fld Z h0 ra2 "java/lang/String" "coder" "B" (.int (0 : Int32))) (F_value_ra2 : Fld Z h0 ra2 "java/lang/String" "value" "[B" (.ref rt2)) (V_rt2 : Arv Z h0 rt2 kc2 .byte (1 : Int32) [(.int (ca0.toInt8.toInt32))] (.int (0 : Int32))) (E_ra3 : Exa Z h0 ra3 "java/lang/String") (F_coder_ra3 : Fld Z h0 ra3 "java/lang/String" "coder" "B" (.int (0 : Int32))) (F_value_ra3 : Fld Z h0 ra3 "java/lang/String" "value" "[B" (.ref rt3)) (V_rt3 : Arv Z h0 rt3 kc3 .byte (3 : Int32) [(.int (cb0.toInt8.toInt32)), (.int (cb1.toInt8.toInt32)), (.int (cb2.toInt8.toInt32))] (.int (0 : Int32))) (hl_ca0 : ¬ ca0 < 0 ∧ ¬ (255 : Int32) < ca0) (hl_cb0 : ¬ cb0 < 0 ∧ ¬ (255 : Int32) < cb0) (hl_cb1 : ¬ cb1 < 0 ∧ ¬ (255 : Int32) < cb1) (hl_cb2 : ¬ cb2 < 0 ∧ ¬ (255 : Int32) < cb2) (hk15 : ¬ (ra2 = ra3)) (SK0 : Sta Z Z.heap "com/example/agave/agave/query/Tokens$Kind" "WORD" "Lcom/example/agave/agave/query/Tokens$Kind;" (.ref kw0)) (EK0 : Exa Z Z.heap kw0 "com/example/agave/agave/query/Tokens$Kind") (O2 : Sta Z Z.heap "java/lang/String" "COMPACT_STRINGS" "Z" (.int G1)) (P5 : ¬ (G1 = (0 : Int32))) (SK5 : Sta Z Z.heap "com/example/agave/agave/query/Tokens$Kind" "SYMBOL" "Lcom/example/agave/agave/query/Tokens$Kind;" (.ref kw5)) (EK5 : Exa Z Z.heap kw5 "com/example/agave/agave/query/Tokens$Kind") :
    own_CN l Z y7 prog_6_method_6_code 2 (some .boolean) [] R10_26 #[(.ref ra0), (.ref ra3)] h0 (Q10_26 Z ra0 ra1 ra2 rt2 ra3 rt3 kc2 kc3 ca0 cb0 cb1 cb2 kw0 G1 kw5 h0 n0) := by
  refine own_entryN (plainFor_of_name pn_2) fun p e s m below meth c s₁ hx hby hml hown hnm hret hlk hZ hh X0 e0 => ?_
  have N0 := Fr.nil n0
  rw [ef_10_26 m ra0 ra3]
  refine og s₁ (mkF m 1 #[vR ra0, vR ra3] [(.ref ra0)]) (fun _ k => XS.aloadN X0.here hx rfl (hb hby d10_0) rfl rfl k) ?_
  obtain ⟨T1, X1, e1, st1⟩ := getF X0 hx hZ hown (host := "") (Or.inl (own_w hw 51)) Via.refl e0 F_kind_ra0 (g := (mkF m 1 #[vR ra0, vR ra3] [(.ref ra0)])) rfl rfl (hb hby d10_1)
  refine og T1 (mkF m 4 #[vR ra0, vR ra3] [(.ref ra1)]) st1 ?_
  obtain ⟨T2, X2, e2, st2⟩ := getS2 X1 hx hZ hown (host := "") (Or.inl (own_w hw 64)) Via.refl e1 (SK0.ext OLD.2) (g := (mkF m 4 #[vR ra0, vR ra3] [(.ref ra1)])) rfl (hb hby d10_4)
  refine og T2 (mkF m 7 #[vR ra0, vR ra3] [(.ref kw0), (.ref ra1)]) st2 ?_
  by_cases hc3 : ra1 = kw0
  · refine og T2 (mkF m 21 #[vR ra0, vR ra3] [(.ref ra0)]) (fun _ k => Jvm.RoadKit.acmp (g := (mkF m 7 #[vR ra0, vR ra3] [(.ref kw0), (.ref ra1)])) X2 hx rfl rfl rfl (pc0 := 7) (pc' := 20) (same := true) rfl (hb hby d10_7) rfl (decide_eq_true (congrArg Value.ref hc3)) (by decide) (by decide) (XS.aloadN X2.here hx rfl (hb hby d10_20) rfl rfl k)) ?_
    obtain ⟨T4, X4, e4, st4⟩ := getF X2 hx hZ hown (host := "") (Or.inl (own_w hw 53)) Via.refl e2 F_text_ra0 (g := (mkF m 21 #[vR ra0, vR ra3] [(.ref ra0)])) rfl rfl (hb hby d10_21)
    refine og T4 (mkF m 24 #[vR ra0, vR ra3] [(.ref ra2)]) st4 ?_
    refine og T4 (mkF m 25 #[vR ra0, vR ra3] [(.ref ra3), (.ref ra2)]) (fun _ k => XS.aloadN X4.here hx rfl (hb hby d10_24) rfl rfl k) ?_
    obtain ⟨cq5, kq5, q5a, q5b, q5c⟩ := isOf hZ e4 E_ra2
    obtain ⟨_, _, ⟨T5, L5, k5, n5⟩, -, X5, ⟨Lc5, hQ5, l5, y5, z5⟩, st5⟩ := X4.virtualBack hx (y := y6) (z := y6) hown (mvT hZ (own_w hw 65)) (mvT hZ (own_w hw 66)) (notFace_of_selects (args := #[]) (mvT hZ (own_w hw 68))) (mvT hZ (own_w hw 68)) (mvT hZ (own_w hw 67)) (by decide) (backOf (W := 0) (rm11_27 l Z a0 hw ra2 rt2 kc2 ca0 ra3 rt3 kc3 cb0 cb1 cb2 G1 h0 n0 OLD E_ra2 F_coder_ra2 F_value_ra2 hl_ca0 V_rt2 E_ra3 F_coder_ra3 F_value_ra3 hl_cb0 hl_cb1 hl_cb2 V_rt3 hk15 O2 P5) hZ (own_w hw 69) (own_w hw 14) (lb rfl) (lb rfl)) q5a q5c (g := (mkF m 25 #[vR ra0, vR ra3] [(.ref ra3), (.ref ra2)])) rfl (by rw [hml]; rfl) (Steps.refl _) (argsL := [(.ref ra3)]) (rest := []) (lenOf pd_5 rfl) rfl (lb rfl) (hb hby d10_25) (fun _ _ => ⟨rfl, e4, (lb rfl), (lb rfl)⟩)
    dsimp only [Pt.U, Pt.locs, Pt.cells, Pt.slots] at X5 l5 y5 z5 st5 hQ5
    subst l5 y5 z5
    obtain ⟨rfl, Nq5, eq5⟩ := hQ5
    have N5 := Fr.app N0 Nq5
    refine ot T5 (mkF m 28 #[vR ra0, vR ra3] [(.int (own_ica [ca0] [cb0, cb1, cb2]))]) st5 ?_
    by_cases hc6 : (own_ica [ca0] [cb0, cb1, cb2]) = (0 : Int32)
    · refine og T5 (mkF m 36 #[vR ra0, vR ra3] [(.int (0 : Int32))]) (fun _ k => XS.ifYes X5.here hx rfl (pc0 := 28) (pc' := 35) rfl (hb hby d10_28) rfl ((if0 _ _).trans (teq hc6).1) (by decide) (by decide) (XS.iconst X5.here hx rfl (hb hby d10_35) k)) ?_
      exact own_leaveN X5 hlk (v := some (.int (nar .boolean (0 : Int32)))) (fun h => by rw [hret] at h; cases h) (lb rfl) (lb rfl) (by rw [eq5]; exact ⟨(by show some (Value.int (0 : Int32)) = _; exact congrArg (fun z => some (Value.int z)) (Eq.symm (Eq.trans (if_pos hc3) (hc6)))), N5, rfl⟩) (fun fs hr => retN X5 hx (t := .boolean) hret (by simp) (hb hby d10_36) hr)
    · refine og T5 (mkF m 36 #[vR ra0, vR ra3] [(.int (1 : Int32))]) (fun _ k => XS.ifNo X5.here hx rfl (hb hby d10_28) rfl ((if0 _ _).trans (feq hc6).1) (XS.iconst X5.here hx rfl (hb hby d10_31) (XS.goto X5.here hx rfl (pc0 := 32) (pc' := 36) rfl (hb hby d10_32) (by decide) (by decide) k))) ?_
      exact own_leaveN X5 hlk (v := some (.int (nar .boolean (1 : Int32)))) (fun h => by rw [hret] at h; cases h) (lb rfl) (lb rfl) (by rw [eq5]; exact ⟨(by show some (Value.int (1 : Int32)) = _; exact congrArg (fun z => some (Value.int z)) (Eq.symm (Eq.trans (if_pos hc3) ((own_ica01 _ _).resolve_left hc6)))), N5, rfl⟩) (fun fs hr => retN X5 hx (t := .boolean) hret (by simp) (hb hby d10_36) hr)
  · refine og T2 (mkF m 11 #[vR ra0, vR ra3] [(.ref ra0)]) (fun _ k => Jvm.RoadKit.acmp (g := (mkF m 7 #[vR ra0, vR ra3] [(.ref kw0), (.ref ra1)])) X2 hx rfl rfl rfl (pc0 := 7) (pc' := 10) (same := false) rfl (hb hby d10_7) rfl (decide_eq_false fun q => hc3 (Value.ref.inj q)) (by decide) (by decide) (XS.aloadN X2.here hx rfl (hb hby d10_10) rfl rfl k)) ?_
    obtain ⟨T7, X7, e7, st7⟩ := getF X2 hx hZ hown (host := "") (Or.inl (own_w hw 51)) Via.refl e2 F_kind_ra0 (g := (mkF m 11 #[vR ra0, vR ra3] [(.ref ra0)])) rfl rfl (hb hby d10_11)
    refine og T7 (mkF m 14 #[vR ra0, vR ra3] [(.ref ra1)]) st7 ?_
    obtain ⟨T8, X8, e8, st8⟩ := getS2 X7 hx hZ hown (host := "") (Or.inl (own_w hw 82)) Via.refl e7 (SK5.ext OLD.2) (g := (mkF m 14 #[vR ra0, vR ra3] [(.ref ra1)])) rfl (hb hby d10_14)
    refine og T8 (mkF m 17 #[vR ra0, vR ra3] [(.ref kw5), (.ref ra1)]) st8 ?_
    by_cases hc9 : ra1 = kw5
    · refine og T8 (mkF m 21 #[vR ra0, vR ra3] [(.ref ra0)]) (fun _ k => Jvm.RoadKit.acmp (g := (mkF m 17 #[vR ra0, vR ra3] [(.ref kw5), (.ref ra1)])) X8 hx rfl rfl rfl (pc0 := 17) (pc' := 20) (same := true) rfl (hb hby d10_17) rfl (decide_eq_true (congrArg Value.ref hc9)) (by decide) (by decide) (XS.aloadN X8.here hx rfl (hb hby d10_20) rfl rfl k)) ?_
      obtain ⟨T10, X10, e10, st10⟩ := getF X8 hx hZ hown (host := "") (Or.inl (own_w hw 53)) Via.refl e8 F_text_ra0 (g := (mkF m 21 #[vR ra0, vR ra3] [(.ref ra0)])) rfl rfl (hb hby d10_21)
      refine og T10 (mkF m 24 #[vR ra0, vR ra3] [(.ref ra2)]) st10 ?_
      refine og T10 (mkF m 25 #[vR ra0, vR ra3] [(.ref ra3), (.ref ra2)]) (fun _ k => XS.aloadN X10.here hx rfl (hb hby d10_24) rfl rfl k) ?_
      obtain ⟨cq11, kq11, q11a, q11b, q11c⟩ := isOf hZ e10 E_ra2
      obtain ⟨_, _, ⟨T11, L11, k11, n11⟩, -, X11, ⟨Lc11, hQ11, l11, y11, z11⟩, st11⟩ := X10.virtualBack hx (y := y6) (z := y6) hown (mvT hZ (own_w hw 65)) (mvT hZ (own_w hw 66)) (notFace_of_selects (args := #[]) (mvT hZ (own_w hw 68))) (mvT hZ (own_w hw 68)) (mvT hZ (own_w hw 67)) (by decide) (backOf (W := 0) (rm11_27 l Z a0 hw ra2 rt2 kc2 ca0 ra3 rt3 kc3 cb0 cb1 cb2 G1 h0 n0 OLD E_ra2 F_coder_ra2 F_value_ra2 hl_ca0 V_rt2 E_ra3 F_coder_ra3 F_value_ra3 hl_cb0 hl_cb1 hl_cb2 V_rt3 hk15 O2 P5) hZ (own_w hw 69) (own_w hw 14) (lb rfl) (lb rfl)) q11a q11c (g := (mkF m 25 #[vR ra0, vR ra3] [(.ref ra3), (.ref ra2)])) rfl (by rw [hml]; rfl) (Steps.refl _) (argsL := [(.ref ra3)]) (rest := []) (lenOf pd_5 rfl) rfl (lb rfl) (hb hby d10_25) (fun _ _ => ⟨rfl, e10, (lb rfl), (lb rfl)⟩)
      dsimp only [Pt.U, Pt.locs, Pt.cells, Pt.slots] at X11 l11 y11 z11 st11 hQ11
      subst l11 y11 z11
      obtain ⟨rfl, Nq11, eq11⟩ := hQ11
      have N11 := Fr.app N0 Nq11
      refine ot T11 (mkF m 28 #[vR ra0, vR ra3] [(.int (own_ica [ca0] [cb0, cb1, cb2]))]) st11 ?_
      by_cases hc12 : (own_ica [ca0] [cb0, cb1, cb2]) = (0 : Int32)
      · refine og T11 (mkF m 36 #[vR ra0, vR ra3] [(.int (0 : Int32))]) (fun _ k => XS.ifYes X11.here hx rfl (pc0 := 28) (pc' := 35) rfl (hb hby d10_28) rfl ((if0 _ _).trans (teq hc12).1) (by decide) (by decide) (XS.iconst X11.here hx rfl (hb hby d10_35) k)) ?_
        exact own_leaveN X11 hlk (v := some (.int (nar .boolean (0 : Int32)))) (fun h => by rw [hret] at h; cases h) (lb rfl) (lb rfl) (by rw [eq11]; exact ⟨(by show some (Value.int (0 : Int32)) = _; exact congrArg (fun z => some (Value.int z)) (Eq.symm (Eq.trans ((if_neg hc3).trans (if_pos hc9)) (hc12)))), N11, rfl⟩) (fun fs hr => retN X11 hx (t := .boolean) hret (by simp) (hb hby d10_36) hr)
      · refine og T11 (mkF m 36 #[vR ra0, vR ra3] [(.int (1 : Int32))]) (fun _ k => XS.ifNo X11.here hx rfl (hb hby d10_28) rfl ((if0 _ _).trans (feq hc12).1) (XS.iconst X11.here hx rfl (hb hby d10_31) (XS.goto X11.here hx rfl (pc0 := 32) (pc' := 36) rfl (hb hby d10_32) (by decide) (by decide) k))) ?_
        exact own_leaveN X11 hlk (v := some (.int (nar .boolean (1 : Int32)))) (fun h => by rw [hret] at h; cases h) (lb rfl) (lb rfl) (by rw [eq11]; exact ⟨(by show some (Value.int (1 : Int32)) = _; exact congrArg (fun z => some (Value.int z)) (Eq.symm (Eq.trans ((if_neg hc3).trans (if_pos hc9)) ((own_ica01 _ _).resolve_left hc12)))), N11, rfl⟩) (fun fs hr => retN X11 hx (t := .boolean) hret (by simp) (hb hby d10_36) hr)
    · refine og T8 (mkF m 36 #[vR ra0, vR ra3] [(.int (0 : Int32))]) (fun _ k => Jvm.RoadKit.acmp (g := (mkF m 17 #[vR ra0, vR ra3] [(.ref kw5), (.ref ra1)])) X8 hx rfl rfl rfl (pc0 := 17) (pc' := 35) (same := false) rfl (hb hby d10_17) rfl (decide_eq_false fun q => hc9 (Value.ref.inj q)) (by decide) (by decide) (XS.iconst X8.here hx rfl (hb hby d10_35) k)) ?_
      exact own_leaveN X8 hlk (v := some (.int (nar .boolean (0 : Int32)))) (fun h => by rw [hret] at h; cases h) (lb rfl) (lb rfl) (by rw [e8]; exact ⟨(by show some (Value.int (0 : Int32)) = _; exact congrArg (fun z => some (Value.int z)) (Eq.symm ((if_neg hc3).trans (if_neg hc9)))), N0, rfl⟩) (fun fs hr => retN X8 hx (t := .boolean) hret (by simp) (hb hby d10_36) hr)
abbrev R11_29 : Room := { frames := 2, cells := 0, slots := 0, locals := 26 }
def Q11_29 (Z : State) (ra0 : Addr) (ra1 : Addr) (kc2 : ClassId) (ci3 : Int32) (ci4 : Int32) (ra5 : Addr) (ra6 : Addr) (kc7 : ClassId) (G1 : Int32) (h0 : Heap) (n0 : Nat) (v : Option Value) (h : Heap) (L : List Loc) : Prop := (v = some (.int (own_ica [ci3, ci4] [])) ∧ Fr n0 L ∧ h = h0)
theorem rm11_29 (l : Launch) (Z : State) (a0 : Array Value) (hw : HW Z a0) (ra0 : Addr) (ra1 : Addr) (kc2 : ClassId) (ci3 : Int32) (ci4 : Int32) (ra5 : Addr) (ra6 : Addr) (kc7 : ClassId) (G1 : Int32) (h0 : Heap) (n0 : Nat) (OLD : Old Z n0 h0) (E_ra0 : Exa Z h0 ra0 "java/lang/String") (F_coder_ra0 : Fld Z h0 ra0 "java/lang/String" "coder" "B" (.int (0 : Int32))) (F_value_ra0 : Fld Z h0 ra0 "java/lang/String" "value" "[B" (.ref ra1)) (hl_ci3 : ¬ ci3 < 0 ∧ ¬ (255 : Int32) < ci3) (hl_ci4 : ¬ ci4 < 0 ∧ ¬ (255 : Int32) < ci4) (V_ra1 : Arv Z h0 ra1 kc2 .byte (2 : Int32) [(.int (ci3.toInt8.toInt32)), (.int (ci4.toInt8.toInt32))] (.int (0 : Int32))) (E_ra5 : Exa Z h0 ra5 "java/lang/String") (F_coder_ra5 : Fld Z h0 ra5 "java/lang/String" "coder" "B" (.int (0 : Int32))) (F_value_ra5 : Fld Z h0 ra5 "java/lang/String" "value" "[B" (.ref ra6)) (V_ra6 : Arv Z h0 ra6 kc7 .byte (0 : Int32) [] (.int (0 : Int32))) (hk10 : ¬ (ra0 = ra5)) (O2 : Sta Z Z.heap "java/lang/String" "COMPACT_STRINGS" "Z" (.int G1)) (P5 : ¬ (G1 = (0 : Int32))) :
    own_CN l Z y6 jdk_42_method_70_code 2 (some .boolean) [] R11_29 #[(.ref ra0), (.ref ra5)] h0 (Q11_29 Z ra0 ra1 kc2 ci3 ci4 ra5 ra6 kc7 G1 h0 n0) := by
  refine own_entryN (plainFor_of_name pn_0) fun p e s m below meth c s₁ hx hby hml hown hnm hret hlk hZ hh X0 e0 => ?_
  have N0 := Fr.nil n0
  rw [ef_11_29 m ra0 ra5]
  refine og s₁ (mkF m 14 #[vR ra0, vR ra5] [(.ref ra5)]) (fun _ k => XS.aloadN X0.here hx rfl (hb hby d11_0) rfl rfl (XS.aloadN X0.here hx rfl (hb hby d11_1) rfl rfl (Jvm.RoadKit.acmp (g := (mkF m 2 #[vR ra0, vR ra5] [(.ref ra5), (.ref ra0)])) X0 hx rfl rfl rfl (pc0 := 2) (pc' := 9) (same := false) rfl (hb hby d11_2) rfl (decide_eq_false fun q => hk10 (Value.ref.inj q)) (by decide) (by decide) (XS.aloadN X0.here hx rfl (hb hby d11_9) rfl rfl (XS.ifnullNo X0.here hx rfl (hb hby d11_10) rfl (XS.aloadN X0.here hx rfl (hb hby d11_13) rfl rfl k)))))) ?_
  have hp1 : ∀ c ∈ ([] : List Int32), ¬ c < 0 ∧ ¬ (255 : Int32) < c := by
    intro c hc
    cases hc
  obtain ⟨cq2, kq2, q2a, q2b, q2c⟩ := isOf hZ e0 E_ra5
  obtain ⟨_, _, ⟨T2, L2, k2, n2⟩, -, X2, ⟨Lc2, hQ2, l2, y2, z2⟩, st2⟩ := X0.virtualBack hx (y := y2) (z := y2) hown (mvT hZ (own_w hw 70)) (mvT hZ (own_w hw 71)) (notFace_of_selects (args := #[]) (mvT hZ (own_w hw 73))) (mvT hZ (own_w hw 73)) (mvT hZ (own_w hw 72)) (by decide) (StrChars.Road.lenW (W := 0) hZ (own_hln hw) (kI := 4) (own_w hw 13) (cs := ([] : List Int32)) E_ra5 F_value_ra5 F_coder_ra5 V_ra6 (StrChars.Road.codOf rfl (fun c hc => (hp1 c hc).2)) (own_up _ hp1) (O2.ext OLD.2) P5 (lb rfl) (lb rfl) (lb rfl)) q2a q2c (g := (mkF m 14 #[vR ra0, vR ra5] [(.ref ra5)])) rfl (by rw [hml]; rfl) (Steps.refl _) (argsL := []) (rest := []) (lenOf pd_1 rfl) rfl (lb rfl) (hb hby d11_14) (fun _ _ => ⟨rfl, e0, (lb rfl), (lb rfl)⟩)
  dsimp only [Pt.U, Pt.locs, Pt.cells, Pt.slots] at X2 l2 y2 z2 st2 hQ2
  subst l2 y2 z2
  obtain ⟨rfl, rfl, eq2⟩ := hQ2
  have N2 := Fr.app N0 (Fr.nil n0)
  refine ot T2 (mkF m 17 #[vR ra0, vR ra5] [(.int (0 : Int32))]) st2 ?_
  refine og T2 (mkF m 18 #[vR ra0, vR ra5] [(.ref ra0), (.int (0 : Int32))]) (fun _ k => XS.aloadN X2.here hx rfl (hb hby d11_17) rfl rfl k) ?_
  have hp3 : ∀ c ∈ ([ci3, ci4] : List Int32), ¬ c < 0 ∧ ¬ (255 : Int32) < c := by
    intro c hc
    simp only [List.mem_cons, List.not_mem_nil, or_false] at hc
    rcases hc with rfl | rfl
    · exact hl_ci3
    · exact hl_ci4
  obtain ⟨cq4, kq4, q4a, q4b, q4c⟩ := isOf hZ eq2 E_ra0
  obtain ⟨_, _, ⟨T4, L4, k4, n4⟩, -, X4, ⟨Lc4, hQ4, l4, y4, z4⟩, st4⟩ := X2.virtualBack hx (y := y2) (z := y2) hown (mvT hZ (own_w hw 70)) (mvT hZ (own_w hw 71)) (notFace_of_selects (args := #[]) (mvT hZ (own_w hw 73))) (mvT hZ (own_w hw 73)) (mvT hZ (own_w hw 72)) (by decide) (StrChars.Road.lenW (W := 1) hZ (own_hln hw) (kI := 4) (own_w hw 13) (cs := ([ci3, ci4] : List Int32)) E_ra0 F_value_ra0 F_coder_ra0 V_ra1 (StrChars.Road.codOf rfl (fun c hc => (hp3 c hc).2)) (own_up _ hp3) (O2.ext OLD.2) P5 (lb rfl) (lb rfl) (lb rfl)) q4a q4c (g := (mkF m 18 #[vR ra0, vR ra5] [(.ref ra0), (.int (0 : Int32))])) rfl (by rw [hml]; rfl) (Steps.refl _) (argsL := []) (rest := [(.int (0 : Int32))]) (lenOf pd_1 rfl) rfl (lb rfl) (hb hby d11_18) (fun _ _ => ⟨rfl, eq2, (lb rfl), (lb rfl)⟩)
  dsimp only [Pt.U, Pt.locs, Pt.cells, Pt.slots] at X4 l4 y4 z4 st4 hQ4
  subst l4 y4 z4
  obtain ⟨rfl, rfl, eq4⟩ := hQ4
  have N4 := Fr.app N2 (Fr.nil n0)
  refine ot T4 (mkF m 21 #[vR ra0, vR ra5] [(.int (2 : Int32)), (.int (0 : Int32))]) st4 ?_
  refine og T4 (mkF m 44 #[vR ra0, vR ra5] [(.int (0 : Int32))]) (fun _ k => XS.icmpYes X4.here hx rfl (pc0 := 21) (pc' := 43) rfl (hb hby d11_21) rfl (feq (by decide : ¬ ((0 : Int32) = (2 : Int32)))).2 (by decide) (by decide) (XS.iconst X4.here hx rfl (hb hby d11_43) k)) ?_
  exact own_leaveN X4 hlk (v := some (.int (nar .boolean (0 : Int32)))) (fun h => by rw [hret] at h; cases h) (lb rfl) (lb rfl) (by rw [eq4]; exact ⟨(by show some (Value.int (0 : Int32)) = _; first | rfl | (simp [own_ica]; done)), N4, rfl⟩) (fun fs hr => retN X4 hx (t := .boolean) hret (by simp) (hb hby d11_44) hr)
abbrev R10_28 : Room := { frames := 5, cells := 0, slots := 0, locals := 100 }
def Q10_28 (Z : State) (ra0 : Addr) (ra1 : Addr) (ra2 : Addr) (rt2 : Addr) (ra3 : Addr) (rt3 : Addr) (kc2 : ClassId) (kc3 : ClassId) (ca0 : Int32) (ca1 : Int32) (kw0 : Addr) (G1 : Int32) (kw5 : Addr) (h0 : Heap) (n0 : Nat) (v : Option Value) (h : Heap) (L : List Loc) : Prop := (v = some (.int (own_isv ra1 kw0 kw5 (own_ica [ca0, ca1] []))) ∧ Fr n0 L ∧ h = h0)
theorem rm10_28 (l : Launch) (Z : State) (a0 : Array Value) (hw : HW Z a0) (ra0 : Addr) (ra1 : Addr) (ra2 : Addr) (rt2 : Addr) (ra3 : Addr) (rt3 : Addr) (kc2 : ClassId) (kc3 : ClassId) (ca0 : Int32) (ca1 : Int32) (kw0 : Addr) (G1 : Int32) (kw5 : Addr) (h0 : Heap) (n0 : Nat) (OLD : Old Z n0 h0) (E_ra0 : Exa Z h0 ra0 "com/example/agave/agave/query/Tokens$Token") (F_kind_ra0 : Fld Z h0 ra0 "com/example/agave/agave/query/Tokens$Token" "kind" "Lcom/example/agave/agave/query/Tokens$Kind;" (.ref ra1)) (F_text_ra0 : Fld Z h0 ra0 "com/example/agave/agave/query/Tokens$Token" "text" "Ljava/lang/String;" (.ref ra2)) (E_ra2 : Exa Z h0 ra2 "java/lang/String") (F_coder_ra2 : Fld Z h0 ra2 "java/lang/String" "coder" "B" (.int (0 : Int32))) (F_value_ra2 : Fld Z h0 ra2 "java/lang/String" "value" "[B" (.ref rt2)) (V_rt2 : Arv Z h0 rt2 kc2 .byte (2 : Int32) [(.int (ca0.toInt8.toInt32)), (.int (ca1.toInt8.toInt32))] (.int (0 : Int32))) (E_ra3 : Exa Z h0 ra3 "java/lang/String") (F_coder_ra3 : Fld Z h0 ra3 "java/lang/String" "coder" "B" (.int (0 : Int32))) (F_value_ra3 : Fld Z h0 ra3 "java/lang/String" "value" "[B" (.ref rt3)) (V_rt3 : Arv Z h0 rt3 kc3 .byte (0 : Int32) [] (.int (0 : Int32))) (hl_ca0 : ¬ ca0 < 0 ∧ ¬ (255 : Int32) < ca0) (hl_ca1 : ¬ ca1 < 0 ∧ ¬ (255 : Int32) < ca1) (hk13 : ¬ (ra2 = ra3)) (SK0 : Sta Z Z.heap "com/example/agave/agave/query/Tokens$Kind" "WORD" "Lcom/example/agave/agave/query/Tokens$Kind;" (.ref kw0)) (EK0 : Exa Z Z.heap kw0 "com/example/agave/agave/query/Tokens$Kind") (O2 : Sta Z Z.heap "java/lang/String" "COMPACT_STRINGS" "Z" (.int G1)) (P5 : ¬ (G1 = (0 : Int32))) (SK5 : Sta Z Z.heap "com/example/agave/agave/query/Tokens$Kind" "SYMBOL" "Lcom/example/agave/agave/query/Tokens$Kind;" (.ref kw5)) (EK5 : Exa Z Z.heap kw5 "com/example/agave/agave/query/Tokens$Kind") :
    own_CN l Z y7 prog_6_method_6_code 2 (some .boolean) [] R10_28 #[(.ref ra0), (.ref ra3)] h0 (Q10_28 Z ra0 ra1 ra2 rt2 ra3 rt3 kc2 kc3 ca0 ca1 kw0 G1 kw5 h0 n0) := by
  refine own_entryN (plainFor_of_name pn_2) fun p e s m below meth c s₁ hx hby hml hown hnm hret hlk hZ hh X0 e0 => ?_
  have N0 := Fr.nil n0
  rw [ef_10_28 m ra0 ra3]
  refine og s₁ (mkF m 1 #[vR ra0, vR ra3] [(.ref ra0)]) (fun _ k => XS.aloadN X0.here hx rfl (hb hby d10_0) rfl rfl k) ?_
  obtain ⟨T1, X1, e1, st1⟩ := getF X0 hx hZ hown (host := "") (Or.inl (own_w hw 51)) Via.refl e0 F_kind_ra0 (g := (mkF m 1 #[vR ra0, vR ra3] [(.ref ra0)])) rfl rfl (hb hby d10_1)
  refine og T1 (mkF m 4 #[vR ra0, vR ra3] [(.ref ra1)]) st1 ?_
  obtain ⟨T2, X2, e2, st2⟩ := getS2 X1 hx hZ hown (host := "") (Or.inl (own_w hw 64)) Via.refl e1 (SK0.ext OLD.2) (g := (mkF m 4 #[vR ra0, vR ra3] [(.ref ra1)])) rfl (hb hby d10_4)
  refine og T2 (mkF m 7 #[vR ra0, vR ra3] [(.ref kw0), (.ref ra1)]) st2 ?_
  by_cases hc3 : ra1 = kw0
  · refine og T2 (mkF m 21 #[vR ra0, vR ra3] [(.ref ra0)]) (fun _ k => Jvm.RoadKit.acmp (g := (mkF m 7 #[vR ra0, vR ra3] [(.ref kw0), (.ref ra1)])) X2 hx rfl rfl rfl (pc0 := 7) (pc' := 20) (same := true) rfl (hb hby d10_7) rfl (decide_eq_true (congrArg Value.ref hc3)) (by decide) (by decide) (XS.aloadN X2.here hx rfl (hb hby d10_20) rfl rfl k)) ?_
    obtain ⟨T4, X4, e4, st4⟩ := getF X2 hx hZ hown (host := "") (Or.inl (own_w hw 53)) Via.refl e2 F_text_ra0 (g := (mkF m 21 #[vR ra0, vR ra3] [(.ref ra0)])) rfl rfl (hb hby d10_21)
    refine og T4 (mkF m 24 #[vR ra0, vR ra3] [(.ref ra2)]) st4 ?_
    refine og T4 (mkF m 25 #[vR ra0, vR ra3] [(.ref ra3), (.ref ra2)]) (fun _ k => XS.aloadN X4.here hx rfl (hb hby d10_24) rfl rfl k) ?_
    obtain ⟨cq5, kq5, q5a, q5b, q5c⟩ := isOf hZ e4 E_ra2
    obtain ⟨_, _, ⟨T5, L5, k5, n5⟩, -, X5, ⟨Lc5, hQ5, l5, y5, z5⟩, st5⟩ := X4.virtualBack hx (y := y6) (z := y6) hown (mvT hZ (own_w hw 65)) (mvT hZ (own_w hw 66)) (notFace_of_selects (args := #[]) (mvT hZ (own_w hw 68))) (mvT hZ (own_w hw 68)) (mvT hZ (own_w hw 67)) (by decide) (backOf (W := 0) (rm11_29 l Z a0 hw ra2 rt2 kc2 ca0 ca1 ra3 rt3 kc3 G1 h0 n0 OLD E_ra2 F_coder_ra2 F_value_ra2 hl_ca0 hl_ca1 V_rt2 E_ra3 F_coder_ra3 F_value_ra3 V_rt3 hk13 O2 P5) hZ (own_w hw 69) (own_w hw 14) (lb rfl) (lb rfl)) q5a q5c (g := (mkF m 25 #[vR ra0, vR ra3] [(.ref ra3), (.ref ra2)])) rfl (by rw [hml]; rfl) (Steps.refl _) (argsL := [(.ref ra3)]) (rest := []) (lenOf pd_5 rfl) rfl (lb rfl) (hb hby d10_25) (fun _ _ => ⟨rfl, e4, (lb rfl), (lb rfl)⟩)
    dsimp only [Pt.U, Pt.locs, Pt.cells, Pt.slots] at X5 l5 y5 z5 st5 hQ5
    subst l5 y5 z5
    obtain ⟨rfl, Nq5, eq5⟩ := hQ5
    have N5 := Fr.app N0 Nq5
    refine ot T5 (mkF m 28 #[vR ra0, vR ra3] [(.int (own_ica [ca0, ca1] []))]) st5 ?_
    by_cases hc6 : (own_ica [ca0, ca1] []) = (0 : Int32)
    · refine og T5 (mkF m 36 #[vR ra0, vR ra3] [(.int (0 : Int32))]) (fun _ k => XS.ifYes X5.here hx rfl (pc0 := 28) (pc' := 35) rfl (hb hby d10_28) rfl ((if0 _ _).trans (teq hc6).1) (by decide) (by decide) (XS.iconst X5.here hx rfl (hb hby d10_35) k)) ?_
      exact own_leaveN X5 hlk (v := some (.int (nar .boolean (0 : Int32)))) (fun h => by rw [hret] at h; cases h) (lb rfl) (lb rfl) (by rw [eq5]; exact ⟨(by show some (Value.int (0 : Int32)) = _; exact congrArg (fun z => some (Value.int z)) (Eq.symm (Eq.trans (if_pos hc3) (hc6)))), N5, rfl⟩) (fun fs hr => retN X5 hx (t := .boolean) hret (by simp) (hb hby d10_36) hr)
    · refine og T5 (mkF m 36 #[vR ra0, vR ra3] [(.int (1 : Int32))]) (fun _ k => XS.ifNo X5.here hx rfl (hb hby d10_28) rfl ((if0 _ _).trans (feq hc6).1) (XS.iconst X5.here hx rfl (hb hby d10_31) (XS.goto X5.here hx rfl (pc0 := 32) (pc' := 36) rfl (hb hby d10_32) (by decide) (by decide) k))) ?_
      exact own_leaveN X5 hlk (v := some (.int (nar .boolean (1 : Int32)))) (fun h => by rw [hret] at h; cases h) (lb rfl) (lb rfl) (by rw [eq5]; exact ⟨(by show some (Value.int (1 : Int32)) = _; exact congrArg (fun z => some (Value.int z)) (Eq.symm (Eq.trans (if_pos hc3) ((own_ica01 _ _).resolve_left hc6)))), N5, rfl⟩) (fun fs hr => retN X5 hx (t := .boolean) hret (by simp) (hb hby d10_36) hr)
  · refine og T2 (mkF m 11 #[vR ra0, vR ra3] [(.ref ra0)]) (fun _ k => Jvm.RoadKit.acmp (g := (mkF m 7 #[vR ra0, vR ra3] [(.ref kw0), (.ref ra1)])) X2 hx rfl rfl rfl (pc0 := 7) (pc' := 10) (same := false) rfl (hb hby d10_7) rfl (decide_eq_false fun q => hc3 (Value.ref.inj q)) (by decide) (by decide) (XS.aloadN X2.here hx rfl (hb hby d10_10) rfl rfl k)) ?_
    obtain ⟨T7, X7, e7, st7⟩ := getF X2 hx hZ hown (host := "") (Or.inl (own_w hw 51)) Via.refl e2 F_kind_ra0 (g := (mkF m 11 #[vR ra0, vR ra3] [(.ref ra0)])) rfl rfl (hb hby d10_11)
    refine og T7 (mkF m 14 #[vR ra0, vR ra3] [(.ref ra1)]) st7 ?_
    obtain ⟨T8, X8, e8, st8⟩ := getS2 X7 hx hZ hown (host := "") (Or.inl (own_w hw 82)) Via.refl e7 (SK5.ext OLD.2) (g := (mkF m 14 #[vR ra0, vR ra3] [(.ref ra1)])) rfl (hb hby d10_14)
    refine og T8 (mkF m 17 #[vR ra0, vR ra3] [(.ref kw5), (.ref ra1)]) st8 ?_
    by_cases hc9 : ra1 = kw5
    · refine og T8 (mkF m 21 #[vR ra0, vR ra3] [(.ref ra0)]) (fun _ k => Jvm.RoadKit.acmp (g := (mkF m 17 #[vR ra0, vR ra3] [(.ref kw5), (.ref ra1)])) X8 hx rfl rfl rfl (pc0 := 17) (pc' := 20) (same := true) rfl (hb hby d10_17) rfl (decide_eq_true (congrArg Value.ref hc9)) (by decide) (by decide) (XS.aloadN X8.here hx rfl (hb hby d10_20) rfl rfl k)) ?_
      obtain ⟨T10, X10, e10, st10⟩ := getF X8 hx hZ hown (host := "") (Or.inl (own_w hw 53)) Via.refl e8 F_text_ra0 (g := (mkF m 21 #[vR ra0, vR ra3] [(.ref ra0)])) rfl rfl (hb hby d10_21)
      refine og T10 (mkF m 24 #[vR ra0, vR ra3] [(.ref ra2)]) st10 ?_
      refine og T10 (mkF m 25 #[vR ra0, vR ra3] [(.ref ra3), (.ref ra2)]) (fun _ k => XS.aloadN X10.here hx rfl (hb hby d10_24) rfl rfl k) ?_
      obtain ⟨cq11, kq11, q11a, q11b, q11c⟩ := isOf hZ e10 E_ra2
      obtain ⟨_, _, ⟨T11, L11, k11, n11⟩, -, X11, ⟨Lc11, hQ11, l11, y11, z11⟩, st11⟩ := X10.virtualBack hx (y := y6) (z := y6) hown (mvT hZ (own_w hw 65)) (mvT hZ (own_w hw 66)) (notFace_of_selects (args := #[]) (mvT hZ (own_w hw 68))) (mvT hZ (own_w hw 68)) (mvT hZ (own_w hw 67)) (by decide) (backOf (W := 0) (rm11_29 l Z a0 hw ra2 rt2 kc2 ca0 ca1 ra3 rt3 kc3 G1 h0 n0 OLD E_ra2 F_coder_ra2 F_value_ra2 hl_ca0 hl_ca1 V_rt2 E_ra3 F_coder_ra3 F_value_ra3 V_rt3 hk13 O2 P5) hZ (own_w hw 69) (own_w hw 14) (lb rfl) (lb rfl)) q11a q11c (g := (mkF m 25 #[vR ra0, vR ra3] [(.ref ra3), (.ref ra2)])) rfl (by rw [hml]; rfl) (Steps.refl _) (argsL := [(.ref ra3)]) (rest := []) (lenOf pd_5 rfl) rfl (lb rfl) (hb hby d10_25) (fun _ _ => ⟨rfl, e10, (lb rfl), (lb rfl)⟩)
      dsimp only [Pt.U, Pt.locs, Pt.cells, Pt.slots] at X11 l11 y11 z11 st11 hQ11
      subst l11 y11 z11
      obtain ⟨rfl, Nq11, eq11⟩ := hQ11
      have N11 := Fr.app N0 Nq11
      refine ot T11 (mkF m 28 #[vR ra0, vR ra3] [(.int (own_ica [ca0, ca1] []))]) st11 ?_
      by_cases hc12 : (own_ica [ca0, ca1] []) = (0 : Int32)
      · refine og T11 (mkF m 36 #[vR ra0, vR ra3] [(.int (0 : Int32))]) (fun _ k => XS.ifYes X11.here hx rfl (pc0 := 28) (pc' := 35) rfl (hb hby d10_28) rfl ((if0 _ _).trans (teq hc12).1) (by decide) (by decide) (XS.iconst X11.here hx rfl (hb hby d10_35) k)) ?_
        exact own_leaveN X11 hlk (v := some (.int (nar .boolean (0 : Int32)))) (fun h => by rw [hret] at h; cases h) (lb rfl) (lb rfl) (by rw [eq11]; exact ⟨(by show some (Value.int (0 : Int32)) = _; exact congrArg (fun z => some (Value.int z)) (Eq.symm (Eq.trans ((if_neg hc3).trans (if_pos hc9)) (hc12)))), N11, rfl⟩) (fun fs hr => retN X11 hx (t := .boolean) hret (by simp) (hb hby d10_36) hr)
      · refine og T11 (mkF m 36 #[vR ra0, vR ra3] [(.int (1 : Int32))]) (fun _ k => XS.ifNo X11.here hx rfl (hb hby d10_28) rfl ((if0 _ _).trans (feq hc12).1) (XS.iconst X11.here hx rfl (hb hby d10_31) (XS.goto X11.here hx rfl (pc0 := 32) (pc' := 36) rfl (hb hby d10_32) (by decide) (by decide) k))) ?_
        exact own_leaveN X11 hlk (v := some (.int (nar .boolean (1 : Int32)))) (fun h => by rw [hret] at h; cases h) (lb rfl) (lb rfl) (by rw [eq11]; exact ⟨(by show some (Value.int (1 : Int32)) = _; exact congrArg (fun z => some (Value.int z)) (Eq.symm (Eq.trans ((if_neg hc3).trans (if_pos hc9)) ((own_ica01 _ _).resolve_left hc12)))), N11, rfl⟩) (fun fs hr => retN X11 hx (t := .boolean) hret (by simp) (hb hby d10_36) hr)
    · refine og T8 (mkF m 36 #[vR ra0, vR ra3] [(.int (0 : Int32))]) (fun _ k => Jvm.RoadKit.acmp (g := (mkF m 17 #[vR ra0, vR ra3] [(.ref kw5), (.ref ra1)])) X8 hx rfl rfl rfl (pc0 := 17) (pc' := 35) (same := false) rfl (hb hby d10_17) rfl (decide_eq_false fun q => hc9 (Value.ref.inj q)) (by decide) (by decide) (XS.iconst X8.here hx rfl (hb hby d10_35) k)) ?_
      exact own_leaveN X8 hlk (v := some (.int (nar .boolean (0 : Int32)))) (fun h => by rw [hret] at h; cases h) (lb rfl) (lb rfl) (by rw [e8]; exact ⟨(by show some (Value.int (0 : Int32)) = _; exact congrArg (fun z => some (Value.int z)) (Eq.symm ((if_neg hc3).trans (if_neg hc9)))), N0, rfl⟩) (fun fs hr => retN X8 hx (t := .boolean) hret (by simp) (hb hby d10_36) hr)
abbrev R11_31 : Room := { frames := 2, cells := 0, slots := 0, locals := 26 }
def Q11_31 (Z : State) (ra0 : Addr) (ra1 : Addr) (kc2 : ClassId) (ci3 : Int32) (ci4 : Int32) (ra5 : Addr) (ra6 : Addr) (kc7 : ClassId) (ci8 : Int32) (G1 : Int32) (h0 : Heap) (n0 : Nat) (v : Option Value) (h : Heap) (L : List Loc) : Prop := (v = some (.int (own_ica [ci3, ci4] [ci8])) ∧ Fr n0 L ∧ h = h0)
theorem rm11_31 (l : Launch) (Z : State) (a0 : Array Value) (hw : HW Z a0) (ra0 : Addr) (ra1 : Addr) (kc2 : ClassId) (ci3 : Int32) (ci4 : Int32) (ra5 : Addr) (ra6 : Addr) (kc7 : ClassId) (ci8 : Int32) (G1 : Int32) (h0 : Heap) (n0 : Nat) (OLD : Old Z n0 h0) (E_ra0 : Exa Z h0 ra0 "java/lang/String") (F_coder_ra0 : Fld Z h0 ra0 "java/lang/String" "coder" "B" (.int (0 : Int32))) (F_value_ra0 : Fld Z h0 ra0 "java/lang/String" "value" "[B" (.ref ra1)) (hl_ci3 : ¬ ci3 < 0 ∧ ¬ (255 : Int32) < ci3) (hl_ci4 : ¬ ci4 < 0 ∧ ¬ (255 : Int32) < ci4) (V_ra1 : Arv Z h0 ra1 kc2 .byte (2 : Int32) [(.int (ci3.toInt8.toInt32)), (.int (ci4.toInt8.toInt32))] (.int (0 : Int32))) (E_ra5 : Exa Z h0 ra5 "java/lang/String") (F_coder_ra5 : Fld Z h0 ra5 "java/lang/String" "coder" "B" (.int (0 : Int32))) (F_value_ra5 : Fld Z h0 ra5 "java/lang/String" "value" "[B" (.ref ra6)) (hl_ci8 : ¬ ci8 < 0 ∧ ¬ (255 : Int32) < ci8) (V_ra6 : Arv Z h0 ra6 kc7 .byte (1 : Int32) [(.int (ci8.toInt8.toInt32))] (.int (0 : Int32))) (hk11 : ¬ (ra0 = ra5)) (O2 : Sta Z Z.heap "java/lang/String" "COMPACT_STRINGS" "Z" (.int G1)) (P5 : ¬ (G1 = (0 : Int32))) :
    own_CN l Z y6 jdk_42_method_70_code 2 (some .boolean) [] R11_31 #[(.ref ra0), (.ref ra5)] h0 (Q11_31 Z ra0 ra1 kc2 ci3 ci4 ra5 ra6 kc7 ci8 G1 h0 n0) := by
  refine own_entryN (plainFor_of_name pn_0) fun p e s m below meth c s₁ hx hby hml hown hnm hret hlk hZ hh X0 e0 => ?_
  have N0 := Fr.nil n0
  rw [ef_11_31 m ra0 ra5]
  refine og s₁ (mkF m 14 #[vR ra0, vR ra5] [(.ref ra5)]) (fun _ k => XS.aloadN X0.here hx rfl (hb hby d11_0) rfl rfl (XS.aloadN X0.here hx rfl (hb hby d11_1) rfl rfl (Jvm.RoadKit.acmp (g := (mkF m 2 #[vR ra0, vR ra5] [(.ref ra5), (.ref ra0)])) X0 hx rfl rfl rfl (pc0 := 2) (pc' := 9) (same := false) rfl (hb hby d11_2) rfl (decide_eq_false fun q => hk11 (Value.ref.inj q)) (by decide) (by decide) (XS.aloadN X0.here hx rfl (hb hby d11_9) rfl rfl (XS.ifnullNo X0.here hx rfl (hb hby d11_10) rfl (XS.aloadN X0.here hx rfl (hb hby d11_13) rfl rfl k)))))) ?_
  have hp1 : ∀ c ∈ ([ci8] : List Int32), ¬ c < 0 ∧ ¬ (255 : Int32) < c := by
    intro c hc
    simp only [List.mem_cons, List.not_mem_nil, or_false] at hc
    rcases hc with rfl
    · exact hl_ci8
  obtain ⟨cq2, kq2, q2a, q2b, q2c⟩ := isOf hZ e0 E_ra5
  obtain ⟨_, _, ⟨T2, L2, k2, n2⟩, -, X2, ⟨Lc2, hQ2, l2, y2, z2⟩, st2⟩ := X0.virtualBack hx (y := y2) (z := y2) hown (mvT hZ (own_w hw 70)) (mvT hZ (own_w hw 71)) (notFace_of_selects (args := #[]) (mvT hZ (own_w hw 73))) (mvT hZ (own_w hw 73)) (mvT hZ (own_w hw 72)) (by decide) (StrChars.Road.lenW (W := 0) hZ (own_hln hw) (kI := 4) (own_w hw 13) (cs := ([ci8] : List Int32)) E_ra5 F_value_ra5 F_coder_ra5 V_ra6 (StrChars.Road.codOf rfl (fun c hc => (hp1 c hc).2)) (own_up _ hp1) (O2.ext OLD.2) P5 (lb rfl) (lb rfl) (lb rfl)) q2a q2c (g := (mkF m 14 #[vR ra0, vR ra5] [(.ref ra5)])) rfl (by rw [hml]; rfl) (Steps.refl _) (argsL := []) (rest := []) (lenOf pd_1 rfl) rfl (lb rfl) (hb hby d11_14) (fun _ _ => ⟨rfl, e0, (lb rfl), (lb rfl)⟩)
  dsimp only [Pt.U, Pt.locs, Pt.cells, Pt.slots] at X2 l2 y2 z2 st2 hQ2
  subst l2 y2 z2
  obtain ⟨rfl, rfl, eq2⟩ := hQ2
  have N2 := Fr.app N0 (Fr.nil n0)
  refine ot T2 (mkF m 17 #[vR ra0, vR ra5] [(.int (1 : Int32))]) st2 ?_
  refine og T2 (mkF m 18 #[vR ra0, vR ra5] [(.ref ra0), (.int (1 : Int32))]) (fun _ k => XS.aloadN X2.here hx rfl (hb hby d11_17) rfl rfl k) ?_
  have hp3 : ∀ c ∈ ([ci3, ci4] : List Int32), ¬ c < 0 ∧ ¬ (255 : Int32) < c := by
    intro c hc
    simp only [List.mem_cons, List.not_mem_nil, or_false] at hc
    rcases hc with rfl | rfl
    · exact hl_ci3
    · exact hl_ci4
  obtain ⟨cq4, kq4, q4a, q4b, q4c⟩ := isOf hZ eq2 E_ra0
  obtain ⟨_, _, ⟨T4, L4, k4, n4⟩, -, X4, ⟨Lc4, hQ4, l4, y4, z4⟩, st4⟩ := X2.virtualBack hx (y := y2) (z := y2) hown (mvT hZ (own_w hw 70)) (mvT hZ (own_w hw 71)) (notFace_of_selects (args := #[]) (mvT hZ (own_w hw 73))) (mvT hZ (own_w hw 73)) (mvT hZ (own_w hw 72)) (by decide) (StrChars.Road.lenW (W := 1) hZ (own_hln hw) (kI := 4) (own_w hw 13) (cs := ([ci3, ci4] : List Int32)) E_ra0 F_value_ra0 F_coder_ra0 V_ra1 (StrChars.Road.codOf rfl (fun c hc => (hp3 c hc).2)) (own_up _ hp3) (O2.ext OLD.2) P5 (lb rfl) (lb rfl) (lb rfl)) q4a q4c (g := (mkF m 18 #[vR ra0, vR ra5] [(.ref ra0), (.int (1 : Int32))])) rfl (by rw [hml]; rfl) (Steps.refl _) (argsL := []) (rest := [(.int (1 : Int32))]) (lenOf pd_1 rfl) rfl (lb rfl) (hb hby d11_18) (fun _ _ => ⟨rfl, eq2, (lb rfl), (lb rfl)⟩)
  dsimp only [Pt.U, Pt.locs, Pt.cells, Pt.slots] at X4 l4 y4 z4 st4 hQ4
  subst l4 y4 z4
  obtain ⟨rfl, rfl, eq4⟩ := hQ4
  have N4 := Fr.app N2 (Fr.nil n0)
  refine ot T4 (mkF m 21 #[vR ra0, vR ra5] [(.int (2 : Int32)), (.int (1 : Int32))]) st4 ?_
  refine og T4 (mkF m 44 #[vR ra0, vR ra5] [(.int (0 : Int32))]) (fun _ k => XS.icmpYes X4.here hx rfl (pc0 := 21) (pc' := 43) rfl (hb hby d11_21) rfl (feq (by decide : ¬ ((1 : Int32) = (2 : Int32)))).2 (by decide) (by decide) (XS.iconst X4.here hx rfl (hb hby d11_43) k)) ?_
  exact own_leaveN X4 hlk (v := some (.int (nar .boolean (0 : Int32)))) (fun h => by rw [hret] at h; cases h) (lb rfl) (lb rfl) (by rw [eq4]; exact ⟨(by show some (Value.int (0 : Int32)) = _; first | rfl | (simp [own_ica]; done)), N4, rfl⟩) (fun fs hr => retN X4 hx (t := .boolean) hret (by simp) (hb hby d11_44) hr)
abbrev R10_30 : Room := { frames := 5, cells := 0, slots := 0, locals := 100 }
def Q10_30 (Z : State) (ra0 : Addr) (ra1 : Addr) (ra2 : Addr) (rt2 : Addr) (ra3 : Addr) (rt3 : Addr) (kc2 : ClassId) (kc3 : ClassId) (ca0 : Int32) (ca1 : Int32) (cb0 : Int32) (kw0 : Addr) (G1 : Int32) (kw5 : Addr) (h0 : Heap) (n0 : Nat) (v : Option Value) (h : Heap) (L : List Loc) : Prop := (v = some (.int (own_isv ra1 kw0 kw5 (own_ica [ca0, ca1] [cb0]))) ∧ Fr n0 L ∧ h = h0)
theorem rm10_30 (l : Launch) (Z : State) (a0 : Array Value) (hw : HW Z a0) (ra0 : Addr) (ra1 : Addr) (ra2 : Addr) (rt2 : Addr) (ra3 : Addr) (rt3 : Addr) (kc2 : ClassId) (kc3 : ClassId) (ca0 : Int32) (ca1 : Int32) (cb0 : Int32) (kw0 : Addr) (G1 : Int32) (kw5 : Addr) (h0 : Heap) (n0 : Nat) (OLD : Old Z n0 h0) (E_ra0 : Exa Z h0 ra0 "com/example/agave/agave/query/Tokens$Token") (F_kind_ra0 : Fld Z h0 ra0 "com/example/agave/agave/query/Tokens$Token" "kind" "Lcom/example/agave/agave/query/Tokens$Kind;" (.ref ra1)) (F_text_ra0 : Fld Z h0 ra0 "com/example/agave/agave/query/Tokens$Token" "text" "Ljava/lang/String;" (.ref ra2)) (E_ra2 : Exa Z h0 ra2 "java/lang/String") (F_coder_ra2 : Fld Z h0 ra2 "java/lang/String" "coder" "B" (.int (0 : Int32))) (F_value_ra2 : Fld Z h0 ra2 "java/lang/String" "value" "[B" (.ref rt2)) (V_rt2 : Arv Z h0 rt2 kc2 .byte (2 : Int32) [(.int (ca0.toInt8.toInt32)), (.int (ca1.toInt8.toInt32))] (.int (0 : Int32))) (E_ra3 : Exa Z h0 ra3 "java/lang/String") (F_coder_ra3 : Fld Z h0 ra3 "java/lang/String" "coder" "B" (.int (0 : Int32))) (F_value_ra3 : Fld Z h0 ra3 "java/lang/String" "value" "[B" (.ref rt3)) (V_rt3 : Arv Z h0 rt3 kc3 .byte (1 : Int32) [(.int (cb0.toInt8.toInt32))] (.int (0 : Int32))) (hl_ca0 : ¬ ca0 < 0 ∧ ¬ (255 : Int32) < ca0) (hl_ca1 : ¬ ca1 < 0 ∧ ¬ (255 : Int32) < ca1) (hl_cb0 : ¬ cb0 < 0 ∧ ¬ (255 : Int32) < cb0) (hk14 : ¬ (ra2 = ra3)) (SK0 : Sta Z Z.heap "com/example/agave/agave/query/Tokens$Kind" "WORD" "Lcom/example/agave/agave/query/Tokens$Kind;" (.ref kw0)) (EK0 : Exa Z Z.heap kw0 "com/example/agave/agave/query/Tokens$Kind") (O2 : Sta Z Z.heap "java/lang/String" "COMPACT_STRINGS" "Z" (.int G1)) (P5 : ¬ (G1 = (0 : Int32))) (SK5 : Sta Z Z.heap "com/example/agave/agave/query/Tokens$Kind" "SYMBOL" "Lcom/example/agave/agave/query/Tokens$Kind;" (.ref kw5)) (EK5 : Exa Z Z.heap kw5 "com/example/agave/agave/query/Tokens$Kind") :
    own_CN l Z y7 prog_6_method_6_code 2 (some .boolean) [] R10_30 #[(.ref ra0), (.ref ra3)] h0 (Q10_30 Z ra0 ra1 ra2 rt2 ra3 rt3 kc2 kc3 ca0 ca1 cb0 kw0 G1 kw5 h0 n0) := by
  refine own_entryN (plainFor_of_name pn_2) fun p e s m below meth c s₁ hx hby hml hown hnm hret hlk hZ hh X0 e0 => ?_
  have N0 := Fr.nil n0
  rw [ef_10_30 m ra0 ra3]
  refine og s₁ (mkF m 1 #[vR ra0, vR ra3] [(.ref ra0)]) (fun _ k => XS.aloadN X0.here hx rfl (hb hby d10_0) rfl rfl k) ?_
  obtain ⟨T1, X1, e1, st1⟩ := getF X0 hx hZ hown (host := "") (Or.inl (own_w hw 51)) Via.refl e0 F_kind_ra0 (g := (mkF m 1 #[vR ra0, vR ra3] [(.ref ra0)])) rfl rfl (hb hby d10_1)
  refine og T1 (mkF m 4 #[vR ra0, vR ra3] [(.ref ra1)]) st1 ?_
  obtain ⟨T2, X2, e2, st2⟩ := getS2 X1 hx hZ hown (host := "") (Or.inl (own_w hw 64)) Via.refl e1 (SK0.ext OLD.2) (g := (mkF m 4 #[vR ra0, vR ra3] [(.ref ra1)])) rfl (hb hby d10_4)
  refine og T2 (mkF m 7 #[vR ra0, vR ra3] [(.ref kw0), (.ref ra1)]) st2 ?_
  by_cases hc3 : ra1 = kw0
  · refine og T2 (mkF m 21 #[vR ra0, vR ra3] [(.ref ra0)]) (fun _ k => Jvm.RoadKit.acmp (g := (mkF m 7 #[vR ra0, vR ra3] [(.ref kw0), (.ref ra1)])) X2 hx rfl rfl rfl (pc0 := 7) (pc' := 20) (same := true) rfl (hb hby d10_7) rfl (decide_eq_true (congrArg Value.ref hc3)) (by decide) (by decide) (XS.aloadN X2.here hx rfl (hb hby d10_20) rfl rfl k)) ?_
    obtain ⟨T4, X4, e4, st4⟩ := getF X2 hx hZ hown (host := "") (Or.inl (own_w hw 53)) Via.refl e2 F_text_ra0 (g := (mkF m 21 #[vR ra0, vR ra3] [(.ref ra0)])) rfl rfl (hb hby d10_21)
    refine og T4 (mkF m 24 #[vR ra0, vR ra3] [(.ref ra2)]) st4 ?_
    refine og T4 (mkF m 25 #[vR ra0, vR ra3] [(.ref ra3), (.ref ra2)]) (fun _ k => XS.aloadN X4.here hx rfl (hb hby d10_24) rfl rfl k) ?_
    obtain ⟨cq5, kq5, q5a, q5b, q5c⟩ := isOf hZ e4 E_ra2
    obtain ⟨_, _, ⟨T5, L5, k5, n5⟩, -, X5, ⟨Lc5, hQ5, l5, y5, z5⟩, st5⟩ := X4.virtualBack hx (y := y6) (z := y6) hown (mvT hZ (own_w hw 65)) (mvT hZ (own_w hw 66)) (notFace_of_selects (args := #[]) (mvT hZ (own_w hw 68))) (mvT hZ (own_w hw 68)) (mvT hZ (own_w hw 67)) (by decide) (backOf (W := 0) (rm11_31 l Z a0 hw ra2 rt2 kc2 ca0 ca1 ra3 rt3 kc3 cb0 G1 h0 n0 OLD E_ra2 F_coder_ra2 F_value_ra2 hl_ca0 hl_ca1 V_rt2 E_ra3 F_coder_ra3 F_value_ra3 hl_cb0 V_rt3 hk14 O2 P5) hZ (own_w hw 69) (own_w hw 14) (lb rfl) (lb rfl)) q5a q5c (g := (mkF m 25 #[vR ra0, vR ra3] [(.ref ra3), (.ref ra2)])) rfl (by rw [hml]; rfl) (Steps.refl _) (argsL := [(.ref ra3)]) (rest := []) (lenOf pd_5 rfl) rfl (lb rfl) (hb hby d10_25) (fun _ _ => ⟨rfl, e4, (lb rfl), (lb rfl)⟩)
    dsimp only [Pt.U, Pt.locs, Pt.cells, Pt.slots] at X5 l5 y5 z5 st5 hQ5
    subst l5 y5 z5
    obtain ⟨rfl, Nq5, eq5⟩ := hQ5
    have N5 := Fr.app N0 Nq5
    refine ot T5 (mkF m 28 #[vR ra0, vR ra3] [(.int (own_ica [ca0, ca1] [cb0]))]) st5 ?_
    by_cases hc6 : (own_ica [ca0, ca1] [cb0]) = (0 : Int32)
    · refine og T5 (mkF m 36 #[vR ra0, vR ra3] [(.int (0 : Int32))]) (fun _ k => XS.ifYes X5.here hx rfl (pc0 := 28) (pc' := 35) rfl (hb hby d10_28) rfl ((if0 _ _).trans (teq hc6).1) (by decide) (by decide) (XS.iconst X5.here hx rfl (hb hby d10_35) k)) ?_
      exact own_leaveN X5 hlk (v := some (.int (nar .boolean (0 : Int32)))) (fun h => by rw [hret] at h; cases h) (lb rfl) (lb rfl) (by rw [eq5]; exact ⟨(by show some (Value.int (0 : Int32)) = _; exact congrArg (fun z => some (Value.int z)) (Eq.symm (Eq.trans (if_pos hc3) (hc6)))), N5, rfl⟩) (fun fs hr => retN X5 hx (t := .boolean) hret (by simp) (hb hby d10_36) hr)
    · refine og T5 (mkF m 36 #[vR ra0, vR ra3] [(.int (1 : Int32))]) (fun _ k => XS.ifNo X5.here hx rfl (hb hby d10_28) rfl ((if0 _ _).trans (feq hc6).1) (XS.iconst X5.here hx rfl (hb hby d10_31) (XS.goto X5.here hx rfl (pc0 := 32) (pc' := 36) rfl (hb hby d10_32) (by decide) (by decide) k))) ?_
      exact own_leaveN X5 hlk (v := some (.int (nar .boolean (1 : Int32)))) (fun h => by rw [hret] at h; cases h) (lb rfl) (lb rfl) (by rw [eq5]; exact ⟨(by show some (Value.int (1 : Int32)) = _; exact congrArg (fun z => some (Value.int z)) (Eq.symm (Eq.trans (if_pos hc3) ((own_ica01 _ _).resolve_left hc6)))), N5, rfl⟩) (fun fs hr => retN X5 hx (t := .boolean) hret (by simp) (hb hby d10_36) hr)
  · refine og T2 (mkF m 11 #[vR ra0, vR ra3] [(.ref ra0)]) (fun _ k => Jvm.RoadKit.acmp (g := (mkF m 7 #[vR ra0, vR ra3] [(.ref kw0), (.ref ra1)])) X2 hx rfl rfl rfl (pc0 := 7) (pc' := 10) (same := false) rfl (hb hby d10_7) rfl (decide_eq_false fun q => hc3 (Value.ref.inj q)) (by decide) (by decide) (XS.aloadN X2.here hx rfl (hb hby d10_10) rfl rfl k)) ?_
    obtain ⟨T7, X7, e7, st7⟩ := getF X2 hx hZ hown (host := "") (Or.inl (own_w hw 51)) Via.refl e2 F_kind_ra0 (g := (mkF m 11 #[vR ra0, vR ra3] [(.ref ra0)])) rfl rfl (hb hby d10_11)
    refine og T7 (mkF m 14 #[vR ra0, vR ra3] [(.ref ra1)]) st7 ?_
    obtain ⟨T8, X8, e8, st8⟩ := getS2 X7 hx hZ hown (host := "") (Or.inl (own_w hw 82)) Via.refl e7 (SK5.ext OLD.2) (g := (mkF m 14 #[vR ra0, vR ra3] [(.ref ra1)])) rfl (hb hby d10_14)
    refine og T8 (mkF m 17 #[vR ra0, vR ra3] [(.ref kw5), (.ref ra1)]) st8 ?_
    by_cases hc9 : ra1 = kw5
    · refine og T8 (mkF m 21 #[vR ra0, vR ra3] [(.ref ra0)]) (fun _ k => Jvm.RoadKit.acmp (g := (mkF m 17 #[vR ra0, vR ra3] [(.ref kw5), (.ref ra1)])) X8 hx rfl rfl rfl (pc0 := 17) (pc' := 20) (same := true) rfl (hb hby d10_17) rfl (decide_eq_true (congrArg Value.ref hc9)) (by decide) (by decide) (XS.aloadN X8.here hx rfl (hb hby d10_20) rfl rfl k)) ?_
      obtain ⟨T10, X10, e10, st10⟩ := getF X8 hx hZ hown (host := "") (Or.inl (own_w hw 53)) Via.refl e8 F_text_ra0 (g := (mkF m 21 #[vR ra0, vR ra3] [(.ref ra0)])) rfl rfl (hb hby d10_21)
      refine og T10 (mkF m 24 #[vR ra0, vR ra3] [(.ref ra2)]) st10 ?_
      refine og T10 (mkF m 25 #[vR ra0, vR ra3] [(.ref ra3), (.ref ra2)]) (fun _ k => XS.aloadN X10.here hx rfl (hb hby d10_24) rfl rfl k) ?_
      obtain ⟨cq11, kq11, q11a, q11b, q11c⟩ := isOf hZ e10 E_ra2
      obtain ⟨_, _, ⟨T11, L11, k11, n11⟩, -, X11, ⟨Lc11, hQ11, l11, y11, z11⟩, st11⟩ := X10.virtualBack hx (y := y6) (z := y6) hown (mvT hZ (own_w hw 65)) (mvT hZ (own_w hw 66)) (notFace_of_selects (args := #[]) (mvT hZ (own_w hw 68))) (mvT hZ (own_w hw 68)) (mvT hZ (own_w hw 67)) (by decide) (backOf (W := 0) (rm11_31 l Z a0 hw ra2 rt2 kc2 ca0 ca1 ra3 rt3 kc3 cb0 G1 h0 n0 OLD E_ra2 F_coder_ra2 F_value_ra2 hl_ca0 hl_ca1 V_rt2 E_ra3 F_coder_ra3 F_value_ra3 hl_cb0 V_rt3 hk14 O2 P5) hZ (own_w hw 69) (own_w hw 14) (lb rfl) (lb rfl)) q11a q11c (g := (mkF m 25 #[vR ra0, vR ra3] [(.ref ra3), (.ref ra2)])) rfl (by rw [hml]; rfl) (Steps.refl _) (argsL := [(.ref ra3)]) (rest := []) (lenOf pd_5 rfl) rfl (lb rfl) (hb hby d10_25) (fun _ _ => ⟨rfl, e10, (lb rfl), (lb rfl)⟩)
      dsimp only [Pt.U, Pt.locs, Pt.cells, Pt.slots] at X11 l11 y11 z11 st11 hQ11
      subst l11 y11 z11
      obtain ⟨rfl, Nq11, eq11⟩ := hQ11
      have N11 := Fr.app N0 Nq11
      refine ot T11 (mkF m 28 #[vR ra0, vR ra3] [(.int (own_ica [ca0, ca1] [cb0]))]) st11 ?_
      by_cases hc12 : (own_ica [ca0, ca1] [cb0]) = (0 : Int32)
      · refine og T11 (mkF m 36 #[vR ra0, vR ra3] [(.int (0 : Int32))]) (fun _ k => XS.ifYes X11.here hx rfl (pc0 := 28) (pc' := 35) rfl (hb hby d10_28) rfl ((if0 _ _).trans (teq hc12).1) (by decide) (by decide) (XS.iconst X11.here hx rfl (hb hby d10_35) k)) ?_
        exact own_leaveN X11 hlk (v := some (.int (nar .boolean (0 : Int32)))) (fun h => by rw [hret] at h; cases h) (lb rfl) (lb rfl) (by rw [eq11]; exact ⟨(by show some (Value.int (0 : Int32)) = _; exact congrArg (fun z => some (Value.int z)) (Eq.symm (Eq.trans ((if_neg hc3).trans (if_pos hc9)) (hc12)))), N11, rfl⟩) (fun fs hr => retN X11 hx (t := .boolean) hret (by simp) (hb hby d10_36) hr)
      · refine og T11 (mkF m 36 #[vR ra0, vR ra3] [(.int (1 : Int32))]) (fun _ k => XS.ifNo X11.here hx rfl (hb hby d10_28) rfl ((if0 _ _).trans (feq hc12).1) (XS.iconst X11.here hx rfl (hb hby d10_31) (XS.goto X11.here hx rfl (pc0 := 32) (pc' := 36) rfl (hb hby d10_32) (by decide) (by decide) k))) ?_
        exact own_leaveN X11 hlk (v := some (.int (nar .boolean (1 : Int32)))) (fun h => by rw [hret] at h; cases h) (lb rfl) (lb rfl) (by rw [eq11]; exact ⟨(by show some (Value.int (1 : Int32)) = _; exact congrArg (fun z => some (Value.int z)) (Eq.symm (Eq.trans ((if_neg hc3).trans (if_pos hc9)) ((own_ica01 _ _).resolve_left hc12)))), N11, rfl⟩) (fun fs hr => retN X11 hx (t := .boolean) hret (by simp) (hb hby d10_36) hr)
    · refine og T8 (mkF m 36 #[vR ra0, vR ra3] [(.int (0 : Int32))]) (fun _ k => Jvm.RoadKit.acmp (g := (mkF m 17 #[vR ra0, vR ra3] [(.ref kw5), (.ref ra1)])) X8 hx rfl rfl rfl (pc0 := 17) (pc' := 35) (same := false) rfl (hb hby d10_17) rfl (decide_eq_false fun q => hc9 (Value.ref.inj q)) (by decide) (by decide) (XS.iconst X8.here hx rfl (hb hby d10_35) k)) ?_
      exact own_leaveN X8 hlk (v := some (.int (nar .boolean (0 : Int32)))) (fun h => by rw [hret] at h; cases h) (lb rfl) (lb rfl) (by rw [e8]; exact ⟨(by show some (Value.int (0 : Int32)) = _; exact congrArg (fun z => some (Value.int z)) (Eq.symm ((if_neg hc3).trans (if_neg hc9)))), N0, rfl⟩) (fun fs hr => retN X8 hx (t := .boolean) hret (by simp) (hb hby d10_36) hr)
abbrev R13_35 : Room := { frames := 0, cells := 0, slots := 0, locals := 0 }
def Q13_35 (Z : State) (ra0 : Addr) (ra1 : Addr) (kc2 : ClassId) (ci3 : Int32) (ci4 : Int32) (G1 : Int32) (h0 : Heap) (n0 : Nat) (v : Option Value) (h : Heap) (L : List Loc) : Prop := (v = some (.int (0 : Int32)) ∧ Fr n0 L ∧ h = h0)
theorem rm13_35 (l : Launch) (Z : State) (a0 : Array Value) (hw : HW Z a0) (ra0 : Addr) (ra1 : Addr) (kc2 : ClassId) (ci3 : Int32) (ci4 : Int32) (G1 : Int32) (h0 : Heap) (n0 : Nat) (OLD : Old Z n0 h0) (E_ra0 : Exa Z h0 ra0 "java/lang/String") (F_coder_ra0 : Fld Z h0 ra0 "java/lang/String" "coder" "B" (.int (0 : Int32))) (F_value_ra0 : Fld Z h0 ra0 "java/lang/String" "value" "[B" (.ref ra1)) (hl_ci3 : ¬ ci3 < 0 ∧ ¬ (255 : Int32) < ci3) (hl_ci4 : ¬ ci4 < 0 ∧ ¬ (255 : Int32) < ci4) (V_ra1 : Arv Z h0 ra1 kc2 .byte (2 : Int32) [(.int (ci3.toInt8.toInt32)), (.int (ci4.toInt8.toInt32))] (.int (0 : Int32))) (O2 : Sta Z Z.heap "java/lang/String" "COMPACT_STRINGS" "Z" (.int G1)) (P5 : ¬ (G1 = (0 : Int32))) :
    own_CN l Z y3 jdk_42_method_152_code 1 (some .byte) [] R13_35 #[(.ref ra0)] h0 (Q13_35 Z ra0 ra1 kc2 ci3 ci4 G1 h0 n0) := by
  refine own_entryN (plainFor_of_name pn_0) fun p e s m below meth c s₁ hx hby hml hown hnm hret hlk hZ hh X0 e0 => ?_
  have N0 := Fr.nil n0
  rw [ef_13_35 m ra0]
  obtain ⟨T1, X1, e1, st1⟩ := getS2 X0 hx hZ hown (host := "") (Or.inl (own_w hw 25)) Via.refl e0 (O2.ext OLD.2) (g := (mkF m 0 #[vR ra0] [])) rfl (hb hby d13_0)
  refine og T1 (mkF m 3 #[vR ra0] [(.int G1)]) st1 ?_
  refine og T1 (mkF m 7 #[vR ra0] [(.ref ra0)]) (fun _ k => XS.ifNo X1.here hx rfl (hb hby d13_3) rfl ((if0 _ _).trans (feq P5).1) (XS.aloadN X1.here hx rfl (hb hby d13_6) rfl rfl k)) ?_
  obtain ⟨T2, X2, e2, st2⟩ := getF X1 hx hZ hown (host := "") (Or.inl (own_w hw 37)) Via.refl e1 F_coder_ra0 (g := (mkF m 7 #[vR ra0] [(.ref ra0)])) rfl rfl (hb hby d13_7)
  refine og T2 (mkF m 10 #[vR ra0] [(.int (0 : Int32))]) st2 ?_
  refine og T2 (mkF m 14 #[vR ra0] [(.int (0 : Int32))]) (fun _ k => XS.goto X2.here hx rfl (pc0 := 10) (pc' := 14) rfl (hb hby d13_10) (by decide) (by decide) k) ?_
  exact own_leaveN X2 hlk (v := some (.int (nar .byte (0 : Int32)))) (fun h => by rw [hret] at h; cases h) (lb rfl) (lb rfl) (by rw [e2]; exact ⟨rfl, N0, rfl⟩) (fun fs hr => retN X2 hx (t := .byte) hret (by simp) (hb hby d13_14) hr)
abbrev R17_36 : Room := { frames := 1, cells := 0, slots := 0, locals := 14 }
def Q17_36 (Z : State) (ra0 : Addr) (kc1 : ClassId) (ci2 : Int32) (ci3 : Int32) (ra4 : Addr) (kc5 : ClassId) (ci6 : Int32) (ci7 : Int32) (h0 : Heap) (n0 : Nat) (v : Option Value) (h : Heap) (L : List Loc) : Prop := (v = some (.int (own_ica [ci2, ci3] [ci6, ci7])) ∧ Fr n0 L ∧ h = h0)
theorem rm17_36 (l : Launch) (Z : State) (a0 : Array Value) (hw : HW Z a0) (ra0 : Addr) (kc1 : ClassId) (ci2 : Int32) (ci3 : Int32) (ra4 : Addr) (kc5 : ClassId) (ci6 : Int32) (ci7 : Int32) (h0 : Heap) (n0 : Nat) (OLD : Old Z n0 h0) (hl_ci2 : ¬ ci2 < 0 ∧ ¬ (255 : Int32) < ci2) (hl_ci3 : ¬ ci3 < 0 ∧ ¬ (255 : Int32) < ci3) (V_ra0 : Arv Z h0 ra0 kc1 .byte (2 : Int32) [(.int (ci2.toInt8.toInt32)), (.int (ci3.toInt8.toInt32))] (.int (0 : Int32))) (hl_ci6 : ¬ ci6 < 0 ∧ ¬ (255 : Int32) < ci6) (hl_ci7 : ¬ ci7 < 0 ∧ ¬ (255 : Int32) < ci7) (V_ra4 : Arv Z h0 ra4 kc5 .byte (2 : Int32) [(.int (ci6.toInt8.toInt32)), (.int (ci7.toInt8.toInt32))] (.int (0 : Int32))) :
    own_CN l Z y4 jdk_43_method_30_code 8 (some .boolean) [] R17_36 #[(.ref ra0), (.int (0 : Int32)), (.ref ra4), (.int (0 : Int32)), (.int (2 : Int32))] h0 (Q17_36 Z ra0 kc1 ci2 ci3 ra4 kc5 ci6 ci7 h0 n0) := by
  refine own_entryN (plainFor_of_name pn_1) fun p e s m below meth c s₁ hx hby hml hown hnm hret hlk hZ hh X0 e0 => ?_
  have N0 := Fr.nil n0
  rw [ef_17_36 m ra0 ra4]
  refine og s₁ (mkF m 17 #[vR ra0, vI (1 : Int32), vR ra4, vI (0 : Int32), vI (2 : Int32), vI (2 : Int32), vU, vU] [(.int (0 : Int32)), (.ref ra0)]) (fun _ k => XS.iloadN X0.here hx rfl (hb hby d17_0) rfl (XS.iload X0.here hx rfl (hb hby d17_1) rfl (XS.iadd X0.here hx rfl (hb hby d17_3) rfl (XS.istore X0.here hx rfl (hb hby d17_4) rfl (l' := #[vR ra0, vI (0 : Int32), vR ra4, vI (0 : Int32), vI (2 : Int32), vI (2 : Int32), vU, vU]) rfl (XS.iloadN X0.here hx rfl (hb hby d17_6) rfl (XS.iload X0.here hx rfl (hb hby d17_7) rfl (XS.icmpNo X0.here hx rfl (hb hby d17_9) rfl (tlt (by decide : (0 : Int32) < (2 : Int32))).2.1 (XS.aloadN X0.here hx rfl (hb hby d17_12) rfl rfl (XS.iloadN X0.here hx rfl (hb hby d17_13) rfl (XS.iinc X0.here hx rfl (hb hby d17_14) rfl (l' := #[vR ra0, vI (1 : Int32), vR ra4, vI (0 : Int32), vI (2 : Int32), vI (2 : Int32), vU, vU]) rfl k)))))))))) ?_
  obtain ⟨cl1, Ar1, qr1, Sr1, Nr1, Hr1, Gr1⟩ := id V_ra0
  have hi1 : ¬ ((0 : Int32) < 0 ∨ cl1.slots.size ≤ ((0 : Int32)).toNatClampNeg) := inb_of Sr1 ⟨by decide, by decide⟩
  refine og s₁ (mkF m 18 #[vR ra0, vI (1 : Int32), vR ra4, vI (0 : Int32), vI (2 : Int32), vI (2 : Int32), vU, vU] [(.int (ci2.toInt8.toInt32))]) (fun t k => X0.baloadBytes hx (j := (0 : Int32)) (v := (.int (ci2.toInt8.toInt32))) (by rw [e0]; exact Ar1.1) (State.isArrayOf_alike hZ.alike Ar1.2.1) Ar1.2.2 hi1 (Has.at Hr1 hi1 rfl) (g := (mkF m 17 #[vR ra0, vI (1 : Int32), vR ra4, vI (0 : Int32), vI (2 : Int32), vI (2 : Int32), vU, vU] [(.int (0 : Int32)), (.ref ra0)])) rfl rfl (hb hby d17_17) t k) ?_
  refine og s₁ (mkF m 25 #[vR ra0, vI (1 : Int32), vR ra4, vI (1 : Int32), vI (2 : Int32), vI (2 : Int32), vI (ci2.toInt8.toInt32), vU] [(.int (0 : Int32)), (.ref ra4)]) (fun _ k => XS.istore X0.here hx rfl (hb hby d17_18) rfl (l' := #[vR ra0, vI (1 : Int32), vR ra4, vI (0 : Int32), vI (2 : Int32), vI (2 : Int32), vI (ci2.toInt8.toInt32), vU]) rfl (XS.aloadN X0.here hx rfl (hb hby d17_20) rfl rfl (XS.iloadN X0.here hx rfl (hb hby d17_21) rfl (XS.iinc X0.here hx rfl (hb hby d17_22) rfl (l' := #[vR ra0, vI (1 : Int32), vR ra4, vI (1 : Int32), vI (2 : Int32), vI (2 : Int32), vI (ci2.toInt8.toInt32), vU]) rfl k)))) ?_
  obtain ⟨cl2, Ar2, qr2, Sr2, Nr2, Hr2, Gr2⟩ := id V_ra4
  have hi2 : ¬ ((0 : Int32) < 0 ∨ cl2.slots.size ≤ ((0 : Int32)).toNatClampNeg) := inb_of Sr2 ⟨by decide, by decide⟩
  refine og s₁ (mkF m 26 #[vR ra0, vI (1 : Int32), vR ra4, vI (1 : Int32), vI (2 : Int32), vI (2 : Int32), vI (ci2.toInt8.toInt32), vU] [(.int (ci6.toInt8.toInt32))]) (fun t k => X0.baloadBytes hx (j := (0 : Int32)) (v := (.int (ci6.toInt8.toInt32))) (by rw [e0]; exact Ar2.1) (State.isArrayOf_alike hZ.alike Ar2.2.1) Ar2.2.2 hi2 (Has.at Hr2 hi2 rfl) (g := (mkF m 25 #[vR ra0, vI (1 : Int32), vR ra4, vI (1 : Int32), vI (2 : Int32), vI (2 : Int32), vI (ci2.toInt8.toInt32), vU] [(.int (0 : Int32)), (.ref ra4)])) rfl rfl (hb hby d17_25) t k) ?_
  refine og s₁ (mkF m 32 #[vR ra0, vI (1 : Int32), vR ra4, vI (1 : Int32), vI (2 : Int32), vI (2 : Int32), vI (ci2.toInt8.toInt32), vI (ci6.toInt8.toInt32)] [(.int (ci6.toInt8.toInt32)), (.int (ci2.toInt8.toInt32))]) (fun _ k => XS.istore X0.here hx rfl (hb hby d17_26) rfl (l' := #[vR ra0, vI (1 : Int32), vR ra4, vI (1 : Int32), vI (2 : Int32), vI (2 : Int32), vI (ci2.toInt8.toInt32), vI (ci6.toInt8.toInt32)]) rfl (XS.iload X0.here hx rfl (hb hby d17_28) rfl (XS.iload X0.here hx rfl (hb hby d17_30) rfl k))) ?_
  obtain ⟨_, _, ⟨T3, L3, k3, n3⟩, -, X3, ⟨Lc3, hQ3, l3, y3, z3⟩, st3⟩ := Jvm.LawKit.callS X0 hx (y := y8) hown (mvT hZ (own_w hw 108)) (mvT hZ (own_w hw 109)) (mvT hZ (own_w hw 110)) (mvT hZ (own_w hw 111)) (by decide) (backOf (W := 0) (rm18_23 l Z a0 hw ((ci2.toInt8.toInt32)) ((ci6.toInt8.toInt32)) h0 n0 OLD ) hZ (own_w hw 111) (own_w hw 110) (lb rfl) (lb rfl)) (g := (mkF m 32 #[vR ra0, vI (1 : Int32), vR ra4, vI (1 : Int32), vI (2 : Int32), vI (2 : Int32), vI (ci2.toInt8.toInt32), vI (ci6.toInt8.toInt32)] [(.int (ci6.toInt8.toInt32)), (.int (ci2.toInt8.toInt32))])) rfl (by rw [hml]; rfl) (argsL := [(.int (ci2.toInt8.toInt32)), (.int (ci6.toInt8.toInt32))]) (rest := []) (lenOf pd_6 rfl) rfl (lb rfl) (hb hby d17_32) (fun _ _ => ⟨rfl, e0, (lb rfl), (lb rfl)⟩)
  dsimp only [Pt.U, Pt.locs, Pt.cells, Pt.slots] at X3 l3 y3 z3 st3 hQ3
  subst l3 y3 z3
  obtain ⟨rfl, Nq3, eq3⟩ := hQ3
  have N3 := Fr.app N0 Nq3
  refine og T3 (mkF m 35 #[vR ra0, vI (1 : Int32), vR ra4, vI (1 : Int32), vI (2 : Int32), vI (2 : Int32), vI (ci2.toInt8.toInt32), vI (ci6.toInt8.toInt32)] [(.int (own_ic (ci2.toInt8.toInt32) (ci6.toInt8.toInt32)))]) st3 ?_
  rw [own_icq hl_ci2 hl_ci6]
  by_cases hc4 : (own_eqv ci2 ci6) = (0 : Int32)
  · refine og T3 (mkF m 42 #[vR ra0, vI (1 : Int32), vR ra4, vI (1 : Int32), vI (2 : Int32), vI (2 : Int32), vI (ci2.toInt8.toInt32), vI (ci6.toInt8.toInt32)] [(.int (0 : Int32))]) (fun _ k => XS.ifYes X3.here hx rfl (pc0 := 35) (pc' := 41) rfl (hb hby d17_35) rfl ((if0 _ _).trans (teq hc4).1) (by decide) (by decide) (XS.iconst X3.here hx rfl (hb hby d17_41) k)) ?_
    exact own_leaveN X3 hlk (v := some (.int (nar .boolean (0 : Int32)))) (fun h => by rw [hret] at h; cases h) (lb rfl) (lb rfl) (by rw [eq3]; exact ⟨(by show some (Value.int (0 : Int32)) = _; first | rfl | (simp [own_ica, hc4]; done)), N3, rfl⟩) (fun fs hr => retN X3 hx (t := .boolean) hret (by simp) (hb hby d17_42) hr)
  · refine og T3 (mkF m 17 #[vR ra0, vI (2 : Int32), vR ra4, vI (1 : Int32), vI (2 : Int32), vI (2 : Int32), vI (ci2.toInt8.toInt32), vI (ci6.toInt8.toInt32)] [(.int (1 : Int32)), (.ref ra0)]) (fun _ k => XS.ifNo X3.here hx rfl (hb hby d17_35) rfl ((if0 _ _).trans (feq hc4).1) (XS.goto X3.here hx rfl (pc0 := 38) (pc' := 6) rfl (hb hby d17_38) (by decide) (by decide) (XS.iloadN X3.here hx rfl (hb hby d17_6) rfl (XS.iload X3.here hx rfl (hb hby d17_7) rfl (XS.icmpNo X3.here hx rfl (hb hby d17_9) rfl (tlt (by decide : (1 : Int32) < (2 : Int32))).2.1 (XS.aloadN X3.here hx rfl (hb hby d17_12) rfl rfl (XS.iloadN X3.here hx rfl (hb hby d17_13) rfl (XS.iinc X3.here hx rfl (hb hby d17_14) rfl (l' := #[vR ra0, vI (2 : Int32), vR ra4, vI (1 : Int32), vI (2 : Int32), vI (2 : Int32), vI (ci2.toInt8.toInt32), vI (ci6.toInt8.toInt32)]) rfl k)))))))) ?_
    obtain ⟨cl5, Ar5, qr5, Sr5, Nr5, Hr5, Gr5⟩ := id V_ra0
    have hi5 : ¬ ((1 : Int32) < 0 ∨ cl5.slots.size ≤ ((1 : Int32)).toNatClampNeg) := inb_of Sr5 ⟨by decide, by decide⟩
    refine og T3 (mkF m 18 #[vR ra0, vI (2 : Int32), vR ra4, vI (1 : Int32), vI (2 : Int32), vI (2 : Int32), vI (ci2.toInt8.toInt32), vI (ci6.toInt8.toInt32)] [(.int (ci3.toInt8.toInt32))]) (fun t k => X3.baloadBytes hx (j := (1 : Int32)) (v := (.int (ci3.toInt8.toInt32))) (by rw [eq3]; exact Ar5.1) (State.isArrayOf_alike hZ.alike Ar5.2.1) Ar5.2.2 hi5 (Has.at Hr5 hi5 rfl) (g := (mkF m 17 #[vR ra0, vI (2 : Int32), vR ra4, vI (1 : Int32), vI (2 : Int32), vI (2 : Int32), vI (ci2.toInt8.toInt32), vI (ci6.toInt8.toInt32)] [(.int (1 : Int32)), (.ref ra0)])) rfl rfl (hb hby d17_17) t k) ?_
    refine og T3 (mkF m 25 #[vR ra0, vI (2 : Int32), vR ra4, vI (2 : Int32), vI (2 : Int32), vI (2 : Int32), vI (ci3.toInt8.toInt32), vI (ci6.toInt8.toInt32)] [(.int (1 : Int32)), (.ref ra4)]) (fun _ k => XS.istore X3.here hx rfl (hb hby d17_18) rfl (l' := #[vR ra0, vI (2 : Int32), vR ra4, vI (1 : Int32), vI (2 : Int32), vI (2 : Int32), vI (ci3.toInt8.toInt32), vI (ci6.toInt8.toInt32)]) rfl (XS.aloadN X3.here hx rfl (hb hby d17_20) rfl rfl (XS.iloadN X3.here hx rfl (hb hby d17_21) rfl (XS.iinc X3.here hx rfl (hb hby d17_22) rfl (l' := #[vR ra0, vI (2 : Int32), vR ra4, vI (2 : Int32), vI (2 : Int32), vI (2 : Int32), vI (ci3.toInt8.toInt32), vI (ci6.toInt8.toInt32)]) rfl k)))) ?_
    obtain ⟨cl6, Ar6, qr6, Sr6, Nr6, Hr6, Gr6⟩ := id V_ra4
    have hi6 : ¬ ((1 : Int32) < 0 ∨ cl6.slots.size ≤ ((1 : Int32)).toNatClampNeg) := inb_of Sr6 ⟨by decide, by decide⟩
    refine og T3 (mkF m 26 #[vR ra0, vI (2 : Int32), vR ra4, vI (2 : Int32), vI (2 : Int32), vI (2 : Int32), vI (ci3.toInt8.toInt32), vI (ci6.toInt8.toInt32)] [(.int (ci7.toInt8.toInt32))]) (fun t k => X3.baloadBytes hx (j := (1 : Int32)) (v := (.int (ci7.toInt8.toInt32))) (by rw [eq3]; exact Ar6.1) (State.isArrayOf_alike hZ.alike Ar6.2.1) Ar6.2.2 hi6 (Has.at Hr6 hi6 rfl) (g := (mkF m 25 #[vR ra0, vI (2 : Int32), vR ra4, vI (2 : Int32), vI (2 : Int32), vI (2 : Int32), vI (ci3.toInt8.toInt32), vI (ci6.toInt8.toInt32)] [(.int (1 : Int32)), (.ref ra4)])) rfl rfl (hb hby d17_25) t k) ?_
    refine og T3 (mkF m 32 #[vR ra0, vI (2 : Int32), vR ra4, vI (2 : Int32), vI (2 : Int32), vI (2 : Int32), vI (ci3.toInt8.toInt32), vI (ci7.toInt8.toInt32)] [(.int (ci7.toInt8.toInt32)), (.int (ci3.toInt8.toInt32))]) (fun _ k => XS.istore X3.here hx rfl (hb hby d17_26) rfl (l' := #[vR ra0, vI (2 : Int32), vR ra4, vI (2 : Int32), vI (2 : Int32), vI (2 : Int32), vI (ci3.toInt8.toInt32), vI (ci7.toInt8.toInt32)]) rfl (XS.iload X3.here hx rfl (hb hby d17_28) rfl (XS.iload X3.here hx rfl (hb hby d17_30) rfl k))) ?_
    obtain ⟨_, _, ⟨T7, L7, k7, n7⟩, -, X7, ⟨Lc7, hQ7, l7, y7, z7⟩, st7⟩ := Jvm.LawKit.callS X3 hx (y := y8) hown (mvT hZ (own_w hw 108)) (mvT hZ (own_w hw 109)) (mvT hZ (own_w hw 110)) (mvT hZ (own_w hw 111)) (by decide) (backOf (W := 0) (rm18_23 l Z a0 hw ((ci3.toInt8.toInt32)) ((ci7.toInt8.toInt32)) h0 n0 OLD ) hZ (own_w hw 111) (own_w hw 110) (lb rfl) (lb rfl)) (g := (mkF m 32 #[vR ra0, vI (2 : Int32), vR ra4, vI (2 : Int32), vI (2 : Int32), vI (2 : Int32), vI (ci3.toInt8.toInt32), vI (ci7.toInt8.toInt32)] [(.int (ci7.toInt8.toInt32)), (.int (ci3.toInt8.toInt32))])) rfl (by rw [hml]; rfl) (argsL := [(.int (ci3.toInt8.toInt32)), (.int (ci7.toInt8.toInt32))]) (rest := []) (lenOf pd_6 rfl) rfl (lb rfl) (hb hby d17_32) (fun _ _ => ⟨rfl, eq3, (lb rfl), (lb rfl)⟩)
    dsimp only [Pt.U, Pt.locs, Pt.cells, Pt.slots] at X7 l7 y7 z7 st7 hQ7
    subst l7 y7 z7
    obtain ⟨rfl, Nq7, eq7⟩ := hQ7
    have N7 := Fr.app N3 Nq7
    refine og T7 (mkF m 35 #[vR ra0, vI (2 : Int32), vR ra4, vI (2 : Int32), vI (2 : Int32), vI (2 : Int32), vI (ci3.toInt8.toInt32), vI (ci7.toInt8.toInt32)] [(.int (own_ic (ci3.toInt8.toInt32) (ci7.toInt8.toInt32)))]) st7 ?_
    rw [own_icq hl_ci3 hl_ci7]
    by_cases hc8 : (own_eqv ci3 ci7) = (0 : Int32)
    · refine og T7 (mkF m 42 #[vR ra0, vI (2 : Int32), vR ra4, vI (2 : Int32), vI (2 : Int32), vI (2 : Int32), vI (ci3.toInt8.toInt32), vI (ci7.toInt8.toInt32)] [(.int (0 : Int32))]) (fun _ k => XS.ifYes X7.here hx rfl (pc0 := 35) (pc' := 41) rfl (hb hby d17_35) rfl ((if0 _ _).trans (teq hc8).1) (by decide) (by decide) (XS.iconst X7.here hx rfl (hb hby d17_41) k)) ?_
      exact own_leaveN X7 hlk (v := some (.int (nar .boolean (0 : Int32)))) (fun h => by rw [hret] at h; cases h) (lb rfl) (lb rfl) (by rw [eq7]; exact ⟨(by show some (Value.int (0 : Int32)) = _; first | rfl | (simp [own_ica, hc4, hc8]; done)), N7, rfl⟩) (fun fs hr => retN X7 hx (t := .boolean) hret (by simp) (hb hby d17_42) hr)
    · refine og T7 (mkF m 44 #[vR ra0, vI (2 : Int32), vR ra4, vI (2 : Int32), vI (2 : Int32), vI (2 : Int32), vI (ci3.toInt8.toInt32), vI (ci7.toInt8.toInt32)] [(.int (1 : Int32))]) (fun _ k => XS.ifNo X7.here hx rfl (hb hby d17_35) rfl ((if0 _ _).trans (feq hc8).1) (XS.goto X7.here hx rfl (pc0 := 38) (pc' := 6) rfl (hb hby d17_38) (by decide) (by decide) (XS.iloadN X7.here hx rfl (hb hby d17_6) rfl (XS.iload X7.here hx rfl (hb hby d17_7) rfl (XS.icmpYes X7.here hx rfl (pc0 := 9) (pc' := 43) rfl (hb hby d17_9) rfl (flt (by decide : ¬ ((2 : Int32) < (2 : Int32)))).2.1 (by decide) (by decide) (XS.iconst X7.here hx rfl (hb hby d17_43) k)))))) ?_
      exact own_leaveN X7 hlk (v := some (.int (nar .boolean (1 : Int32)))) (fun h => by rw [hret] at h; cases h) (lb rfl) (lb rfl) (by rw [eq7]; exact ⟨(by show some (Value.int (1 : Int32)) = _; first | rfl | (simp [own_ica, hc4, hc8]; done)), N7, rfl⟩) (fun fs hr => retN X7 hx (t := .boolean) hret (by simp) (hb hby d17_44) hr)
abbrev R16_34 : Room := { frames := 2, cells := 0, slots := 0, locals := 33 }
def Q16_34 (Z : State) (ra0 : Addr) (ra1 : Addr) (kc2 : ClassId) (ci3 : Int32) (ci4 : Int32) (ra5 : Addr) (ra6 : Addr) (kc7 : ClassId) (ci8 : Int32) (ci9 : Int32) (G1 : Int32) (h0 : Heap) (n0 : Nat) (v : Option Value) (h : Heap) (L : List Loc) : Prop := (v = some (.int (own_ica [ci3, ci4] [ci8, ci9])) ∧ Fr n0 L ∧ h = h0)
theorem rm16_34 (l : Launch) (Z : State) (a0 : Array Value) (hw : HW Z a0) (ra0 : Addr) (ra1 : Addr) (kc2 : ClassId) (ci3 : Int32) (ci4 : Int32) (ra5 : Addr) (ra6 : Addr) (kc7 : ClassId) (ci8 : Int32) (ci9 : Int32) (G1 : Int32) (h0 : Heap) (n0 : Nat) (OLD : Old Z n0 h0) (E_ra0 : Exa Z h0 ra0 "java/lang/String") (F_coder_ra0 : Fld Z h0 ra0 "java/lang/String" "coder" "B" (.int (0 : Int32))) (F_value_ra0 : Fld Z h0 ra0 "java/lang/String" "value" "[B" (.ref ra1)) (hl_ci3 : ¬ ci3 < 0 ∧ ¬ (255 : Int32) < ci3) (hl_ci4 : ¬ ci4 < 0 ∧ ¬ (255 : Int32) < ci4) (V_ra1 : Arv Z h0 ra1 kc2 .byte (2 : Int32) [(.int (ci3.toInt8.toInt32)), (.int (ci4.toInt8.toInt32))] (.int (0 : Int32))) (E_ra5 : Exa Z h0 ra5 "java/lang/String") (F_coder_ra5 : Fld Z h0 ra5 "java/lang/String" "coder" "B" (.int (0 : Int32))) (F_value_ra5 : Fld Z h0 ra5 "java/lang/String" "value" "[B" (.ref ra6)) (hl_ci8 : ¬ ci8 < 0 ∧ ¬ (255 : Int32) < ci8) (hl_ci9 : ¬ ci9 < 0 ∧ ¬ (255 : Int32) < ci9) (V_ra6 : Arv Z h0 ra6 kc7 .byte (2 : Int32) [(.int (ci8.toInt8.toInt32)), (.int (ci9.toInt8.toInt32))] (.int (0 : Int32))) (O2 : Sta Z Z.heap "java/lang/String" "COMPACT_STRINGS" "Z" (.int G1)) (P5 : ¬ (G1 = (0 : Int32))) :
    own_CN l Z y5 jdk_42_method_74_code 9 (some .boolean) [] R16_34 #[(.ref ra0), (.int (1 : Int32)), (.int (0 : Int32)), (.ref ra5), (.int (0 : Int32)), (.int (2 : Int32))] h0 (Q16_34 Z ra0 ra1 kc2 ci3 ci4 ra5 ra6 kc7 ci8 ci9 G1 h0 n0) := by
  refine own_entryN (plainFor_of_name pn_0) fun p e s m below meth c s₁ hx hby hml hown hnm hret hlk hZ hh X0 e0 => ?_
  have N0 := Fr.nil n0
  rw [ef_16_34 m ra0 ra5]
  refine og s₁ (mkF m 27 #[vR ra0, vI (1 : Int32), vI (0 : Int32), vR ra5, vI (0 : Int32), vI (2 : Int32), vU, vU, vU] [(.ref ra0), (.long (0 : Int64))]) (fun _ k => XS.iloadN X0.here hx rfl (hb hby d16_0) rfl (XS.ifYes X0.here hx rfl (pc0 := 1) (pc' := 15) rfl (hb hby d16_1) rfl ((if0 _ _).trans (feq (by decide : ¬ ((1 : Int32) = (0 : Int32)))).2) (by decide) (by decide) (XS.iload X0.here hx rfl (hb hby d16_15) rfl (XS.ifNo X0.here hx rfl (hb hby d16_17) rfl ((if0 _ _).trans (flt (by decide : ¬ ((0 : Int32) < (0 : Int32)))).1) (XS.iloadN X0.here hx rfl (hb hby d16_20) rfl (XS.ifNo X0.here hx rfl (hb hby d16_21) rfl ((if0 _ _).trans (flt (by decide : ¬ ((0 : Int32) < (0 : Int32)))).1) (XS.iloadN X0.here hx rfl (hb hby d16_24) rfl (XS.i2l X0.here hx rfl (hb hby d16_25) rfl (XS.aloadN X0.here hx rfl (hb hby d16_26) rfl rfl k))))))))) ?_
  have hp1 : ∀ c ∈ ([ci3, ci4] : List Int32), ¬ c < 0 ∧ ¬ (255 : Int32) < c := by
    intro c hc
    simp only [List.mem_cons, List.not_mem_nil, or_false] at hc
    rcases hc with rfl | rfl
    · exact hl_ci3
    · exact hl_ci4
  obtain ⟨cq2, kq2, q2a, q2b, q2c⟩ := isOf hZ e0 E_ra0
  obtain ⟨_, _, ⟨T2, L2, k2, n2⟩, -, X2, ⟨Lc2, hQ2, l2, y2, z2⟩, st2⟩ := X0.virtualBack hx (y := y2) (z := y2) hown (mvT hZ (own_w hw 70)) (mvT hZ (own_w hw 71)) (notFace_of_selects (args := #[]) (mvT hZ (own_w hw 73))) (mvT hZ (own_w hw 73)) (mvT hZ (own_w hw 72)) (by decide) (StrChars.Road.lenW (W := 2) hZ (own_hln hw) (kI := 4) (own_w hw 13) (cs := ([ci3, ci4] : List Int32)) E_ra0 F_value_ra0 F_coder_ra0 V_ra1 (StrChars.Road.codOf rfl (fun c hc => (hp1 c hc).2)) (own_up _ hp1) (O2.ext OLD.2) P5 (lb rfl) (lb rfl) (lb rfl)) q2a q2c (g := (mkF m 27 #[vR ra0, vI (1 : Int32), vI (0 : Int32), vR ra5, vI (0 : Int32), vI (2 : Int32), vU, vU, vU] [(.ref ra0), (.long (0 : Int64))])) rfl (by rw [hml]; rfl) (Steps.refl _) (argsL := []) (rest := [(.long (0 : Int64))]) (lenOf pd_1 rfl) rfl (lb rfl) (hb hby d16_27) (fun _ _ => ⟨rfl, e0, (lb rfl), (lb rfl)⟩)
  dsimp only [Pt.U, Pt.locs, Pt.cells, Pt.slots] at X2 l2 y2 z2 st2 hQ2
  subst l2 y2 z2
  obtain ⟨rfl, rfl, eq2⟩ := hQ2
  have N2 := Fr.app N0 (Fr.nil n0)
  refine ot T2 (mkF m 30 #[vR ra0, vI (1 : Int32), vI (0 : Int32), vR ra5, vI (0 : Int32), vI (2 : Int32), vU, vU, vU] [(.int (2 : Int32)), (.long (0 : Int64))]) st2 ?_
  refine og T2 (mkF m 35 #[vR ra0, vI (1 : Int32), vI (0 : Int32), vR ra5, vI (0 : Int32), vI (2 : Int32), vU, vU, vU] [(.long (0 : Int64)), (.long (0 : Int64))]) (fun _ k => XS.i2l X2.here hx rfl (hb hby d16_30) rfl (XS.iload X2.here hx rfl (hb hby d16_31) rfl (XS.i2l X2.here hx rfl (hb hby d16_33) rfl (XS.lsub X2.here hx rfl (hb hby d16_34) rfl k)))) ?_
  refine og T2 (mkF m 36 #[vR ra0, vI (1 : Int32), vI (0 : Int32), vR ra5, vI (0 : Int32), vI (2 : Int32), vU, vU, vU] [(.int (0 : Int32))]) (fun _ k => XS.lcmp X2.here hx rfl (hb hby d16_35) rfl (by exact k)) ?_
  refine og T2 (mkF m 43 #[vR ra0, vI (1 : Int32), vI (0 : Int32), vR ra5, vI (0 : Int32), vI (2 : Int32), vU, vU, vU] [(.ref ra5), (.long (0 : Int64))]) (fun _ k => XS.ifNo X2.here hx rfl (hb hby d16_36) rfl ((if0 _ _).trans (flt (by decide : ¬ ((0 : Int32) < (0 : Int32)))).2.2.1) (XS.iload X2.here hx rfl (hb hby d16_39) rfl (XS.i2l X2.here hx rfl (hb hby d16_41) rfl (XS.aloadN X2.here hx rfl (hb hby d16_42) rfl rfl k)))) ?_
  have hp3 : ∀ c ∈ ([ci8, ci9] : List Int32), ¬ c < 0 ∧ ¬ (255 : Int32) < c := by
    intro c hc
    simp only [List.mem_cons, List.not_mem_nil, or_false] at hc
    rcases hc with rfl | rfl
    · exact hl_ci8
    · exact hl_ci9
  obtain ⟨cq4, kq4, q4a, q4b, q4c⟩ := isOf hZ eq2 E_ra5
  obtain ⟨_, _, ⟨T4, L4, k4, n4⟩, -, X4, ⟨Lc4, hQ4, l4, y4, z4⟩, st4⟩ := X2.virtualBack hx (y := y2) (z := y2) hown (mvT hZ (own_w hw 70)) (mvT hZ (own_w hw 71)) (notFace_of_selects (args := #[]) (mvT hZ (own_w hw 73))) (mvT hZ (own_w hw 73)) (mvT hZ (own_w hw 72)) (by decide) (StrChars.Road.lenW (W := 2) hZ (own_hln hw) (kI := 4) (own_w hw 13) (cs := ([ci8, ci9] : List Int32)) E_ra5 F_value_ra5 F_coder_ra5 V_ra6 (StrChars.Road.codOf rfl (fun c hc => (hp3 c hc).2)) (own_up _ hp3) (O2.ext OLD.2) P5 (lb rfl) (lb rfl) (lb rfl)) q4a q4c (g := (mkF m 43 #[vR ra0, vI (1 : Int32), vI (0 : Int32), vR ra5, vI (0 : Int32), vI (2 : Int32), vU, vU, vU] [(.ref ra5), (.long (0 : Int64))])) rfl (by rw [hml]; rfl) (Steps.refl _) (argsL := []) (rest := [(.long (0 : Int64))]) (lenOf pd_1 rfl) rfl (lb rfl) (hb hby d16_43) (fun _ _ => ⟨rfl, eq2, (lb rfl), (lb rfl)⟩)
  dsimp only [Pt.U, Pt.locs, Pt.cells, Pt.slots] at X4 l4 y4 z4 st4 hQ4
  subst l4 y4 z4
  obtain ⟨rfl, rfl, eq4⟩ := hQ4
  have N4 := Fr.app N2 (Fr.nil n0)
  refine ot T4 (mkF m 46 #[vR ra0, vI (1 : Int32), vI (0 : Int32), vR ra5, vI (0 : Int32), vI (2 : Int32), vU, vU, vU] [(.int (2 : Int32)), (.long (0 : Int64))]) st4 ?_
  refine og T4 (mkF m 51 #[vR ra0, vI (1 : Int32), vI (0 : Int32), vR ra5, vI (0 : Int32), vI (2 : Int32), vU, vU, vU] [(.long (0 : Int64)), (.long (0 : Int64))]) (fun _ k => XS.i2l X4.here hx rfl (hb hby d16_46) rfl (XS.iload X4.here hx rfl (hb hby d16_47) rfl (XS.i2l X4.here hx rfl (hb hby d16_49) rfl (XS.lsub X4.here hx rfl (hb hby d16_50) rfl k)))) ?_
  refine og T4 (mkF m 52 #[vR ra0, vI (1 : Int32), vI (0 : Int32), vR ra5, vI (0 : Int32), vI (2 : Int32), vU, vU, vU] [(.int (0 : Int32))]) (fun _ k => XS.lcmp X4.here hx rfl (hb hby d16_51) rfl (by exact k)) ?_
  refine og T4 (mkF m 58 #[vR ra0, vI (1 : Int32), vI (0 : Int32), vR ra5, vI (0 : Int32), vI (2 : Int32), vU, vU, vU] [(.ref ra0)]) (fun _ k => XS.ifYes X4.here hx rfl (pc0 := 52) (pc' := 57) rfl (hb hby d16_52) rfl ((if0 _ _).trans (flt (by decide : ¬ ((0 : Int32) < (0 : Int32)))).2.2.2) (by decide) (by decide) (XS.aloadN X4.here hx rfl (hb hby d16_57) rfl rfl k)) ?_
  obtain ⟨T5, X5, e5, st5⟩ := getF X4 hx hZ hown (host := "") (Or.inl (own_w hw 39)) Via.refl eq4 F_value_ra0 (g := (mkF m 58 #[vR ra0, vI (1 : Int32), vI (0 : Int32), vR ra5, vI (0 : Int32), vI (2 : Int32), vU, vU, vU] [(.ref ra0)])) rfl rfl (hb hby d16_58)
  refine og T5 (mkF m 61 #[vR ra0, vI (1 : Int32), vI (0 : Int32), vR ra5, vI (0 : Int32), vI (2 : Int32), vU, vU, vU] [(.ref ra1)]) st5 ?_
  refine og T5 (mkF m 64 #[vR ra0, vI (1 : Int32), vI (0 : Int32), vR ra5, vI (0 : Int32), vI (2 : Int32), vR ra1, vU, vU] [(.ref ra5)]) (fun _ k => XS.astore X5.here hx rfl (hb hby d16_61) rfl rfl (l' := #[vR ra0, vI (1 : Int32), vI (0 : Int32), vR ra5, vI (0 : Int32), vI (2 : Int32), vR ra1, vU, vU]) rfl (XS.aloadN X5.here hx rfl (hb hby d16_63) rfl rfl k)) ?_
  obtain ⟨T6, X6, e6, st6⟩ := getF X5 hx hZ hown (host := "") (Or.inl (own_w hw 39)) Via.refl e5 F_value_ra5 (g := (mkF m 64 #[vR ra0, vI (1 : Int32), vI (0 : Int32), vR ra5, vI (0 : Int32), vI (2 : Int32), vR ra1, vU, vU] [(.ref ra5)])) rfl rfl (hb hby d16_64)
  refine og T6 (mkF m 67 #[vR ra0, vI (1 : Int32), vI (0 : Int32), vR ra5, vI (0 : Int32), vI (2 : Int32), vR ra1, vU, vU] [(.ref ra6)]) st6 ?_
  refine og T6 (mkF m 70 #[vR ra0, vI (1 : Int32), vI (0 : Int32), vR ra5, vI (0 : Int32), vI (2 : Int32), vR ra1, vR ra6, vU] [(.ref ra0)]) (fun _ k => XS.astore X6.here hx rfl (hb hby d16_67) rfl rfl (l' := #[vR ra0, vI (1 : Int32), vI (0 : Int32), vR ra5, vI (0 : Int32), vI (2 : Int32), vR ra1, vR ra6, vU]) rfl (XS.aloadN X6.here hx rfl (hb hby d16_69) rfl rfl k)) ?_
  obtain ⟨cq7, kq7, q7a, q7b, q7c⟩ := isOf hZ e6 E_ra0
  obtain ⟨_, _, ⟨T7, L7, k7, n7⟩, -, X7, ⟨Lc7, hQ7, l7, y7, z7⟩, st7⟩ := X6.virtualBack hx (y := y3) (z := y3) hown (mvT hZ (own_w hw 75)) (mvT hZ (own_w hw 76)) (notFace_of_selects (args := #[]) (mvT hZ (own_w hw 78))) (mvT hZ (own_w hw 78)) (mvT hZ (own_w hw 77)) (by decide) (backOf (W := 0) (rm13_35 l Z a0 hw ra0 ra1 kc2 ci3 ci4 G1 h0 n0 OLD E_ra0 F_coder_ra0 F_value_ra0 hl_ci3 hl_ci4 V_ra1 O2 P5) hZ (own_w hw 79) (own_w hw 14) (lb rfl) (lb rfl)) q7a q7c (g := (mkF m 70 #[vR ra0, vI (1 : Int32), vI (0 : Int32), vR ra5, vI (0 : Int32), vI (2 : Int32), vR ra1, vR ra6, vU] [(.ref ra0)])) rfl (by rw [hml]; rfl) (Steps.refl _) (argsL := []) (rest := []) (lenOf pd_2 rfl) rfl (lb rfl) (hb hby d16_70) (fun _ _ => ⟨rfl, e6, (lb rfl), (lb rfl)⟩)
  dsimp only [Pt.U, Pt.locs, Pt.cells, Pt.slots] at X7 l7 y7 z7 st7 hQ7
  subst l7 y7 z7
  obtain ⟨rfl, Nq7, eq7⟩ := hQ7
  have N7 := Fr.app N4 Nq7
  refine ot T7 (mkF m 73 #[vR ra0, vI (1 : Int32), vI (0 : Int32), vR ra5, vI (0 : Int32), vI (2 : Int32), vR ra1, vR ra6, vU] [(.int (0 : Int32))]) st7 ?_
  refine og T7 (mkF m 78 #[vR ra0, vI (1 : Int32), vI (0 : Int32), vR ra5, vI (0 : Int32), vI (2 : Int32), vR ra1, vR ra6, vI (0 : Int32)] [(.ref ra5), (.int (0 : Int32))]) (fun _ k => XS.istore X7.here hx rfl (hb hby d16_73) rfl (l' := #[vR ra0, vI (1 : Int32), vI (0 : Int32), vR ra5, vI (0 : Int32), vI (2 : Int32), vR ra1, vR ra6, vI (0 : Int32)]) rfl (XS.iload X7.here hx rfl (hb hby d16_75) rfl (XS.aloadN X7.here hx rfl (hb hby d16_77) rfl rfl k))) ?_
  obtain ⟨cq8, kq8, q8a, q8b, q8c⟩ := isOf hZ eq7 E_ra5
  obtain ⟨_, _, ⟨T8, L8, k8, n8⟩, -, X8, ⟨Lc8, hQ8, l8, y8, z8⟩, st8⟩ := X7.virtualBack hx (y := y3) (z := y3) hown (mvT hZ (own_w hw 75)) (mvT hZ (own_w hw 76)) (notFace_of_selects (args := #[]) (mvT hZ (own_w hw 78))) (mvT hZ (own_w hw 78)) (mvT hZ (own_w hw 77)) (by decide) (backOf (W := 1) (rm13_35 l Z a0 hw ra5 ra6 kc7 ci8 ci9 G1 h0 n0 OLD E_ra5 F_coder_ra5 F_value_ra5 hl_ci8 hl_ci9 V_ra6 O2 P5) hZ (own_w hw 79) (own_w hw 14) (lb rfl) (lb rfl)) q8a q8c (g := (mkF m 78 #[vR ra0, vI (1 : Int32), vI (0 : Int32), vR ra5, vI (0 : Int32), vI (2 : Int32), vR ra1, vR ra6, vI (0 : Int32)] [(.ref ra5), (.int (0 : Int32))])) rfl (by rw [hml]; rfl) (Steps.refl _) (argsL := []) (rest := [(.int (0 : Int32))]) (lenOf pd_2 rfl) rfl (lb rfl) (hb hby d16_78) (fun _ _ => ⟨rfl, eq7, (lb rfl), (lb rfl)⟩)
  dsimp only [Pt.U, Pt.locs, Pt.cells, Pt.slots] at X8 l8 y8 z8 st8 hQ8
  subst l8 y8 z8
  obtain ⟨rfl, Nq8, eq8⟩ := hQ8
  have N8 := Fr.app N7 Nq8
  refine ot T8 (mkF m 81 #[vR ra0, vI (1 : Int32), vI (0 : Int32), vR ra5, vI (0 : Int32), vI (2 : Int32), vR ra1, vR ra6, vI (0 : Int32)] [(.int (0 : Int32)), (.int (0 : Int32))]) st8 ?_
  refine og T8 (mkF m 98 #[vR ra0, vI (1 : Int32), vI (0 : Int32), vR ra5, vI (0 : Int32), vI (2 : Int32), vR ra1, vR ra6, vI (0 : Int32)] [(.int (2 : Int32)), (.int (0 : Int32)), (.ref ra6), (.int (0 : Int32)), (.ref ra1)]) (fun _ k => XS.icmpNo X8.here hx rfl (hb hby d16_81) rfl (teq (by decide : (0 : Int32) = (0 : Int32))).2 (XS.iload X8.here hx rfl (hb hby d16_84) rfl (XS.ifNo X8.here hx rfl (hb hby d16_86) rfl ((if0 _ _).trans (teq (by decide : (0 : Int32) = (0 : Int32))).2) (XS.aload X8.here hx rfl (hb hby d16_89) rfl rfl (XS.iloadN X8.here hx rfl (hb hby d16_91) rfl (XS.aload X8.here hx rfl (hb hby d16_92) rfl rfl (XS.iload X8.here hx rfl (hb hby d16_94) rfl (XS.iload X8.here hx rfl (hb hby d16_96) rfl k)))))))) ?_
  obtain ⟨_, _, ⟨T9, L9, k9, n9⟩, -, X9, ⟨Lc9, hQ9, l9, y9, z9⟩, st9⟩ := Jvm.LawKit.callS X8 hx (y := y4) hown (mvT hZ (own_w hw 104)) (mvT hZ (own_w hw 105)) (mvT hZ (own_w hw 106)) (mvT hZ (own_w hw 107)) (by decide) (backOf (W := 0) (rm17_36 l Z a0 hw ra1 kc2 ci3 ci4 ra6 kc7 ci8 ci9 h0 n0 OLD hl_ci3 hl_ci4 V_ra1 hl_ci8 hl_ci9 V_ra6) hZ (own_w hw 107) (own_w hw 106) (lb rfl) (lb rfl)) (g := (mkF m 98 #[vR ra0, vI (1 : Int32), vI (0 : Int32), vR ra5, vI (0 : Int32), vI (2 : Int32), vR ra1, vR ra6, vI (0 : Int32)] [(.int (2 : Int32)), (.int (0 : Int32)), (.ref ra6), (.int (0 : Int32)), (.ref ra1)])) rfl (by rw [hml]; rfl) (argsL := [(.ref ra1), (.int (0 : Int32)), (.ref ra6), (.int (0 : Int32)), (.int (2 : Int32))]) (rest := []) (lenOf pd_3 rfl) rfl (lb rfl) (hb hby d16_98) (fun _ _ => ⟨rfl, eq8, (lb rfl), (lb rfl)⟩)
  dsimp only [Pt.U, Pt.locs, Pt.cells, Pt.slots] at X9 l9 y9 z9 st9 hQ9
  subst l9 y9 z9
  obtain ⟨rfl, Nq9, eq9⟩ := hQ9
  have N9 := Fr.app N8 Nq9
  refine og T9 (mkF m 101 #[vR ra0, vI (1 : Int32), vI (0 : Int32), vR ra5, vI (0 : Int32), vI (2 : Int32), vR ra1, vR ra6, vI (0 : Int32)] [(.int (own_ica [ci3, ci4] [ci8, ci9]))]) st9 ?_
  refine og T9 (mkF m 116 #[vR ra0, vI (1 : Int32), vI (0 : Int32), vR ra5, vI (0 : Int32), vI (2 : Int32), vR ra1, vR ra6, vI (0 : Int32)] [(.int (own_ica [ci3, ci4] [ci8, ci9]))]) (fun _ k => XS.goto X9.here hx rfl (pc0 := 101) (pc' := 116) rfl (hb hby d16_101) (by decide) (by decide) k) ?_
  exact own_leaveN X9 hlk (v := some (.int (nar .boolean (own_ica [ci3, ci4] [ci8, ci9])))) (fun h => by rw [hret] at h; cases h) (lb rfl) (lb rfl) (by rw [eq9]; exact ⟨(by first | rfl | (exact congrArg (fun z => some (Value.int z)) (own_narb _ _)) | (simp [own_ica, own_narb, *]; done)), N9, rfl⟩) (fun fs hr => retN X9 hx (t := .boolean) hret (by simp) (hb hby d16_116) hr)
abbrev R11_33 : Room := { frames := 3, cells := 0, slots := 0, locals := 53 }
def Q11_33 (Z : State) (ra0 : Addr) (ra1 : Addr) (kc2 : ClassId) (ci3 : Int32) (ci4 : Int32) (ra5 : Addr) (ra6 : Addr) (kc7 : ClassId) (ci8 : Int32) (ci9 : Int32) (G1 : Int32) (h0 : Heap) (n0 : Nat) (v : Option Value) (h : Heap) (L : List Loc) : Prop := (v = some (.int (own_ica [ci3, ci4] [ci8, ci9])) ∧ Fr n0 L ∧ h = h0)
theorem rm11_33 (l : Launch) (Z : State) (a0 : Array Value) (hw : HW Z a0) (ra0 : Addr) (ra1 : Addr) (kc2 : ClassId) (ci3 : Int32) (ci4 : Int32) (ra5 : Addr) (ra6 : Addr) (kc7 : ClassId) (ci8 : Int32) (ci9 : Int32) (G1 : Int32) (h0 : Heap) (n0 : Nat) (OLD : Old Z n0 h0) (E_ra0 : Exa Z h0 ra0 "java/lang/String") (F_coder_ra0 : Fld Z h0 ra0 "java/lang/String" "coder" "B" (.int (0 : Int32))) (F_value_ra0 : Fld Z h0 ra0 "java/lang/String" "value" "[B" (.ref ra1)) (hl_ci3 : ¬ ci3 < 0 ∧ ¬ (255 : Int32) < ci3) (hl_ci4 : ¬ ci4 < 0 ∧ ¬ (255 : Int32) < ci4) (V_ra1 : Arv Z h0 ra1 kc2 .byte (2 : Int32) [(.int (ci3.toInt8.toInt32)), (.int (ci4.toInt8.toInt32))] (.int (0 : Int32))) (E_ra5 : Exa Z h0 ra5 "java/lang/String") (F_coder_ra5 : Fld Z h0 ra5 "java/lang/String" "coder" "B" (.int (0 : Int32))) (F_value_ra5 : Fld Z h0 ra5 "java/lang/String" "value" "[B" (.ref ra6)) (hl_ci8 : ¬ ci8 < 0 ∧ ¬ (255 : Int32) < ci8) (hl_ci9 : ¬ ci9 < 0 ∧ ¬ (255 : Int32) < ci9) (V_ra6 : Arv Z h0 ra6 kc7 .byte (2 : Int32) [(.int (ci8.toInt8.toInt32)), (.int (ci9.toInt8.toInt32))] (.int (0 : Int32))) (hk12 : ¬ (ra0 = ra5)) (O2 : Sta Z Z.heap "java/lang/String" "COMPACT_STRINGS" "Z" (.int G1)) (P5 : ¬ (G1 = (0 : Int32))) :
    own_CN l Z y6 jdk_42_method_70_code 2 (some .boolean) [] R11_33 #[(.ref ra0), (.ref ra5)] h0 (Q11_33 Z ra0 ra1 kc2 ci3 ci4 ra5 ra6 kc7 ci8 ci9 G1 h0 n0) := by
  refine own_entryN (plainFor_of_name pn_0) fun p e s m below meth c s₁ hx hby hml hown hnm hret hlk hZ hh X0 e0 => ?_
  have N0 := Fr.nil n0
  rw [ef_11_33 m ra0 ra5]
  refine og s₁ (mkF m 14 #[vR ra0, vR ra5] [(.ref ra5)]) (fun _ k => XS.aloadN X0.here hx rfl (hb hby d11_0) rfl rfl (XS.aloadN X0.here hx rfl (hb hby d11_1) rfl rfl (Jvm.RoadKit.acmp (g := (mkF m 2 #[vR ra0, vR ra5] [(.ref ra5), (.ref ra0)])) X0 hx rfl rfl rfl (pc0 := 2) (pc' := 9) (same := false) rfl (hb hby d11_2) rfl (decide_eq_false fun q => hk12 (Value.ref.inj q)) (by decide) (by decide) (XS.aloadN X0.here hx rfl (hb hby d11_9) rfl rfl (XS.ifnullNo X0.here hx rfl (hb hby d11_10) rfl (XS.aloadN X0.here hx rfl (hb hby d11_13) rfl rfl k)))))) ?_
  have hp1 : ∀ c ∈ ([ci8, ci9] : List Int32), ¬ c < 0 ∧ ¬ (255 : Int32) < c := by
    intro c hc
    simp only [List.mem_cons, List.not_mem_nil, or_false] at hc
    rcases hc with rfl | rfl
    · exact hl_ci8
    · exact hl_ci9
  obtain ⟨cq2, kq2, q2a, q2b, q2c⟩ := isOf hZ e0 E_ra5
  obtain ⟨_, _, ⟨T2, L2, k2, n2⟩, -, X2, ⟨Lc2, hQ2, l2, y2, z2⟩, st2⟩ := X0.virtualBack hx (y := y2) (z := y2) hown (mvT hZ (own_w hw 70)) (mvT hZ (own_w hw 71)) (notFace_of_selects (args := #[]) (mvT hZ (own_w hw 73))) (mvT hZ (own_w hw 73)) (mvT hZ (own_w hw 72)) (by decide) (StrChars.Road.lenW (W := 0) hZ (own_hln hw) (kI := 4) (own_w hw 13) (cs := ([ci8, ci9] : List Int32)) E_ra5 F_value_ra5 F_coder_ra5 V_ra6 (StrChars.Road.codOf rfl (fun c hc => (hp1 c hc).2)) (own_up _ hp1) (O2.ext OLD.2) P5 (lb rfl) (lb rfl) (lb rfl)) q2a q2c (g := (mkF m 14 #[vR ra0, vR ra5] [(.ref ra5)])) rfl (by rw [hml]; rfl) (Steps.refl _) (argsL := []) (rest := []) (lenOf pd_1 rfl) rfl (lb rfl) (hb hby d11_14) (fun _ _ => ⟨rfl, e0, (lb rfl), (lb rfl)⟩)
  dsimp only [Pt.U, Pt.locs, Pt.cells, Pt.slots] at X2 l2 y2 z2 st2 hQ2
  subst l2 y2 z2
  obtain ⟨rfl, rfl, eq2⟩ := hQ2
  have N2 := Fr.app N0 (Fr.nil n0)
  refine ot T2 (mkF m 17 #[vR ra0, vR ra5] [(.int (2 : Int32))]) st2 ?_
  refine og T2 (mkF m 18 #[vR ra0, vR ra5] [(.ref ra0), (.int (2 : Int32))]) (fun _ k => XS.aloadN X2.here hx rfl (hb hby d11_17) rfl rfl k) ?_
  have hp3 : ∀ c ∈ ([ci3, ci4] : List Int32), ¬ c < 0 ∧ ¬ (255 : Int32) < c := by
    intro c hc
    simp only [List.mem_cons, List.not_mem_nil, or_false] at hc
    rcases hc with rfl | rfl
    · exact hl_ci3
    · exact hl_ci4
  obtain ⟨cq4, kq4, q4a, q4b, q4c⟩ := isOf hZ eq2 E_ra0
  obtain ⟨_, _, ⟨T4, L4, k4, n4⟩, -, X4, ⟨Lc4, hQ4, l4, y4, z4⟩, st4⟩ := X2.virtualBack hx (y := y2) (z := y2) hown (mvT hZ (own_w hw 70)) (mvT hZ (own_w hw 71)) (notFace_of_selects (args := #[]) (mvT hZ (own_w hw 73))) (mvT hZ (own_w hw 73)) (mvT hZ (own_w hw 72)) (by decide) (StrChars.Road.lenW (W := 1) hZ (own_hln hw) (kI := 4) (own_w hw 13) (cs := ([ci3, ci4] : List Int32)) E_ra0 F_value_ra0 F_coder_ra0 V_ra1 (StrChars.Road.codOf rfl (fun c hc => (hp3 c hc).2)) (own_up _ hp3) (O2.ext OLD.2) P5 (lb rfl) (lb rfl) (lb rfl)) q4a q4c (g := (mkF m 18 #[vR ra0, vR ra5] [(.ref ra0), (.int (2 : Int32))])) rfl (by rw [hml]; rfl) (Steps.refl _) (argsL := []) (rest := [(.int (2 : Int32))]) (lenOf pd_1 rfl) rfl (lb rfl) (hb hby d11_18) (fun _ _ => ⟨rfl, eq2, (lb rfl), (lb rfl)⟩)
  dsimp only [Pt.U, Pt.locs, Pt.cells, Pt.slots] at X4 l4 y4 z4 st4 hQ4
  subst l4 y4 z4
  obtain ⟨rfl, rfl, eq4⟩ := hQ4
  have N4 := Fr.app N2 (Fr.nil n0)
  refine ot T4 (mkF m 21 #[vR ra0, vR ra5] [(.int (2 : Int32)), (.int (2 : Int32))]) st4 ?_
  refine og T4 (mkF m 30 #[vR ra0, vR ra5] [(.ref ra0), (.int (0 : Int32)), (.ref ra5), (.int (0 : Int32)), (.int (1 : Int32)), (.ref ra0)]) (fun _ k => XS.icmpNo X4.here hx rfl (hb hby d11_21) rfl (teq (by decide : (2 : Int32) = (2 : Int32))).2 (XS.aloadN X4.here hx rfl (hb hby d11_24) rfl rfl (XS.iconst X4.here hx rfl (hb hby d11_25) (XS.iconst X4.here hx rfl (hb hby d11_26) (XS.aloadN X4.here hx rfl (hb hby d11_27) rfl rfl (XS.iconst X4.here hx rfl (hb hby d11_28) (XS.aloadN X4.here hx rfl (hb hby d11_29) rfl rfl k))))))) ?_
  obtain ⟨cq5, kq5, q5a, q5b, q5c⟩ := isOf hZ eq4 E_ra0
  obtain ⟨_, _, ⟨T5, L5, k5, n5⟩, -, X5, ⟨Lc5, hQ5, l5, y5, z5⟩, st5⟩ := X4.virtualBack hx (y := y2) (z := y2) hown (mvT hZ (own_w hw 70)) (mvT hZ (own_w hw 71)) (notFace_of_selects (args := #[]) (mvT hZ (own_w hw 73))) (mvT hZ (own_w hw 73)) (mvT hZ (own_w hw 72)) (by decide) (StrChars.Road.lenW (W := 5) hZ (own_hln hw) (kI := 4) (own_w hw 13) (cs := ([ci3, ci4] : List Int32)) E_ra0 F_value_ra0 F_coder_ra0 V_ra1 (StrChars.Road.codOf rfl (fun c hc => (hp3 c hc).2)) (own_up _ hp3) (O2.ext OLD.2) P5 (lb rfl) (lb rfl) (lb rfl)) q5a q5c (g := (mkF m 30 #[vR ra0, vR ra5] [(.ref ra0), (.int (0 : Int32)), (.ref ra5), (.int (0 : Int32)), (.int (1 : Int32)), (.ref ra0)])) rfl (by rw [hml]; rfl) (Steps.refl _) (argsL := []) (rest := [(.int (0 : Int32)), (.ref ra5), (.int (0 : Int32)), (.int (1 : Int32)), (.ref ra0)]) (lenOf pd_1 rfl) rfl (lb rfl) (hb hby d11_30) (fun _ _ => ⟨rfl, eq4, (lb rfl), (lb rfl)⟩)
  dsimp only [Pt.U, Pt.locs, Pt.cells, Pt.slots] at X5 l5 y5 z5 st5 hQ5
  subst l5 y5 z5
  obtain ⟨rfl, rfl, eq5⟩ := hQ5
  have N5 := Fr.app N4 (Fr.nil n0)
  refine ot T5 (mkF m 33 #[vR ra0, vR ra5] [(.int (2 : Int32)), (.int (0 : Int32)), (.ref ra5), (.int (0 : Int32)), (.int (1 : Int32)), (.ref ra0)]) st5 ?_
  obtain ⟨cq6, kq6, q6a, q6b, q6c⟩ := isOf hZ eq5 E_ra0
  obtain ⟨_, _, ⟨T6, L6, k6, n6⟩, -, X6, ⟨Lc6, hQ6, l6, y6, z6⟩, st6⟩ := X5.virtualBack hx (y := y5) (z := y5) hown (mvT hZ (own_w hw 99)) (mvT hZ (own_w hw 100)) (notFace_of_selects (args := #[]) (mvT hZ (own_w hw 102))) (mvT hZ (own_w hw 102)) (mvT hZ (own_w hw 101)) (by decide) (backOf (W := 0) (rm16_34 l Z a0 hw ra0 ra1 kc2 ci3 ci4 ra5 ra6 kc7 ci8 ci9 G1 h0 n0 OLD E_ra0 F_coder_ra0 F_value_ra0 hl_ci3 hl_ci4 V_ra1 E_ra5 F_coder_ra5 F_value_ra5 hl_ci8 hl_ci9 V_ra6 O2 P5) hZ (own_w hw 103) (own_w hw 14) (lb rfl) (lb rfl)) q6a q6c (g := (mkF m 33 #[vR ra0, vR ra5] [(.int (2 : Int32)), (.int (0 : Int32)), (.ref ra5), (.int (0 : Int32)), (.int (1 : Int32)), (.ref ra0)])) rfl (by rw [hml]; rfl) (Steps.refl _) (argsL := [(.int (1 : Int32)), (.int (0 : Int32)), (.ref ra5), (.int (0 : Int32)), (.int (2 : Int32))]) (rest := []) (lenOf pd_4 rfl) rfl (lb rfl) (hb hby d11_33) (fun _ _ => ⟨rfl, eq5, (lb rfl), (lb rfl)⟩)
  dsimp only [Pt.U, Pt.locs, Pt.cells, Pt.slots] at X6 l6 y6 z6 st6 hQ6
  subst l6 y6 z6
  obtain ⟨rfl, Nq6, eq6⟩ := hQ6
  have N6 := Fr.app N5 Nq6
  refine ot T6 (mkF m 36 #[vR ra0, vR ra5] [(.int (own_ica [ci3, ci4] [ci8, ci9]))]) st6 ?_
  by_cases hc7 : (own_ica [ci3, ci4] [ci8, ci9]) = (0 : Int32)
  · refine og T6 (mkF m 44 #[vR ra0, vR ra5] [(.int (0 : Int32))]) (fun _ k => XS.ifYes X6.here hx rfl (pc0 := 36) (pc' := 43) rfl (hb hby d11_36) rfl ((if0 _ _).trans (teq hc7).1) (by decide) (by decide) (XS.iconst X6.here hx rfl (hb hby d11_43) k)) ?_
    exact own_leaveN X6 hlk (v := some (.int (nar .boolean (0 : Int32)))) (fun h => by rw [hret] at h; cases h) (lb rfl) (lb rfl) (by rw [eq6]; exact ⟨(by show some (Value.int (0 : Int32)) = _; exact congrArg (fun z => some (Value.int z)) (hc7).symm), N6, rfl⟩) (fun fs hr => retN X6 hx (t := .boolean) hret (by simp) (hb hby d11_44) hr)
  · refine og T6 (mkF m 44 #[vR ra0, vR ra5] [(.int (1 : Int32))]) (fun _ k => XS.ifNo X6.here hx rfl (hb hby d11_36) rfl ((if0 _ _).trans (feq hc7).1) (XS.iconst X6.here hx rfl (hb hby d11_39) (XS.goto X6.here hx rfl (pc0 := 40) (pc' := 44) rfl (hb hby d11_40) (by decide) (by decide) k))) ?_
    exact own_leaveN X6 hlk (v := some (.int (nar .boolean (1 : Int32)))) (fun h => by rw [hret] at h; cases h) (lb rfl) (lb rfl) (by rw [eq6]; exact ⟨(by show some (Value.int (1 : Int32)) = _; exact congrArg (fun z => some (Value.int z)) ((own_ica01 _ _).resolve_left hc7).symm), N6, rfl⟩) (fun fs hr => retN X6 hx (t := .boolean) hret (by simp) (hb hby d11_44) hr)
abbrev R10_32 : Room := { frames := 5, cells := 0, slots := 0, locals := 100 }
def Q10_32 (Z : State) (ra0 : Addr) (ra1 : Addr) (ra2 : Addr) (rt2 : Addr) (ra3 : Addr) (rt3 : Addr) (kc2 : ClassId) (kc3 : ClassId) (ca0 : Int32) (ca1 : Int32) (cb0 : Int32) (cb1 : Int32) (kw0 : Addr) (G1 : Int32) (kw5 : Addr) (h0 : Heap) (n0 : Nat) (v : Option Value) (h : Heap) (L : List Loc) : Prop := (v = some (.int (own_isv ra1 kw0 kw5 (own_ica [ca0, ca1] [cb0, cb1]))) ∧ Fr n0 L ∧ h = h0)
theorem rm10_32 (l : Launch) (Z : State) (a0 : Array Value) (hw : HW Z a0) (ra0 : Addr) (ra1 : Addr) (ra2 : Addr) (rt2 : Addr) (ra3 : Addr) (rt3 : Addr) (kc2 : ClassId) (kc3 : ClassId) (ca0 : Int32) (ca1 : Int32) (cb0 : Int32) (cb1 : Int32) (kw0 : Addr) (G1 : Int32) (kw5 : Addr) (h0 : Heap) (n0 : Nat) (OLD : Old Z n0 h0) (E_ra0 : Exa Z h0 ra0 "com/example/agave/agave/query/Tokens$Token") (F_kind_ra0 : Fld Z h0 ra0 "com/example/agave/agave/query/Tokens$Token" "kind" "Lcom/example/agave/agave/query/Tokens$Kind;" (.ref ra1)) (F_text_ra0 : Fld Z h0 ra0 "com/example/agave/agave/query/Tokens$Token" "text" "Ljava/lang/String;" (.ref ra2)) (E_ra2 : Exa Z h0 ra2 "java/lang/String") (F_coder_ra2 : Fld Z h0 ra2 "java/lang/String" "coder" "B" (.int (0 : Int32))) (F_value_ra2 : Fld Z h0 ra2 "java/lang/String" "value" "[B" (.ref rt2)) (V_rt2 : Arv Z h0 rt2 kc2 .byte (2 : Int32) [(.int (ca0.toInt8.toInt32)), (.int (ca1.toInt8.toInt32))] (.int (0 : Int32))) (E_ra3 : Exa Z h0 ra3 "java/lang/String") (F_coder_ra3 : Fld Z h0 ra3 "java/lang/String" "coder" "B" (.int (0 : Int32))) (F_value_ra3 : Fld Z h0 ra3 "java/lang/String" "value" "[B" (.ref rt3)) (V_rt3 : Arv Z h0 rt3 kc3 .byte (2 : Int32) [(.int (cb0.toInt8.toInt32)), (.int (cb1.toInt8.toInt32))] (.int (0 : Int32))) (hl_ca0 : ¬ ca0 < 0 ∧ ¬ (255 : Int32) < ca0) (hl_ca1 : ¬ ca1 < 0 ∧ ¬ (255 : Int32) < ca1) (hl_cb0 : ¬ cb0 < 0 ∧ ¬ (255 : Int32) < cb0) (hl_cb1 : ¬ cb1 < 0 ∧ ¬ (255 : Int32) < cb1) (hk15 : ¬ (ra2 = ra3)) (SK0 : Sta Z Z.heap "com/example/agave/agave/query/Tokens$Kind" "WORD" "Lcom/example/agave/agave/query/Tokens$Kind;" (.ref kw0)) (EK0 : Exa Z Z.heap kw0 "com/example/agave/agave/query/Tokens$Kind") (O2 : Sta Z Z.heap "java/lang/String" "COMPACT_STRINGS" "Z" (.int G1)) (P5 : ¬ (G1 = (0 : Int32))) (SK5 : Sta Z Z.heap "com/example/agave/agave/query/Tokens$Kind" "SYMBOL" "Lcom/example/agave/agave/query/Tokens$Kind;" (.ref kw5)) (EK5 : Exa Z Z.heap kw5 "com/example/agave/agave/query/Tokens$Kind") :
    own_CN l Z y7 prog_6_method_6_code 2 (some .boolean) [] R10_32 #[(.ref ra0), (.ref ra3)] h0 (Q10_32 Z ra0 ra1 ra2 rt2 ra3 rt3 kc2 kc3 ca0 ca1 cb0 cb1 kw0 G1 kw5 h0 n0) := by
  refine own_entryN (plainFor_of_name pn_2) fun p e s m below meth c s₁ hx hby hml hown hnm hret hlk hZ hh X0 e0 => ?_
  have N0 := Fr.nil n0
  rw [ef_10_32 m ra0 ra3]
  refine og s₁ (mkF m 1 #[vR ra0, vR ra3] [(.ref ra0)]) (fun _ k => XS.aloadN X0.here hx rfl (hb hby d10_0) rfl rfl k) ?_
  obtain ⟨T1, X1, e1, st1⟩ := getF X0 hx hZ hown (host := "") (Or.inl (own_w hw 51)) Via.refl e0 F_kind_ra0 (g := (mkF m 1 #[vR ra0, vR ra3] [(.ref ra0)])) rfl rfl (hb hby d10_1)
  refine og T1 (mkF m 4 #[vR ra0, vR ra3] [(.ref ra1)]) st1 ?_
  obtain ⟨T2, X2, e2, st2⟩ := getS2 X1 hx hZ hown (host := "") (Or.inl (own_w hw 64)) Via.refl e1 (SK0.ext OLD.2) (g := (mkF m 4 #[vR ra0, vR ra3] [(.ref ra1)])) rfl (hb hby d10_4)
  refine og T2 (mkF m 7 #[vR ra0, vR ra3] [(.ref kw0), (.ref ra1)]) st2 ?_
  by_cases hc3 : ra1 = kw0
  · refine og T2 (mkF m 21 #[vR ra0, vR ra3] [(.ref ra0)]) (fun _ k => Jvm.RoadKit.acmp (g := (mkF m 7 #[vR ra0, vR ra3] [(.ref kw0), (.ref ra1)])) X2 hx rfl rfl rfl (pc0 := 7) (pc' := 20) (same := true) rfl (hb hby d10_7) rfl (decide_eq_true (congrArg Value.ref hc3)) (by decide) (by decide) (XS.aloadN X2.here hx rfl (hb hby d10_20) rfl rfl k)) ?_
    obtain ⟨T4, X4, e4, st4⟩ := getF X2 hx hZ hown (host := "") (Or.inl (own_w hw 53)) Via.refl e2 F_text_ra0 (g := (mkF m 21 #[vR ra0, vR ra3] [(.ref ra0)])) rfl rfl (hb hby d10_21)
    refine og T4 (mkF m 24 #[vR ra0, vR ra3] [(.ref ra2)]) st4 ?_
    refine og T4 (mkF m 25 #[vR ra0, vR ra3] [(.ref ra3), (.ref ra2)]) (fun _ k => XS.aloadN X4.here hx rfl (hb hby d10_24) rfl rfl k) ?_
    obtain ⟨cq5, kq5, q5a, q5b, q5c⟩ := isOf hZ e4 E_ra2
    obtain ⟨_, _, ⟨T5, L5, k5, n5⟩, -, X5, ⟨Lc5, hQ5, l5, y5, z5⟩, st5⟩ := X4.virtualBack hx (y := y6) (z := y6) hown (mvT hZ (own_w hw 65)) (mvT hZ (own_w hw 66)) (notFace_of_selects (args := #[]) (mvT hZ (own_w hw 68))) (mvT hZ (own_w hw 68)) (mvT hZ (own_w hw 67)) (by decide) (backOf (W := 0) (rm11_33 l Z a0 hw ra2 rt2 kc2 ca0 ca1 ra3 rt3 kc3 cb0 cb1 G1 h0 n0 OLD E_ra2 F_coder_ra2 F_value_ra2 hl_ca0 hl_ca1 V_rt2 E_ra3 F_coder_ra3 F_value_ra3 hl_cb0 hl_cb1 V_rt3 hk15 O2 P5) hZ (own_w hw 69) (own_w hw 14) (lb rfl) (lb rfl)) q5a q5c (g := (mkF m 25 #[vR ra0, vR ra3] [(.ref ra3), (.ref ra2)])) rfl (by rw [hml]; rfl) (Steps.refl _) (argsL := [(.ref ra3)]) (rest := []) (lenOf pd_5 rfl) rfl (lb rfl) (hb hby d10_25) (fun _ _ => ⟨rfl, e4, (lb rfl), (lb rfl)⟩)
    dsimp only [Pt.U, Pt.locs, Pt.cells, Pt.slots] at X5 l5 y5 z5 st5 hQ5
    subst l5 y5 z5
    obtain ⟨rfl, Nq5, eq5⟩ := hQ5
    have N5 := Fr.app N0 Nq5
    refine ot T5 (mkF m 28 #[vR ra0, vR ra3] [(.int (own_ica [ca0, ca1] [cb0, cb1]))]) st5 ?_
    by_cases hc6 : (own_ica [ca0, ca1] [cb0, cb1]) = (0 : Int32)
    · refine og T5 (mkF m 36 #[vR ra0, vR ra3] [(.int (0 : Int32))]) (fun _ k => XS.ifYes X5.here hx rfl (pc0 := 28) (pc' := 35) rfl (hb hby d10_28) rfl ((if0 _ _).trans (teq hc6).1) (by decide) (by decide) (XS.iconst X5.here hx rfl (hb hby d10_35) k)) ?_
      exact own_leaveN X5 hlk (v := some (.int (nar .boolean (0 : Int32)))) (fun h => by rw [hret] at h; cases h) (lb rfl) (lb rfl) (by rw [eq5]; exact ⟨(by show some (Value.int (0 : Int32)) = _; exact congrArg (fun z => some (Value.int z)) (Eq.symm (Eq.trans (if_pos hc3) (hc6)))), N5, rfl⟩) (fun fs hr => retN X5 hx (t := .boolean) hret (by simp) (hb hby d10_36) hr)
    · refine og T5 (mkF m 36 #[vR ra0, vR ra3] [(.int (1 : Int32))]) (fun _ k => XS.ifNo X5.here hx rfl (hb hby d10_28) rfl ((if0 _ _).trans (feq hc6).1) (XS.iconst X5.here hx rfl (hb hby d10_31) (XS.goto X5.here hx rfl (pc0 := 32) (pc' := 36) rfl (hb hby d10_32) (by decide) (by decide) k))) ?_
      exact own_leaveN X5 hlk (v := some (.int (nar .boolean (1 : Int32)))) (fun h => by rw [hret] at h; cases h) (lb rfl) (lb rfl) (by rw [eq5]; exact ⟨(by show some (Value.int (1 : Int32)) = _; exact congrArg (fun z => some (Value.int z)) (Eq.symm (Eq.trans (if_pos hc3) ((own_ica01 _ _).resolve_left hc6)))), N5, rfl⟩) (fun fs hr => retN X5 hx (t := .boolean) hret (by simp) (hb hby d10_36) hr)
  · refine og T2 (mkF m 11 #[vR ra0, vR ra3] [(.ref ra0)]) (fun _ k => Jvm.RoadKit.acmp (g := (mkF m 7 #[vR ra0, vR ra3] [(.ref kw0), (.ref ra1)])) X2 hx rfl rfl rfl (pc0 := 7) (pc' := 10) (same := false) rfl (hb hby d10_7) rfl (decide_eq_false fun q => hc3 (Value.ref.inj q)) (by decide) (by decide) (XS.aloadN X2.here hx rfl (hb hby d10_10) rfl rfl k)) ?_
    obtain ⟨T7, X7, e7, st7⟩ := getF X2 hx hZ hown (host := "") (Or.inl (own_w hw 51)) Via.refl e2 F_kind_ra0 (g := (mkF m 11 #[vR ra0, vR ra3] [(.ref ra0)])) rfl rfl (hb hby d10_11)
    refine og T7 (mkF m 14 #[vR ra0, vR ra3] [(.ref ra1)]) st7 ?_
    obtain ⟨T8, X8, e8, st8⟩ := getS2 X7 hx hZ hown (host := "") (Or.inl (own_w hw 82)) Via.refl e7 (SK5.ext OLD.2) (g := (mkF m 14 #[vR ra0, vR ra3] [(.ref ra1)])) rfl (hb hby d10_14)
    refine og T8 (mkF m 17 #[vR ra0, vR ra3] [(.ref kw5), (.ref ra1)]) st8 ?_
    by_cases hc9 : ra1 = kw5
    · refine og T8 (mkF m 21 #[vR ra0, vR ra3] [(.ref ra0)]) (fun _ k => Jvm.RoadKit.acmp (g := (mkF m 17 #[vR ra0, vR ra3] [(.ref kw5), (.ref ra1)])) X8 hx rfl rfl rfl (pc0 := 17) (pc' := 20) (same := true) rfl (hb hby d10_17) rfl (decide_eq_true (congrArg Value.ref hc9)) (by decide) (by decide) (XS.aloadN X8.here hx rfl (hb hby d10_20) rfl rfl k)) ?_
      obtain ⟨T10, X10, e10, st10⟩ := getF X8 hx hZ hown (host := "") (Or.inl (own_w hw 53)) Via.refl e8 F_text_ra0 (g := (mkF m 21 #[vR ra0, vR ra3] [(.ref ra0)])) rfl rfl (hb hby d10_21)
      refine og T10 (mkF m 24 #[vR ra0, vR ra3] [(.ref ra2)]) st10 ?_
      refine og T10 (mkF m 25 #[vR ra0, vR ra3] [(.ref ra3), (.ref ra2)]) (fun _ k => XS.aloadN X10.here hx rfl (hb hby d10_24) rfl rfl k) ?_
      obtain ⟨cq11, kq11, q11a, q11b, q11c⟩ := isOf hZ e10 E_ra2
      obtain ⟨_, _, ⟨T11, L11, k11, n11⟩, -, X11, ⟨Lc11, hQ11, l11, y11, z11⟩, st11⟩ := X10.virtualBack hx (y := y6) (z := y6) hown (mvT hZ (own_w hw 65)) (mvT hZ (own_w hw 66)) (notFace_of_selects (args := #[]) (mvT hZ (own_w hw 68))) (mvT hZ (own_w hw 68)) (mvT hZ (own_w hw 67)) (by decide) (backOf (W := 0) (rm11_33 l Z a0 hw ra2 rt2 kc2 ca0 ca1 ra3 rt3 kc3 cb0 cb1 G1 h0 n0 OLD E_ra2 F_coder_ra2 F_value_ra2 hl_ca0 hl_ca1 V_rt2 E_ra3 F_coder_ra3 F_value_ra3 hl_cb0 hl_cb1 V_rt3 hk15 O2 P5) hZ (own_w hw 69) (own_w hw 14) (lb rfl) (lb rfl)) q11a q11c (g := (mkF m 25 #[vR ra0, vR ra3] [(.ref ra3), (.ref ra2)])) rfl (by rw [hml]; rfl) (Steps.refl _) (argsL := [(.ref ra3)]) (rest := []) (lenOf pd_5 rfl) rfl (lb rfl) (hb hby d10_25) (fun _ _ => ⟨rfl, e10, (lb rfl), (lb rfl)⟩)
      dsimp only [Pt.U, Pt.locs, Pt.cells, Pt.slots] at X11 l11 y11 z11 st11 hQ11
      subst l11 y11 z11
      obtain ⟨rfl, Nq11, eq11⟩ := hQ11
      have N11 := Fr.app N0 Nq11
      refine ot T11 (mkF m 28 #[vR ra0, vR ra3] [(.int (own_ica [ca0, ca1] [cb0, cb1]))]) st11 ?_
      by_cases hc12 : (own_ica [ca0, ca1] [cb0, cb1]) = (0 : Int32)
      · refine og T11 (mkF m 36 #[vR ra0, vR ra3] [(.int (0 : Int32))]) (fun _ k => XS.ifYes X11.here hx rfl (pc0 := 28) (pc' := 35) rfl (hb hby d10_28) rfl ((if0 _ _).trans (teq hc12).1) (by decide) (by decide) (XS.iconst X11.here hx rfl (hb hby d10_35) k)) ?_
        exact own_leaveN X11 hlk (v := some (.int (nar .boolean (0 : Int32)))) (fun h => by rw [hret] at h; cases h) (lb rfl) (lb rfl) (by rw [eq11]; exact ⟨(by show some (Value.int (0 : Int32)) = _; exact congrArg (fun z => some (Value.int z)) (Eq.symm (Eq.trans ((if_neg hc3).trans (if_pos hc9)) (hc12)))), N11, rfl⟩) (fun fs hr => retN X11 hx (t := .boolean) hret (by simp) (hb hby d10_36) hr)
      · refine og T11 (mkF m 36 #[vR ra0, vR ra3] [(.int (1 : Int32))]) (fun _ k => XS.ifNo X11.here hx rfl (hb hby d10_28) rfl ((if0 _ _).trans (feq hc12).1) (XS.iconst X11.here hx rfl (hb hby d10_31) (XS.goto X11.here hx rfl (pc0 := 32) (pc' := 36) rfl (hb hby d10_32) (by decide) (by decide) k))) ?_
        exact own_leaveN X11 hlk (v := some (.int (nar .boolean (1 : Int32)))) (fun h => by rw [hret] at h; cases h) (lb rfl) (lb rfl) (by rw [eq11]; exact ⟨(by show some (Value.int (1 : Int32)) = _; exact congrArg (fun z => some (Value.int z)) (Eq.symm (Eq.trans ((if_neg hc3).trans (if_pos hc9)) ((own_ica01 _ _).resolve_left hc12)))), N11, rfl⟩) (fun fs hr => retN X11 hx (t := .boolean) hret (by simp) (hb hby d10_36) hr)
    · refine og T8 (mkF m 36 #[vR ra0, vR ra3] [(.int (0 : Int32))]) (fun _ k => Jvm.RoadKit.acmp (g := (mkF m 17 #[vR ra0, vR ra3] [(.ref kw5), (.ref ra1)])) X8 hx rfl rfl rfl (pc0 := 17) (pc' := 35) (same := false) rfl (hb hby d10_17) rfl (decide_eq_false fun q => hc9 (Value.ref.inj q)) (by decide) (by decide) (XS.iconst X8.here hx rfl (hb hby d10_35) k)) ?_
      exact own_leaveN X8 hlk (v := some (.int (nar .boolean (0 : Int32)))) (fun h => by rw [hret] at h; cases h) (lb rfl) (lb rfl) (by rw [e8]; exact ⟨(by show some (Value.int (0 : Int32)) = _; exact congrArg (fun z => some (Value.int z)) (Eq.symm ((if_neg hc3).trans (if_neg hc9)))), N0, rfl⟩) (fun fs hr => retN X8 hx (t := .boolean) hret (by simp) (hb hby d10_36) hr)
abbrev R11_38 : Room := { frames := 2, cells := 0, slots := 0, locals := 26 }
def Q11_38 (Z : State) (ra0 : Addr) (ra1 : Addr) (kc2 : ClassId) (ci3 : Int32) (ci4 : Int32) (ra5 : Addr) (ra6 : Addr) (kc7 : ClassId) (ci8 : Int32) (ci9 : Int32) (ci10 : Int32) (G1 : Int32) (h0 : Heap) (n0 : Nat) (v : Option Value) (h : Heap) (L : List Loc) : Prop := (v = some (.int (own_ica [ci3, ci4] [ci8, ci9, ci10])) ∧ Fr n0 L ∧ h = h0)
theorem rm11_38 (l : Launch) (Z : State) (a0 : Array Value) (hw : HW Z a0) (ra0 : Addr) (ra1 : Addr) (kc2 : ClassId) (ci3 : Int32) (ci4 : Int32) (ra5 : Addr) (ra6 : Addr) (kc7 : ClassId) (ci8 : Int32) (ci9 : Int32) (ci10 : Int32) (G1 : Int32) (h0 : Heap) (n0 : Nat) (OLD : Old Z n0 h0) (E_ra0 : Exa Z h0 ra0 "java/lang/String") (F_coder_ra0 : Fld Z h0 ra0 "java/lang/String" "coder" "B" (.int (0 : Int32))) (F_value_ra0 : Fld Z h0 ra0 "java/lang/String" "value" "[B" (.ref ra1)) (hl_ci3 : ¬ ci3 < 0 ∧ ¬ (255 : Int32) < ci3) (hl_ci4 : ¬ ci4 < 0 ∧ ¬ (255 : Int32) < ci4) (V_ra1 : Arv Z h0 ra1 kc2 .byte (2 : Int32) [(.int (ci3.toInt8.toInt32)), (.int (ci4.toInt8.toInt32))] (.int (0 : Int32))) (E_ra5 : Exa Z h0 ra5 "java/lang/String") (F_coder_ra5 : Fld Z h0 ra5 "java/lang/String" "coder" "B" (.int (0 : Int32))) (F_value_ra5 : Fld Z h0 ra5 "java/lang/String" "value" "[B" (.ref ra6)) (hl_ci8 : ¬ ci8 < 0 ∧ ¬ (255 : Int32) < ci8) (hl_ci9 : ¬ ci9 < 0 ∧ ¬ (255 : Int32) < ci9) (hl_ci10 : ¬ ci10 < 0 ∧ ¬ (255 : Int32) < ci10) (V_ra6 : Arv Z h0 ra6 kc7 .byte (3 : Int32) [(.int (ci8.toInt8.toInt32)), (.int (ci9.toInt8.toInt32)), (.int (ci10.toInt8.toInt32))] (.int (0 : Int32))) (hk13 : ¬ (ra0 = ra5)) (O2 : Sta Z Z.heap "java/lang/String" "COMPACT_STRINGS" "Z" (.int G1)) (P5 : ¬ (G1 = (0 : Int32))) :
    own_CN l Z y6 jdk_42_method_70_code 2 (some .boolean) [] R11_38 #[(.ref ra0), (.ref ra5)] h0 (Q11_38 Z ra0 ra1 kc2 ci3 ci4 ra5 ra6 kc7 ci8 ci9 ci10 G1 h0 n0) := by
  refine own_entryN (plainFor_of_name pn_0) fun p e s m below meth c s₁ hx hby hml hown hnm hret hlk hZ hh X0 e0 => ?_
  have N0 := Fr.nil n0
  rw [ef_11_38 m ra0 ra5]
  refine og s₁ (mkF m 14 #[vR ra0, vR ra5] [(.ref ra5)]) (fun _ k => XS.aloadN X0.here hx rfl (hb hby d11_0) rfl rfl (XS.aloadN X0.here hx rfl (hb hby d11_1) rfl rfl (Jvm.RoadKit.acmp (g := (mkF m 2 #[vR ra0, vR ra5] [(.ref ra5), (.ref ra0)])) X0 hx rfl rfl rfl (pc0 := 2) (pc' := 9) (same := false) rfl (hb hby d11_2) rfl (decide_eq_false fun q => hk13 (Value.ref.inj q)) (by decide) (by decide) (XS.aloadN X0.here hx rfl (hb hby d11_9) rfl rfl (XS.ifnullNo X0.here hx rfl (hb hby d11_10) rfl (XS.aloadN X0.here hx rfl (hb hby d11_13) rfl rfl k)))))) ?_
  have hp1 : ∀ c ∈ ([ci8, ci9, ci10] : List Int32), ¬ c < 0 ∧ ¬ (255 : Int32) < c := by
    intro c hc
    simp only [List.mem_cons, List.not_mem_nil, or_false] at hc
    rcases hc with rfl | rfl | rfl
    · exact hl_ci8
    · exact hl_ci9
    · exact hl_ci10
  obtain ⟨cq2, kq2, q2a, q2b, q2c⟩ := isOf hZ e0 E_ra5
  obtain ⟨_, _, ⟨T2, L2, k2, n2⟩, -, X2, ⟨Lc2, hQ2, l2, y2, z2⟩, st2⟩ := X0.virtualBack hx (y := y2) (z := y2) hown (mvT hZ (own_w hw 70)) (mvT hZ (own_w hw 71)) (notFace_of_selects (args := #[]) (mvT hZ (own_w hw 73))) (mvT hZ (own_w hw 73)) (mvT hZ (own_w hw 72)) (by decide) (StrChars.Road.lenW (W := 0) hZ (own_hln hw) (kI := 4) (own_w hw 13) (cs := ([ci8, ci9, ci10] : List Int32)) E_ra5 F_value_ra5 F_coder_ra5 V_ra6 (StrChars.Road.codOf rfl (fun c hc => (hp1 c hc).2)) (own_up _ hp1) (O2.ext OLD.2) P5 (lb rfl) (lb rfl) (lb rfl)) q2a q2c (g := (mkF m 14 #[vR ra0, vR ra5] [(.ref ra5)])) rfl (by rw [hml]; rfl) (Steps.refl _) (argsL := []) (rest := []) (lenOf pd_1 rfl) rfl (lb rfl) (hb hby d11_14) (fun _ _ => ⟨rfl, e0, (lb rfl), (lb rfl)⟩)
  dsimp only [Pt.U, Pt.locs, Pt.cells, Pt.slots] at X2 l2 y2 z2 st2 hQ2
  subst l2 y2 z2
  obtain ⟨rfl, rfl, eq2⟩ := hQ2
  have N2 := Fr.app N0 (Fr.nil n0)
  refine ot T2 (mkF m 17 #[vR ra0, vR ra5] [(.int (3 : Int32))]) st2 ?_
  refine og T2 (mkF m 18 #[vR ra0, vR ra5] [(.ref ra0), (.int (3 : Int32))]) (fun _ k => XS.aloadN X2.here hx rfl (hb hby d11_17) rfl rfl k) ?_
  have hp3 : ∀ c ∈ ([ci3, ci4] : List Int32), ¬ c < 0 ∧ ¬ (255 : Int32) < c := by
    intro c hc
    simp only [List.mem_cons, List.not_mem_nil, or_false] at hc
    rcases hc with rfl | rfl
    · exact hl_ci3
    · exact hl_ci4
  obtain ⟨cq4, kq4, q4a, q4b, q4c⟩ := isOf hZ eq2 E_ra0
  obtain ⟨_, _, ⟨T4, L4, k4, n4⟩, -, X4, ⟨Lc4, hQ4, l4, y4, z4⟩, st4⟩ := X2.virtualBack hx (y := y2) (z := y2) hown (mvT hZ (own_w hw 70)) (mvT hZ (own_w hw 71)) (notFace_of_selects (args := #[]) (mvT hZ (own_w hw 73))) (mvT hZ (own_w hw 73)) (mvT hZ (own_w hw 72)) (by decide) (StrChars.Road.lenW (W := 1) hZ (own_hln hw) (kI := 4) (own_w hw 13) (cs := ([ci3, ci4] : List Int32)) E_ra0 F_value_ra0 F_coder_ra0 V_ra1 (StrChars.Road.codOf rfl (fun c hc => (hp3 c hc).2)) (own_up _ hp3) (O2.ext OLD.2) P5 (lb rfl) (lb rfl) (lb rfl)) q4a q4c (g := (mkF m 18 #[vR ra0, vR ra5] [(.ref ra0), (.int (3 : Int32))])) rfl (by rw [hml]; rfl) (Steps.refl _) (argsL := []) (rest := [(.int (3 : Int32))]) (lenOf pd_1 rfl) rfl (lb rfl) (hb hby d11_18) (fun _ _ => ⟨rfl, eq2, (lb rfl), (lb rfl)⟩)
  dsimp only [Pt.U, Pt.locs, Pt.cells, Pt.slots] at X4 l4 y4 z4 st4 hQ4
  subst l4 y4 z4
  obtain ⟨rfl, rfl, eq4⟩ := hQ4
  have N4 := Fr.app N2 (Fr.nil n0)
  refine ot T4 (mkF m 21 #[vR ra0, vR ra5] [(.int (2 : Int32)), (.int (3 : Int32))]) st4 ?_
  refine og T4 (mkF m 44 #[vR ra0, vR ra5] [(.int (0 : Int32))]) (fun _ k => XS.icmpYes X4.here hx rfl (pc0 := 21) (pc' := 43) rfl (hb hby d11_21) rfl (feq (by decide : ¬ ((3 : Int32) = (2 : Int32)))).2 (by decide) (by decide) (XS.iconst X4.here hx rfl (hb hby d11_43) k)) ?_
  exact own_leaveN X4 hlk (v := some (.int (nar .boolean (0 : Int32)))) (fun h => by rw [hret] at h; cases h) (lb rfl) (lb rfl) (by rw [eq4]; exact ⟨(by show some (Value.int (0 : Int32)) = _; first | rfl | (simp [own_ica]; done)), N4, rfl⟩) (fun fs hr => retN X4 hx (t := .boolean) hret (by simp) (hb hby d11_44) hr)
abbrev R10_37 : Room := { frames := 5, cells := 0, slots := 0, locals := 100 }
def Q10_37 (Z : State) (ra0 : Addr) (ra1 : Addr) (ra2 : Addr) (rt2 : Addr) (ra3 : Addr) (rt3 : Addr) (kc2 : ClassId) (kc3 : ClassId) (ca0 : Int32) (ca1 : Int32) (cb0 : Int32) (cb1 : Int32) (cb2 : Int32) (kw0 : Addr) (G1 : Int32) (kw5 : Addr) (h0 : Heap) (n0 : Nat) (v : Option Value) (h : Heap) (L : List Loc) : Prop := (v = some (.int (own_isv ra1 kw0 kw5 (own_ica [ca0, ca1] [cb0, cb1, cb2]))) ∧ Fr n0 L ∧ h = h0)
theorem rm10_37 (l : Launch) (Z : State) (a0 : Array Value) (hw : HW Z a0) (ra0 : Addr) (ra1 : Addr) (ra2 : Addr) (rt2 : Addr) (ra3 : Addr) (rt3 : Addr) (kc2 : ClassId) (kc3 : ClassId) (ca0 : Int32) (ca1 : Int32) (cb0 : Int32) (cb1 : Int32) (cb2 : Int32) (kw0 : Addr) (G1 : Int32) (kw5 : Addr) (h0 : Heap) (n0 : Nat) (OLD : Old Z n0 h0) (E_ra0 : Exa Z h0 ra0 "com/example/agave/agave/query/Tokens$Token") (F_kind_ra0 : Fld Z h0 ra0 "com/example/agave/agave/query/Tokens$Token" "kind" "Lcom/example/agave/agave/query/Tokens$Kind;" (.ref ra1)) (F_text_ra0 : Fld Z h0 ra0 "com/example/agave/agave/query/Tokens$Token" "text" "Ljava/lang/String;" (.ref ra2)) (E_ra2 : Exa Z h0 ra2 "java/lang/String") (F_coder_ra2 : Fld Z h0 ra2 "java/lang/String" "coder" "B" (.int (0 : Int32))) (F_value_ra2 : Fld Z h0 ra2 "java/lang/String" "value" "[B" (.ref rt2)) (V_rt2 : Arv Z h0 rt2 kc2 .byte (2 : Int32) [(.int (ca0.toInt8.toInt32)), (.int (ca1.toInt8.toInt32))] (.int (0 : Int32))) (E_ra3 : Exa Z h0 ra3 "java/lang/String") (F_coder_ra3 : Fld Z h0 ra3 "java/lang/String" "coder" "B" (.int (0 : Int32))) (F_value_ra3 : Fld Z h0 ra3 "java/lang/String" "value" "[B" (.ref rt3)) (V_rt3 : Arv Z h0 rt3 kc3 .byte (3 : Int32) [(.int (cb0.toInt8.toInt32)), (.int (cb1.toInt8.toInt32)), (.int (cb2.toInt8.toInt32))] (.int (0 : Int32))) (hl_ca0 : ¬ ca0 < 0 ∧ ¬ (255 : Int32) < ca0) (hl_ca1 : ¬ ca1 < 0 ∧ ¬ (255 : Int32) < ca1) (hl_cb0 : ¬ cb0 < 0 ∧ ¬ (255 : Int32) < cb0) (hl_cb1 : ¬ cb1 < 0 ∧ ¬ (255 : Int32) < cb1) (hl_cb2 : ¬ cb2 < 0 ∧ ¬ (255 : Int32) < cb2) (hk16 : ¬ (ra2 = ra3)) (SK0 : Sta Z Z.heap "com/example/agave/agave/query/Tokens$Kind" "WORD" "Lcom/example/agave/agave/query/Tokens$Kind;" (.ref kw0)) (EK0 : Exa Z Z.heap kw0 "com/example/agave/agave/query/Tokens$Kind") (O2 : Sta Z Z.heap "java/lang/String" "COMPACT_STRINGS" "Z" (.int G1)) (P5 : ¬ (G1 = (0 : Int32))) (SK5 : Sta Z Z.heap "com/example/agave/agave/query/Tokens$Kind" "SYMBOL" "Lcom/example/agave/agave/query/Tokens$Kind;" (.ref kw5)) (EK5 : Exa Z Z.heap kw5 "com/example/agave/agave/query/Tokens$Kind") :
    own_CN l Z y7 prog_6_method_6_code 2 (some .boolean) [] R10_37 #[(.ref ra0), (.ref ra3)] h0 (Q10_37 Z ra0 ra1 ra2 rt2 ra3 rt3 kc2 kc3 ca0 ca1 cb0 cb1 cb2 kw0 G1 kw5 h0 n0) := by
  refine own_entryN (plainFor_of_name pn_2) fun p e s m below meth c s₁ hx hby hml hown hnm hret hlk hZ hh X0 e0 => ?_
  have N0 := Fr.nil n0
  rw [ef_10_37 m ra0 ra3]
  refine og s₁ (mkF m 1 #[vR ra0, vR ra3] [(.ref ra0)]) (fun _ k => XS.aloadN X0.here hx rfl (hb hby d10_0) rfl rfl k) ?_
  obtain ⟨T1, X1, e1, st1⟩ := getF X0 hx hZ hown (host := "") (Or.inl (own_w hw 51)) Via.refl e0 F_kind_ra0 (g := (mkF m 1 #[vR ra0, vR ra3] [(.ref ra0)])) rfl rfl (hb hby d10_1)
  refine og T1 (mkF m 4 #[vR ra0, vR ra3] [(.ref ra1)]) st1 ?_
  obtain ⟨T2, X2, e2, st2⟩ := getS2 X1 hx hZ hown (host := "") (Or.inl (own_w hw 64)) Via.refl e1 (SK0.ext OLD.2) (g := (mkF m 4 #[vR ra0, vR ra3] [(.ref ra1)])) rfl (hb hby d10_4)
  refine og T2 (mkF m 7 #[vR ra0, vR ra3] [(.ref kw0), (.ref ra1)]) st2 ?_
  by_cases hc3 : ra1 = kw0
  · refine og T2 (mkF m 21 #[vR ra0, vR ra3] [(.ref ra0)]) (fun _ k => Jvm.RoadKit.acmp (g := (mkF m 7 #[vR ra0, vR ra3] [(.ref kw0), (.ref ra1)])) X2 hx rfl rfl rfl (pc0 := 7) (pc' := 20) (same := true) rfl (hb hby d10_7) rfl (decide_eq_true (congrArg Value.ref hc3)) (by decide) (by decide) (XS.aloadN X2.here hx rfl (hb hby d10_20) rfl rfl k)) ?_
    obtain ⟨T4, X4, e4, st4⟩ := getF X2 hx hZ hown (host := "") (Or.inl (own_w hw 53)) Via.refl e2 F_text_ra0 (g := (mkF m 21 #[vR ra0, vR ra3] [(.ref ra0)])) rfl rfl (hb hby d10_21)
    refine og T4 (mkF m 24 #[vR ra0, vR ra3] [(.ref ra2)]) st4 ?_
    refine og T4 (mkF m 25 #[vR ra0, vR ra3] [(.ref ra3), (.ref ra2)]) (fun _ k => XS.aloadN X4.here hx rfl (hb hby d10_24) rfl rfl k) ?_
    obtain ⟨cq5, kq5, q5a, q5b, q5c⟩ := isOf hZ e4 E_ra2
    obtain ⟨_, _, ⟨T5, L5, k5, n5⟩, -, X5, ⟨Lc5, hQ5, l5, y5, z5⟩, st5⟩ := X4.virtualBack hx (y := y6) (z := y6) hown (mvT hZ (own_w hw 65)) (mvT hZ (own_w hw 66)) (notFace_of_selects (args := #[]) (mvT hZ (own_w hw 68))) (mvT hZ (own_w hw 68)) (mvT hZ (own_w hw 67)) (by decide) (backOf (W := 0) (rm11_38 l Z a0 hw ra2 rt2 kc2 ca0 ca1 ra3 rt3 kc3 cb0 cb1 cb2 G1 h0 n0 OLD E_ra2 F_coder_ra2 F_value_ra2 hl_ca0 hl_ca1 V_rt2 E_ra3 F_coder_ra3 F_value_ra3 hl_cb0 hl_cb1 hl_cb2 V_rt3 hk16 O2 P5) hZ (own_w hw 69) (own_w hw 14) (lb rfl) (lb rfl)) q5a q5c (g := (mkF m 25 #[vR ra0, vR ra3] [(.ref ra3), (.ref ra2)])) rfl (by rw [hml]; rfl) (Steps.refl _) (argsL := [(.ref ra3)]) (rest := []) (lenOf pd_5 rfl) rfl (lb rfl) (hb hby d10_25) (fun _ _ => ⟨rfl, e4, (lb rfl), (lb rfl)⟩)
    dsimp only [Pt.U, Pt.locs, Pt.cells, Pt.slots] at X5 l5 y5 z5 st5 hQ5
    subst l5 y5 z5
    obtain ⟨rfl, Nq5, eq5⟩ := hQ5
    have N5 := Fr.app N0 Nq5
    refine ot T5 (mkF m 28 #[vR ra0, vR ra3] [(.int (own_ica [ca0, ca1] [cb0, cb1, cb2]))]) st5 ?_
    by_cases hc6 : (own_ica [ca0, ca1] [cb0, cb1, cb2]) = (0 : Int32)
    · refine og T5 (mkF m 36 #[vR ra0, vR ra3] [(.int (0 : Int32))]) (fun _ k => XS.ifYes X5.here hx rfl (pc0 := 28) (pc' := 35) rfl (hb hby d10_28) rfl ((if0 _ _).trans (teq hc6).1) (by decide) (by decide) (XS.iconst X5.here hx rfl (hb hby d10_35) k)) ?_
      exact own_leaveN X5 hlk (v := some (.int (nar .boolean (0 : Int32)))) (fun h => by rw [hret] at h; cases h) (lb rfl) (lb rfl) (by rw [eq5]; exact ⟨(by show some (Value.int (0 : Int32)) = _; exact congrArg (fun z => some (Value.int z)) (Eq.symm (Eq.trans (if_pos hc3) (hc6)))), N5, rfl⟩) (fun fs hr => retN X5 hx (t := .boolean) hret (by simp) (hb hby d10_36) hr)
    · refine og T5 (mkF m 36 #[vR ra0, vR ra3] [(.int (1 : Int32))]) (fun _ k => XS.ifNo X5.here hx rfl (hb hby d10_28) rfl ((if0 _ _).trans (feq hc6).1) (XS.iconst X5.here hx rfl (hb hby d10_31) (XS.goto X5.here hx rfl (pc0 := 32) (pc' := 36) rfl (hb hby d10_32) (by decide) (by decide) k))) ?_
      exact own_leaveN X5 hlk (v := some (.int (nar .boolean (1 : Int32)))) (fun h => by rw [hret] at h; cases h) (lb rfl) (lb rfl) (by rw [eq5]; exact ⟨(by show some (Value.int (1 : Int32)) = _; exact congrArg (fun z => some (Value.int z)) (Eq.symm (Eq.trans (if_pos hc3) ((own_ica01 _ _).resolve_left hc6)))), N5, rfl⟩) (fun fs hr => retN X5 hx (t := .boolean) hret (by simp) (hb hby d10_36) hr)
  · refine og T2 (mkF m 11 #[vR ra0, vR ra3] [(.ref ra0)]) (fun _ k => Jvm.RoadKit.acmp (g := (mkF m 7 #[vR ra0, vR ra3] [(.ref kw0), (.ref ra1)])) X2 hx rfl rfl rfl (pc0 := 7) (pc' := 10) (same := false) rfl (hb hby d10_7) rfl (decide_eq_false fun q => hc3 (Value.ref.inj q)) (by decide) (by decide) (XS.aloadN X2.here hx rfl (hb hby d10_10) rfl rfl k)) ?_
    obtain ⟨T7, X7, e7, st7⟩ := getF X2 hx hZ hown (host := "") (Or.inl (own_w hw 51)) Via.refl e2 F_kind_ra0 (g := (mkF m 11 #[vR ra0, vR ra3] [(.ref ra0)])) rfl rfl (hb hby d10_11)
    refine og T7 (mkF m 14 #[vR ra0, vR ra3] [(.ref ra1)]) st7 ?_
    obtain ⟨T8, X8, e8, st8⟩ := getS2 X7 hx hZ hown (host := "") (Or.inl (own_w hw 82)) Via.refl e7 (SK5.ext OLD.2) (g := (mkF m 14 #[vR ra0, vR ra3] [(.ref ra1)])) rfl (hb hby d10_14)
    refine og T8 (mkF m 17 #[vR ra0, vR ra3] [(.ref kw5), (.ref ra1)]) st8 ?_
    by_cases hc9 : ra1 = kw5
    · refine og T8 (mkF m 21 #[vR ra0, vR ra3] [(.ref ra0)]) (fun _ k => Jvm.RoadKit.acmp (g := (mkF m 17 #[vR ra0, vR ra3] [(.ref kw5), (.ref ra1)])) X8 hx rfl rfl rfl (pc0 := 17) (pc' := 20) (same := true) rfl (hb hby d10_17) rfl (decide_eq_true (congrArg Value.ref hc9)) (by decide) (by decide) (XS.aloadN X8.here hx rfl (hb hby d10_20) rfl rfl k)) ?_
      obtain ⟨T10, X10, e10, st10⟩ := getF X8 hx hZ hown (host := "") (Or.inl (own_w hw 53)) Via.refl e8 F_text_ra0 (g := (mkF m 21 #[vR ra0, vR ra3] [(.ref ra0)])) rfl rfl (hb hby d10_21)
      refine og T10 (mkF m 24 #[vR ra0, vR ra3] [(.ref ra2)]) st10 ?_
      refine og T10 (mkF m 25 #[vR ra0, vR ra3] [(.ref ra3), (.ref ra2)]) (fun _ k => XS.aloadN X10.here hx rfl (hb hby d10_24) rfl rfl k) ?_
      obtain ⟨cq11, kq11, q11a, q11b, q11c⟩ := isOf hZ e10 E_ra2
      obtain ⟨_, _, ⟨T11, L11, k11, n11⟩, -, X11, ⟨Lc11, hQ11, l11, y11, z11⟩, st11⟩ := X10.virtualBack hx (y := y6) (z := y6) hown (mvT hZ (own_w hw 65)) (mvT hZ (own_w hw 66)) (notFace_of_selects (args := #[]) (mvT hZ (own_w hw 68))) (mvT hZ (own_w hw 68)) (mvT hZ (own_w hw 67)) (by decide) (backOf (W := 0) (rm11_38 l Z a0 hw ra2 rt2 kc2 ca0 ca1 ra3 rt3 kc3 cb0 cb1 cb2 G1 h0 n0 OLD E_ra2 F_coder_ra2 F_value_ra2 hl_ca0 hl_ca1 V_rt2 E_ra3 F_coder_ra3 F_value_ra3 hl_cb0 hl_cb1 hl_cb2 V_rt3 hk16 O2 P5) hZ (own_w hw 69) (own_w hw 14) (lb rfl) (lb rfl)) q11a q11c (g := (mkF m 25 #[vR ra0, vR ra3] [(.ref ra3), (.ref ra2)])) rfl (by rw [hml]; rfl) (Steps.refl _) (argsL := [(.ref ra3)]) (rest := []) (lenOf pd_5 rfl) rfl (lb rfl) (hb hby d10_25) (fun _ _ => ⟨rfl, e10, (lb rfl), (lb rfl)⟩)
      dsimp only [Pt.U, Pt.locs, Pt.cells, Pt.slots] at X11 l11 y11 z11 st11 hQ11
      subst l11 y11 z11
      obtain ⟨rfl, Nq11, eq11⟩ := hQ11
      have N11 := Fr.app N0 Nq11
      refine ot T11 (mkF m 28 #[vR ra0, vR ra3] [(.int (own_ica [ca0, ca1] [cb0, cb1, cb2]))]) st11 ?_
      by_cases hc12 : (own_ica [ca0, ca1] [cb0, cb1, cb2]) = (0 : Int32)
      · refine og T11 (mkF m 36 #[vR ra0, vR ra3] [(.int (0 : Int32))]) (fun _ k => XS.ifYes X11.here hx rfl (pc0 := 28) (pc' := 35) rfl (hb hby d10_28) rfl ((if0 _ _).trans (teq hc12).1) (by decide) (by decide) (XS.iconst X11.here hx rfl (hb hby d10_35) k)) ?_
        exact own_leaveN X11 hlk (v := some (.int (nar .boolean (0 : Int32)))) (fun h => by rw [hret] at h; cases h) (lb rfl) (lb rfl) (by rw [eq11]; exact ⟨(by show some (Value.int (0 : Int32)) = _; exact congrArg (fun z => some (Value.int z)) (Eq.symm (Eq.trans ((if_neg hc3).trans (if_pos hc9)) (hc12)))), N11, rfl⟩) (fun fs hr => retN X11 hx (t := .boolean) hret (by simp) (hb hby d10_36) hr)
      · refine og T11 (mkF m 36 #[vR ra0, vR ra3] [(.int (1 : Int32))]) (fun _ k => XS.ifNo X11.here hx rfl (hb hby d10_28) rfl ((if0 _ _).trans (feq hc12).1) (XS.iconst X11.here hx rfl (hb hby d10_31) (XS.goto X11.here hx rfl (pc0 := 32) (pc' := 36) rfl (hb hby d10_32) (by decide) (by decide) k))) ?_
        exact own_leaveN X11 hlk (v := some (.int (nar .boolean (1 : Int32)))) (fun h => by rw [hret] at h; cases h) (lb rfl) (lb rfl) (by rw [eq11]; exact ⟨(by show some (Value.int (1 : Int32)) = _; exact congrArg (fun z => some (Value.int z)) (Eq.symm (Eq.trans ((if_neg hc3).trans (if_pos hc9)) ((own_ica01 _ _).resolve_left hc12)))), N11, rfl⟩) (fun fs hr => retN X11 hx (t := .boolean) hret (by simp) (hb hby d10_36) hr)
    · refine og T8 (mkF m 36 #[vR ra0, vR ra3] [(.int (0 : Int32))]) (fun _ k => Jvm.RoadKit.acmp (g := (mkF m 17 #[vR ra0, vR ra3] [(.ref kw5), (.ref ra1)])) X8 hx rfl rfl rfl (pc0 := 17) (pc' := 35) (same := false) rfl (hb hby d10_17) rfl (decide_eq_false fun q => hc9 (Value.ref.inj q)) (by decide) (by decide) (XS.iconst X8.here hx rfl (hb hby d10_35) k)) ?_
      exact own_leaveN X8 hlk (v := some (.int (nar .boolean (0 : Int32)))) (fun h => by rw [hret] at h; cases h) (lb rfl) (lb rfl) (by rw [e8]; exact ⟨(by show some (Value.int (0 : Int32)) = _; exact congrArg (fun z => some (Value.int z)) (Eq.symm ((if_neg hc3).trans (if_neg hc9)))), N0, rfl⟩) (fun fs hr => retN X8 hx (t := .boolean) hret (by simp) (hb hby d10_36) hr)
abbrev R11_40 : Room := { frames := 2, cells := 0, slots := 0, locals := 26 }
def Q11_40 (Z : State) (ra0 : Addr) (ra1 : Addr) (kc2 : ClassId) (ci3 : Int32) (ci4 : Int32) (ci5 : Int32) (ra6 : Addr) (ra7 : Addr) (kc8 : ClassId) (G1 : Int32) (h0 : Heap) (n0 : Nat) (v : Option Value) (h : Heap) (L : List Loc) : Prop := (v = some (.int (own_ica [ci3, ci4, ci5] [])) ∧ Fr n0 L ∧ h = h0)
theorem rm11_40 (l : Launch) (Z : State) (a0 : Array Value) (hw : HW Z a0) (ra0 : Addr) (ra1 : Addr) (kc2 : ClassId) (ci3 : Int32) (ci4 : Int32) (ci5 : Int32) (ra6 : Addr) (ra7 : Addr) (kc8 : ClassId) (G1 : Int32) (h0 : Heap) (n0 : Nat) (OLD : Old Z n0 h0) (E_ra0 : Exa Z h0 ra0 "java/lang/String") (F_coder_ra0 : Fld Z h0 ra0 "java/lang/String" "coder" "B" (.int (0 : Int32))) (F_value_ra0 : Fld Z h0 ra0 "java/lang/String" "value" "[B" (.ref ra1)) (hl_ci3 : ¬ ci3 < 0 ∧ ¬ (255 : Int32) < ci3) (hl_ci4 : ¬ ci4 < 0 ∧ ¬ (255 : Int32) < ci4) (hl_ci5 : ¬ ci5 < 0 ∧ ¬ (255 : Int32) < ci5) (V_ra1 : Arv Z h0 ra1 kc2 .byte (3 : Int32) [(.int (ci3.toInt8.toInt32)), (.int (ci4.toInt8.toInt32)), (.int (ci5.toInt8.toInt32))] (.int (0 : Int32))) (E_ra6 : Exa Z h0 ra6 "java/lang/String") (F_coder_ra6 : Fld Z h0 ra6 "java/lang/String" "coder" "B" (.int (0 : Int32))) (F_value_ra6 : Fld Z h0 ra6 "java/lang/String" "value" "[B" (.ref ra7)) (V_ra7 : Arv Z h0 ra7 kc8 .byte (0 : Int32) [] (.int (0 : Int32))) (hk11 : ¬ (ra0 = ra6)) (O2 : Sta Z Z.heap "java/lang/String" "COMPACT_STRINGS" "Z" (.int G1)) (P5 : ¬ (G1 = (0 : Int32))) :
    own_CN l Z y6 jdk_42_method_70_code 2 (some .boolean) [] R11_40 #[(.ref ra0), (.ref ra6)] h0 (Q11_40 Z ra0 ra1 kc2 ci3 ci4 ci5 ra6 ra7 kc8 G1 h0 n0) := by
  refine own_entryN (plainFor_of_name pn_0) fun p e s m below meth c s₁ hx hby hml hown hnm hret hlk hZ hh X0 e0 => ?_
  have N0 := Fr.nil n0
  rw [ef_11_40 m ra0 ra6]
  refine og s₁ (mkF m 14 #[vR ra0, vR ra6] [(.ref ra6)]) (fun _ k => XS.aloadN X0.here hx rfl (hb hby d11_0) rfl rfl (XS.aloadN X0.here hx rfl (hb hby d11_1) rfl rfl (Jvm.RoadKit.acmp (g := (mkF m 2 #[vR ra0, vR ra6] [(.ref ra6), (.ref ra0)])) X0 hx rfl rfl rfl (pc0 := 2) (pc' := 9) (same := false) rfl (hb hby d11_2) rfl (decide_eq_false fun q => hk11 (Value.ref.inj q)) (by decide) (by decide) (XS.aloadN X0.here hx rfl (hb hby d11_9) rfl rfl (XS.ifnullNo X0.here hx rfl (hb hby d11_10) rfl (XS.aloadN X0.here hx rfl (hb hby d11_13) rfl rfl k)))))) ?_
  have hp1 : ∀ c ∈ ([] : List Int32), ¬ c < 0 ∧ ¬ (255 : Int32) < c := by
    intro c hc
    cases hc
  obtain ⟨cq2, kq2, q2a, q2b, q2c⟩ := isOf hZ e0 E_ra6
  obtain ⟨_, _, ⟨T2, L2, k2, n2⟩, -, X2, ⟨Lc2, hQ2, l2, y2, z2⟩, st2⟩ := X0.virtualBack hx (y := y2) (z := y2) hown (mvT hZ (own_w hw 70)) (mvT hZ (own_w hw 71)) (notFace_of_selects (args := #[]) (mvT hZ (own_w hw 73))) (mvT hZ (own_w hw 73)) (mvT hZ (own_w hw 72)) (by decide) (StrChars.Road.lenW (W := 0) hZ (own_hln hw) (kI := 4) (own_w hw 13) (cs := ([] : List Int32)) E_ra6 F_value_ra6 F_coder_ra6 V_ra7 (StrChars.Road.codOf rfl (fun c hc => (hp1 c hc).2)) (own_up _ hp1) (O2.ext OLD.2) P5 (lb rfl) (lb rfl) (lb rfl)) q2a q2c (g := (mkF m 14 #[vR ra0, vR ra6] [(.ref ra6)])) rfl (by rw [hml]; rfl) (Steps.refl _) (argsL := []) (rest := []) (lenOf pd_1 rfl) rfl (lb rfl) (hb hby d11_14) (fun _ _ => ⟨rfl, e0, (lb rfl), (lb rfl)⟩)
  dsimp only [Pt.U, Pt.locs, Pt.cells, Pt.slots] at X2 l2 y2 z2 st2 hQ2
  subst l2 y2 z2
  obtain ⟨rfl, rfl, eq2⟩ := hQ2
  have N2 := Fr.app N0 (Fr.nil n0)
  refine ot T2 (mkF m 17 #[vR ra0, vR ra6] [(.int (0 : Int32))]) st2 ?_
  refine og T2 (mkF m 18 #[vR ra0, vR ra6] [(.ref ra0), (.int (0 : Int32))]) (fun _ k => XS.aloadN X2.here hx rfl (hb hby d11_17) rfl rfl k) ?_
  have hp3 : ∀ c ∈ ([ci3, ci4, ci5] : List Int32), ¬ c < 0 ∧ ¬ (255 : Int32) < c := by
    intro c hc
    simp only [List.mem_cons, List.not_mem_nil, or_false] at hc
    rcases hc with rfl | rfl | rfl
    · exact hl_ci3
    · exact hl_ci4
    · exact hl_ci5
  obtain ⟨cq4, kq4, q4a, q4b, q4c⟩ := isOf hZ eq2 E_ra0
  obtain ⟨_, _, ⟨T4, L4, k4, n4⟩, -, X4, ⟨Lc4, hQ4, l4, y4, z4⟩, st4⟩ := X2.virtualBack hx (y := y2) (z := y2) hown (mvT hZ (own_w hw 70)) (mvT hZ (own_w hw 71)) (notFace_of_selects (args := #[]) (mvT hZ (own_w hw 73))) (mvT hZ (own_w hw 73)) (mvT hZ (own_w hw 72)) (by decide) (StrChars.Road.lenW (W := 1) hZ (own_hln hw) (kI := 4) (own_w hw 13) (cs := ([ci3, ci4, ci5] : List Int32)) E_ra0 F_value_ra0 F_coder_ra0 V_ra1 (StrChars.Road.codOf rfl (fun c hc => (hp3 c hc).2)) (own_up _ hp3) (O2.ext OLD.2) P5 (lb rfl) (lb rfl) (lb rfl)) q4a q4c (g := (mkF m 18 #[vR ra0, vR ra6] [(.ref ra0), (.int (0 : Int32))])) rfl (by rw [hml]; rfl) (Steps.refl _) (argsL := []) (rest := [(.int (0 : Int32))]) (lenOf pd_1 rfl) rfl (lb rfl) (hb hby d11_18) (fun _ _ => ⟨rfl, eq2, (lb rfl), (lb rfl)⟩)
  dsimp only [Pt.U, Pt.locs, Pt.cells, Pt.slots] at X4 l4 y4 z4 st4 hQ4
  subst l4 y4 z4
  obtain ⟨rfl, rfl, eq4⟩ := hQ4
  have N4 := Fr.app N2 (Fr.nil n0)
  refine ot T4 (mkF m 21 #[vR ra0, vR ra6] [(.int (3 : Int32)), (.int (0 : Int32))]) st4 ?_
  refine og T4 (mkF m 44 #[vR ra0, vR ra6] [(.int (0 : Int32))]) (fun _ k => XS.icmpYes X4.here hx rfl (pc0 := 21) (pc' := 43) rfl (hb hby d11_21) rfl (feq (by decide : ¬ ((0 : Int32) = (3 : Int32)))).2 (by decide) (by decide) (XS.iconst X4.here hx rfl (hb hby d11_43) k)) ?_
  exact own_leaveN X4 hlk (v := some (.int (nar .boolean (0 : Int32)))) (fun h => by rw [hret] at h; cases h) (lb rfl) (lb rfl) (by rw [eq4]; exact ⟨(by show some (Value.int (0 : Int32)) = _; first | rfl | (simp [own_ica]; done)), N4, rfl⟩) (fun fs hr => retN X4 hx (t := .boolean) hret (by simp) (hb hby d11_44) hr)
abbrev R10_39 : Room := { frames := 5, cells := 0, slots := 0, locals := 100 }
def Q10_39 (Z : State) (ra0 : Addr) (ra1 : Addr) (ra2 : Addr) (rt2 : Addr) (ra3 : Addr) (rt3 : Addr) (kc2 : ClassId) (kc3 : ClassId) (ca0 : Int32) (ca1 : Int32) (ca2 : Int32) (kw0 : Addr) (G1 : Int32) (kw5 : Addr) (h0 : Heap) (n0 : Nat) (v : Option Value) (h : Heap) (L : List Loc) : Prop := (v = some (.int (own_isv ra1 kw0 kw5 (own_ica [ca0, ca1, ca2] []))) ∧ Fr n0 L ∧ h = h0)
theorem rm10_39 (l : Launch) (Z : State) (a0 : Array Value) (hw : HW Z a0) (ra0 : Addr) (ra1 : Addr) (ra2 : Addr) (rt2 : Addr) (ra3 : Addr) (rt3 : Addr) (kc2 : ClassId) (kc3 : ClassId) (ca0 : Int32) (ca1 : Int32) (ca2 : Int32) (kw0 : Addr) (G1 : Int32) (kw5 : Addr) (h0 : Heap) (n0 : Nat) (OLD : Old Z n0 h0) (E_ra0 : Exa Z h0 ra0 "com/example/agave/agave/query/Tokens$Token") (F_kind_ra0 : Fld Z h0 ra0 "com/example/agave/agave/query/Tokens$Token" "kind" "Lcom/example/agave/agave/query/Tokens$Kind;" (.ref ra1)) (F_text_ra0 : Fld Z h0 ra0 "com/example/agave/agave/query/Tokens$Token" "text" "Ljava/lang/String;" (.ref ra2)) (E_ra2 : Exa Z h0 ra2 "java/lang/String") (F_coder_ra2 : Fld Z h0 ra2 "java/lang/String" "coder" "B" (.int (0 : Int32))) (F_value_ra2 : Fld Z h0 ra2 "java/lang/String" "value" "[B" (.ref rt2)) (V_rt2 : Arv Z h0 rt2 kc2 .byte (3 : Int32) [(.int (ca0.toInt8.toInt32)), (.int (ca1.toInt8.toInt32)), (.int (ca2.toInt8.toInt32))] (.int (0 : Int32))) (E_ra3 : Exa Z h0 ra3 "java/lang/String") (F_coder_ra3 : Fld Z h0 ra3 "java/lang/String" "coder" "B" (.int (0 : Int32))) (F_value_ra3 : Fld Z h0 ra3 "java/lang/String" "value" "[B" (.ref rt3)) (V_rt3 : Arv Z h0 rt3 kc3 .byte (0 : Int32) [] (.int (0 : Int32))) (hl_ca0 : ¬ ca0 < 0 ∧ ¬ (255 : Int32) < ca0) (hl_ca1 : ¬ ca1 < 0 ∧ ¬ (255 : Int32) < ca1) (hl_ca2 : ¬ ca2 < 0 ∧ ¬ (255 : Int32) < ca2) (hk14 : ¬ (ra2 = ra3)) (SK0 : Sta Z Z.heap "com/example/agave/agave/query/Tokens$Kind" "WORD" "Lcom/example/agave/agave/query/Tokens$Kind;" (.ref kw0)) (EK0 : Exa Z Z.heap kw0 "com/example/agave/agave/query/Tokens$Kind") (O2 : Sta Z Z.heap "java/lang/String" "COMPACT_STRINGS" "Z" (.int G1)) (P5 : ¬ (G1 = (0 : Int32))) (SK5 : Sta Z Z.heap "com/example/agave/agave/query/Tokens$Kind" "SYMBOL" "Lcom/example/agave/agave/query/Tokens$Kind;" (.ref kw5)) (EK5 : Exa Z Z.heap kw5 "com/example/agave/agave/query/Tokens$Kind") :
    own_CN l Z y7 prog_6_method_6_code 2 (some .boolean) [] R10_39 #[(.ref ra0), (.ref ra3)] h0 (Q10_39 Z ra0 ra1 ra2 rt2 ra3 rt3 kc2 kc3 ca0 ca1 ca2 kw0 G1 kw5 h0 n0) := by
  refine own_entryN (plainFor_of_name pn_2) fun p e s m below meth c s₁ hx hby hml hown hnm hret hlk hZ hh X0 e0 => ?_
  have N0 := Fr.nil n0
  rw [ef_10_39 m ra0 ra3]
  refine og s₁ (mkF m 1 #[vR ra0, vR ra3] [(.ref ra0)]) (fun _ k => XS.aloadN X0.here hx rfl (hb hby d10_0) rfl rfl k) ?_
  obtain ⟨T1, X1, e1, st1⟩ := getF X0 hx hZ hown (host := "") (Or.inl (own_w hw 51)) Via.refl e0 F_kind_ra0 (g := (mkF m 1 #[vR ra0, vR ra3] [(.ref ra0)])) rfl rfl (hb hby d10_1)
  refine og T1 (mkF m 4 #[vR ra0, vR ra3] [(.ref ra1)]) st1 ?_
  obtain ⟨T2, X2, e2, st2⟩ := getS2 X1 hx hZ hown (host := "") (Or.inl (own_w hw 64)) Via.refl e1 (SK0.ext OLD.2) (g := (mkF m 4 #[vR ra0, vR ra3] [(.ref ra1)])) rfl (hb hby d10_4)
  refine og T2 (mkF m 7 #[vR ra0, vR ra3] [(.ref kw0), (.ref ra1)]) st2 ?_
  by_cases hc3 : ra1 = kw0
  · refine og T2 (mkF m 21 #[vR ra0, vR ra3] [(.ref ra0)]) (fun _ k => Jvm.RoadKit.acmp (g := (mkF m 7 #[vR ra0, vR ra3] [(.ref kw0), (.ref ra1)])) X2 hx rfl rfl rfl (pc0 := 7) (pc' := 20) (same := true) rfl (hb hby d10_7) rfl (decide_eq_true (congrArg Value.ref hc3)) (by decide) (by decide) (XS.aloadN X2.here hx rfl (hb hby d10_20) rfl rfl k)) ?_
    obtain ⟨T4, X4, e4, st4⟩ := getF X2 hx hZ hown (host := "") (Or.inl (own_w hw 53)) Via.refl e2 F_text_ra0 (g := (mkF m 21 #[vR ra0, vR ra3] [(.ref ra0)])) rfl rfl (hb hby d10_21)
    refine og T4 (mkF m 24 #[vR ra0, vR ra3] [(.ref ra2)]) st4 ?_
    refine og T4 (mkF m 25 #[vR ra0, vR ra3] [(.ref ra3), (.ref ra2)]) (fun _ k => XS.aloadN X4.here hx rfl (hb hby d10_24) rfl rfl k) ?_
    obtain ⟨cq5, kq5, q5a, q5b, q5c⟩ := isOf hZ e4 E_ra2
    obtain ⟨_, _, ⟨T5, L5, k5, n5⟩, -, X5, ⟨Lc5, hQ5, l5, y5, z5⟩, st5⟩ := X4.virtualBack hx (y := y6) (z := y6) hown (mvT hZ (own_w hw 65)) (mvT hZ (own_w hw 66)) (notFace_of_selects (args := #[]) (mvT hZ (own_w hw 68))) (mvT hZ (own_w hw 68)) (mvT hZ (own_w hw 67)) (by decide) (backOf (W := 0) (rm11_40 l Z a0 hw ra2 rt2 kc2 ca0 ca1 ca2 ra3 rt3 kc3 G1 h0 n0 OLD E_ra2 F_coder_ra2 F_value_ra2 hl_ca0 hl_ca1 hl_ca2 V_rt2 E_ra3 F_coder_ra3 F_value_ra3 V_rt3 hk14 O2 P5) hZ (own_w hw 69) (own_w hw 14) (lb rfl) (lb rfl)) q5a q5c (g := (mkF m 25 #[vR ra0, vR ra3] [(.ref ra3), (.ref ra2)])) rfl (by rw [hml]; rfl) (Steps.refl _) (argsL := [(.ref ra3)]) (rest := []) (lenOf pd_5 rfl) rfl (lb rfl) (hb hby d10_25) (fun _ _ => ⟨rfl, e4, (lb rfl), (lb rfl)⟩)
    dsimp only [Pt.U, Pt.locs, Pt.cells, Pt.slots] at X5 l5 y5 z5 st5 hQ5
    subst l5 y5 z5
    obtain ⟨rfl, Nq5, eq5⟩ := hQ5
    have N5 := Fr.app N0 Nq5
    refine ot T5 (mkF m 28 #[vR ra0, vR ra3] [(.int (own_ica [ca0, ca1, ca2] []))]) st5 ?_
    by_cases hc6 : (own_ica [ca0, ca1, ca2] []) = (0 : Int32)
    · refine og T5 (mkF m 36 #[vR ra0, vR ra3] [(.int (0 : Int32))]) (fun _ k => XS.ifYes X5.here hx rfl (pc0 := 28) (pc' := 35) rfl (hb hby d10_28) rfl ((if0 _ _).trans (teq hc6).1) (by decide) (by decide) (XS.iconst X5.here hx rfl (hb hby d10_35) k)) ?_
      exact own_leaveN X5 hlk (v := some (.int (nar .boolean (0 : Int32)))) (fun h => by rw [hret] at h; cases h) (lb rfl) (lb rfl) (by rw [eq5]; exact ⟨(by show some (Value.int (0 : Int32)) = _; exact congrArg (fun z => some (Value.int z)) (Eq.symm (Eq.trans (if_pos hc3) (hc6)))), N5, rfl⟩) (fun fs hr => retN X5 hx (t := .boolean) hret (by simp) (hb hby d10_36) hr)
    · refine og T5 (mkF m 36 #[vR ra0, vR ra3] [(.int (1 : Int32))]) (fun _ k => XS.ifNo X5.here hx rfl (hb hby d10_28) rfl ((if0 _ _).trans (feq hc6).1) (XS.iconst X5.here hx rfl (hb hby d10_31) (XS.goto X5.here hx rfl (pc0 := 32) (pc' := 36) rfl (hb hby d10_32) (by decide) (by decide) k))) ?_
      exact own_leaveN X5 hlk (v := some (.int (nar .boolean (1 : Int32)))) (fun h => by rw [hret] at h; cases h) (lb rfl) (lb rfl) (by rw [eq5]; exact ⟨(by show some (Value.int (1 : Int32)) = _; exact congrArg (fun z => some (Value.int z)) (Eq.symm (Eq.trans (if_pos hc3) ((own_ica01 _ _).resolve_left hc6)))), N5, rfl⟩) (fun fs hr => retN X5 hx (t := .boolean) hret (by simp) (hb hby d10_36) hr)
  · refine og T2 (mkF m 11 #[vR ra0, vR ra3] [(.ref ra0)]) (fun _ k => Jvm.RoadKit.acmp (g := (mkF m 7 #[vR ra0, vR ra3] [(.ref kw0), (.ref ra1)])) X2 hx rfl rfl rfl (pc0 := 7) (pc' := 10) (same := false) rfl (hb hby d10_7) rfl (decide_eq_false fun q => hc3 (Value.ref.inj q)) (by decide) (by decide) (XS.aloadN X2.here hx rfl (hb hby d10_10) rfl rfl k)) ?_
    obtain ⟨T7, X7, e7, st7⟩ := getF X2 hx hZ hown (host := "") (Or.inl (own_w hw 51)) Via.refl e2 F_kind_ra0 (g := (mkF m 11 #[vR ra0, vR ra3] [(.ref ra0)])) rfl rfl (hb hby d10_11)
    refine og T7 (mkF m 14 #[vR ra0, vR ra3] [(.ref ra1)]) st7 ?_
    obtain ⟨T8, X8, e8, st8⟩ := getS2 X7 hx hZ hown (host := "") (Or.inl (own_w hw 82)) Via.refl e7 (SK5.ext OLD.2) (g := (mkF m 14 #[vR ra0, vR ra3] [(.ref ra1)])) rfl (hb hby d10_14)
    refine og T8 (mkF m 17 #[vR ra0, vR ra3] [(.ref kw5), (.ref ra1)]) st8 ?_
    by_cases hc9 : ra1 = kw5
    · refine og T8 (mkF m 21 #[vR ra0, vR ra3] [(.ref ra0)]) (fun _ k => Jvm.RoadKit.acmp (g := (mkF m 17 #[vR ra0, vR ra3] [(.ref kw5), (.ref ra1)])) X8 hx rfl rfl rfl (pc0 := 17) (pc' := 20) (same := true) rfl (hb hby d10_17) rfl (decide_eq_true (congrArg Value.ref hc9)) (by decide) (by decide) (XS.aloadN X8.here hx rfl (hb hby d10_20) rfl rfl k)) ?_
      obtain ⟨T10, X10, e10, st10⟩ := getF X8 hx hZ hown (host := "") (Or.inl (own_w hw 53)) Via.refl e8 F_text_ra0 (g := (mkF m 21 #[vR ra0, vR ra3] [(.ref ra0)])) rfl rfl (hb hby d10_21)
      refine og T10 (mkF m 24 #[vR ra0, vR ra3] [(.ref ra2)]) st10 ?_
      refine og T10 (mkF m 25 #[vR ra0, vR ra3] [(.ref ra3), (.ref ra2)]) (fun _ k => XS.aloadN X10.here hx rfl (hb hby d10_24) rfl rfl k) ?_
      obtain ⟨cq11, kq11, q11a, q11b, q11c⟩ := isOf hZ e10 E_ra2
      obtain ⟨_, _, ⟨T11, L11, k11, n11⟩, -, X11, ⟨Lc11, hQ11, l11, y11, z11⟩, st11⟩ := X10.virtualBack hx (y := y6) (z := y6) hown (mvT hZ (own_w hw 65)) (mvT hZ (own_w hw 66)) (notFace_of_selects (args := #[]) (mvT hZ (own_w hw 68))) (mvT hZ (own_w hw 68)) (mvT hZ (own_w hw 67)) (by decide) (backOf (W := 0) (rm11_40 l Z a0 hw ra2 rt2 kc2 ca0 ca1 ca2 ra3 rt3 kc3 G1 h0 n0 OLD E_ra2 F_coder_ra2 F_value_ra2 hl_ca0 hl_ca1 hl_ca2 V_rt2 E_ra3 F_coder_ra3 F_value_ra3 V_rt3 hk14 O2 P5) hZ (own_w hw 69) (own_w hw 14) (lb rfl) (lb rfl)) q11a q11c (g := (mkF m 25 #[vR ra0, vR ra3] [(.ref ra3), (.ref ra2)])) rfl (by rw [hml]; rfl) (Steps.refl _) (argsL := [(.ref ra3)]) (rest := []) (lenOf pd_5 rfl) rfl (lb rfl) (hb hby d10_25) (fun _ _ => ⟨rfl, e10, (lb rfl), (lb rfl)⟩)
      dsimp only [Pt.U, Pt.locs, Pt.cells, Pt.slots] at X11 l11 y11 z11 st11 hQ11
      subst l11 y11 z11
      obtain ⟨rfl, Nq11, eq11⟩ := hQ11
      have N11 := Fr.app N0 Nq11
      refine ot T11 (mkF m 28 #[vR ra0, vR ra3] [(.int (own_ica [ca0, ca1, ca2] []))]) st11 ?_
      by_cases hc12 : (own_ica [ca0, ca1, ca2] []) = (0 : Int32)
      · refine og T11 (mkF m 36 #[vR ra0, vR ra3] [(.int (0 : Int32))]) (fun _ k => XS.ifYes X11.here hx rfl (pc0 := 28) (pc' := 35) rfl (hb hby d10_28) rfl ((if0 _ _).trans (teq hc12).1) (by decide) (by decide) (XS.iconst X11.here hx rfl (hb hby d10_35) k)) ?_
        exact own_leaveN X11 hlk (v := some (.int (nar .boolean (0 : Int32)))) (fun h => by rw [hret] at h; cases h) (lb rfl) (lb rfl) (by rw [eq11]; exact ⟨(by show some (Value.int (0 : Int32)) = _; exact congrArg (fun z => some (Value.int z)) (Eq.symm (Eq.trans ((if_neg hc3).trans (if_pos hc9)) (hc12)))), N11, rfl⟩) (fun fs hr => retN X11 hx (t := .boolean) hret (by simp) (hb hby d10_36) hr)
      · refine og T11 (mkF m 36 #[vR ra0, vR ra3] [(.int (1 : Int32))]) (fun _ k => XS.ifNo X11.here hx rfl (hb hby d10_28) rfl ((if0 _ _).trans (feq hc12).1) (XS.iconst X11.here hx rfl (hb hby d10_31) (XS.goto X11.here hx rfl (pc0 := 32) (pc' := 36) rfl (hb hby d10_32) (by decide) (by decide) k))) ?_
        exact own_leaveN X11 hlk (v := some (.int (nar .boolean (1 : Int32)))) (fun h => by rw [hret] at h; cases h) (lb rfl) (lb rfl) (by rw [eq11]; exact ⟨(by show some (Value.int (1 : Int32)) = _; exact congrArg (fun z => some (Value.int z)) (Eq.symm (Eq.trans ((if_neg hc3).trans (if_pos hc9)) ((own_ica01 _ _).resolve_left hc12)))), N11, rfl⟩) (fun fs hr => retN X11 hx (t := .boolean) hret (by simp) (hb hby d10_36) hr)
    · refine og T8 (mkF m 36 #[vR ra0, vR ra3] [(.int (0 : Int32))]) (fun _ k => Jvm.RoadKit.acmp (g := (mkF m 17 #[vR ra0, vR ra3] [(.ref kw5), (.ref ra1)])) X8 hx rfl rfl rfl (pc0 := 17) (pc' := 35) (same := false) rfl (hb hby d10_17) rfl (decide_eq_false fun q => hc9 (Value.ref.inj q)) (by decide) (by decide) (XS.iconst X8.here hx rfl (hb hby d10_35) k)) ?_
      exact own_leaveN X8 hlk (v := some (.int (nar .boolean (0 : Int32)))) (fun h => by rw [hret] at h; cases h) (lb rfl) (lb rfl) (by rw [e8]; exact ⟨(by show some (Value.int (0 : Int32)) = _; exact congrArg (fun z => some (Value.int z)) (Eq.symm ((if_neg hc3).trans (if_neg hc9)))), N0, rfl⟩) (fun fs hr => retN X8 hx (t := .boolean) hret (by simp) (hb hby d10_36) hr)
abbrev R11_42 : Room := { frames := 2, cells := 0, slots := 0, locals := 26 }
def Q11_42 (Z : State) (ra0 : Addr) (ra1 : Addr) (kc2 : ClassId) (ci3 : Int32) (ci4 : Int32) (ci5 : Int32) (ra6 : Addr) (ra7 : Addr) (kc8 : ClassId) (ci9 : Int32) (G1 : Int32) (h0 : Heap) (n0 : Nat) (v : Option Value) (h : Heap) (L : List Loc) : Prop := (v = some (.int (own_ica [ci3, ci4, ci5] [ci9])) ∧ Fr n0 L ∧ h = h0)
theorem rm11_42 (l : Launch) (Z : State) (a0 : Array Value) (hw : HW Z a0) (ra0 : Addr) (ra1 : Addr) (kc2 : ClassId) (ci3 : Int32) (ci4 : Int32) (ci5 : Int32) (ra6 : Addr) (ra7 : Addr) (kc8 : ClassId) (ci9 : Int32) (G1 : Int32) (h0 : Heap) (n0 : Nat) (OLD : Old Z n0 h0) (E_ra0 : Exa Z h0 ra0 "java/lang/String") (F_coder_ra0 : Fld Z h0 ra0 "java/lang/String" "coder" "B" (.int (0 : Int32))) (F_value_ra0 : Fld Z h0 ra0 "java/lang/String" "value" "[B" (.ref ra1)) (hl_ci3 : ¬ ci3 < 0 ∧ ¬ (255 : Int32) < ci3) (hl_ci4 : ¬ ci4 < 0 ∧ ¬ (255 : Int32) < ci4) (hl_ci5 : ¬ ci5 < 0 ∧ ¬ (255 : Int32) < ci5) (V_ra1 : Arv Z h0 ra1 kc2 .byte (3 : Int32) [(.int (ci3.toInt8.toInt32)), (.int (ci4.toInt8.toInt32)), (.int (ci5.toInt8.toInt32))] (.int (0 : Int32))) (E_ra6 : Exa Z h0 ra6 "java/lang/String") (F_coder_ra6 : Fld Z h0 ra6 "java/lang/String" "coder" "B" (.int (0 : Int32))) (F_value_ra6 : Fld Z h0 ra6 "java/lang/String" "value" "[B" (.ref ra7)) (hl_ci9 : ¬ ci9 < 0 ∧ ¬ (255 : Int32) < ci9) (V_ra7 : Arv Z h0 ra7 kc8 .byte (1 : Int32) [(.int (ci9.toInt8.toInt32))] (.int (0 : Int32))) (hk12 : ¬ (ra0 = ra6)) (O2 : Sta Z Z.heap "java/lang/String" "COMPACT_STRINGS" "Z" (.int G1)) (P5 : ¬ (G1 = (0 : Int32))) :
    own_CN l Z y6 jdk_42_method_70_code 2 (some .boolean) [] R11_42 #[(.ref ra0), (.ref ra6)] h0 (Q11_42 Z ra0 ra1 kc2 ci3 ci4 ci5 ra6 ra7 kc8 ci9 G1 h0 n0) := by
  refine own_entryN (plainFor_of_name pn_0) fun p e s m below meth c s₁ hx hby hml hown hnm hret hlk hZ hh X0 e0 => ?_
  have N0 := Fr.nil n0
  rw [ef_11_42 m ra0 ra6]
  refine og s₁ (mkF m 14 #[vR ra0, vR ra6] [(.ref ra6)]) (fun _ k => XS.aloadN X0.here hx rfl (hb hby d11_0) rfl rfl (XS.aloadN X0.here hx rfl (hb hby d11_1) rfl rfl (Jvm.RoadKit.acmp (g := (mkF m 2 #[vR ra0, vR ra6] [(.ref ra6), (.ref ra0)])) X0 hx rfl rfl rfl (pc0 := 2) (pc' := 9) (same := false) rfl (hb hby d11_2) rfl (decide_eq_false fun q => hk12 (Value.ref.inj q)) (by decide) (by decide) (XS.aloadN X0.here hx rfl (hb hby d11_9) rfl rfl (XS.ifnullNo X0.here hx rfl (hb hby d11_10) rfl (XS.aloadN X0.here hx rfl (hb hby d11_13) rfl rfl k)))))) ?_
  have hp1 : ∀ c ∈ ([ci9] : List Int32), ¬ c < 0 ∧ ¬ (255 : Int32) < c := by
    intro c hc
    simp only [List.mem_cons, List.not_mem_nil, or_false] at hc
    rcases hc with rfl
    · exact hl_ci9
  obtain ⟨cq2, kq2, q2a, q2b, q2c⟩ := isOf hZ e0 E_ra6
  obtain ⟨_, _, ⟨T2, L2, k2, n2⟩, -, X2, ⟨Lc2, hQ2, l2, y2, z2⟩, st2⟩ := X0.virtualBack hx (y := y2) (z := y2) hown (mvT hZ (own_w hw 70)) (mvT hZ (own_w hw 71)) (notFace_of_selects (args := #[]) (mvT hZ (own_w hw 73))) (mvT hZ (own_w hw 73)) (mvT hZ (own_w hw 72)) (by decide) (StrChars.Road.lenW (W := 0) hZ (own_hln hw) (kI := 4) (own_w hw 13) (cs := ([ci9] : List Int32)) E_ra6 F_value_ra6 F_coder_ra6 V_ra7 (StrChars.Road.codOf rfl (fun c hc => (hp1 c hc).2)) (own_up _ hp1) (O2.ext OLD.2) P5 (lb rfl) (lb rfl) (lb rfl)) q2a q2c (g := (mkF m 14 #[vR ra0, vR ra6] [(.ref ra6)])) rfl (by rw [hml]; rfl) (Steps.refl _) (argsL := []) (rest := []) (lenOf pd_1 rfl) rfl (lb rfl) (hb hby d11_14) (fun _ _ => ⟨rfl, e0, (lb rfl), (lb rfl)⟩)
  dsimp only [Pt.U, Pt.locs, Pt.cells, Pt.slots] at X2 l2 y2 z2 st2 hQ2
  subst l2 y2 z2
  obtain ⟨rfl, rfl, eq2⟩ := hQ2
  have N2 := Fr.app N0 (Fr.nil n0)
  refine ot T2 (mkF m 17 #[vR ra0, vR ra6] [(.int (1 : Int32))]) st2 ?_
  refine og T2 (mkF m 18 #[vR ra0, vR ra6] [(.ref ra0), (.int (1 : Int32))]) (fun _ k => XS.aloadN X2.here hx rfl (hb hby d11_17) rfl rfl k) ?_
  have hp3 : ∀ c ∈ ([ci3, ci4, ci5] : List Int32), ¬ c < 0 ∧ ¬ (255 : Int32) < c := by
    intro c hc
    simp only [List.mem_cons, List.not_mem_nil, or_false] at hc
    rcases hc with rfl | rfl | rfl
    · exact hl_ci3
    · exact hl_ci4
    · exact hl_ci5
  obtain ⟨cq4, kq4, q4a, q4b, q4c⟩ := isOf hZ eq2 E_ra0
  obtain ⟨_, _, ⟨T4, L4, k4, n4⟩, -, X4, ⟨Lc4, hQ4, l4, y4, z4⟩, st4⟩ := X2.virtualBack hx (y := y2) (z := y2) hown (mvT hZ (own_w hw 70)) (mvT hZ (own_w hw 71)) (notFace_of_selects (args := #[]) (mvT hZ (own_w hw 73))) (mvT hZ (own_w hw 73)) (mvT hZ (own_w hw 72)) (by decide) (StrChars.Road.lenW (W := 1) hZ (own_hln hw) (kI := 4) (own_w hw 13) (cs := ([ci3, ci4, ci5] : List Int32)) E_ra0 F_value_ra0 F_coder_ra0 V_ra1 (StrChars.Road.codOf rfl (fun c hc => (hp3 c hc).2)) (own_up _ hp3) (O2.ext OLD.2) P5 (lb rfl) (lb rfl) (lb rfl)) q4a q4c (g := (mkF m 18 #[vR ra0, vR ra6] [(.ref ra0), (.int (1 : Int32))])) rfl (by rw [hml]; rfl) (Steps.refl _) (argsL := []) (rest := [(.int (1 : Int32))]) (lenOf pd_1 rfl) rfl (lb rfl) (hb hby d11_18) (fun _ _ => ⟨rfl, eq2, (lb rfl), (lb rfl)⟩)
  dsimp only [Pt.U, Pt.locs, Pt.cells, Pt.slots] at X4 l4 y4 z4 st4 hQ4
  subst l4 y4 z4
  obtain ⟨rfl, rfl, eq4⟩ := hQ4
  have N4 := Fr.app N2 (Fr.nil n0)
  refine ot T4 (mkF m 21 #[vR ra0, vR ra6] [(.int (3 : Int32)), (.int (1 : Int32))]) st4 ?_
  refine og T4 (mkF m 44 #[vR ra0, vR ra6] [(.int (0 : Int32))]) (fun _ k => XS.icmpYes X4.here hx rfl (pc0 := 21) (pc' := 43) rfl (hb hby d11_21) rfl (feq (by decide : ¬ ((1 : Int32) = (3 : Int32)))).2 (by decide) (by decide) (XS.iconst X4.here hx rfl (hb hby d11_43) k)) ?_
  exact own_leaveN X4 hlk (v := some (.int (nar .boolean (0 : Int32)))) (fun h => by rw [hret] at h; cases h) (lb rfl) (lb rfl) (by rw [eq4]; exact ⟨(by show some (Value.int (0 : Int32)) = _; first | rfl | (simp [own_ica]; done)), N4, rfl⟩) (fun fs hr => retN X4 hx (t := .boolean) hret (by simp) (hb hby d11_44) hr)
abbrev R10_41 : Room := { frames := 5, cells := 0, slots := 0, locals := 100 }
def Q10_41 (Z : State) (ra0 : Addr) (ra1 : Addr) (ra2 : Addr) (rt2 : Addr) (ra3 : Addr) (rt3 : Addr) (kc2 : ClassId) (kc3 : ClassId) (ca0 : Int32) (ca1 : Int32) (ca2 : Int32) (cb0 : Int32) (kw0 : Addr) (G1 : Int32) (kw5 : Addr) (h0 : Heap) (n0 : Nat) (v : Option Value) (h : Heap) (L : List Loc) : Prop := (v = some (.int (own_isv ra1 kw0 kw5 (own_ica [ca0, ca1, ca2] [cb0]))) ∧ Fr n0 L ∧ h = h0)
theorem rm10_41 (l : Launch) (Z : State) (a0 : Array Value) (hw : HW Z a0) (ra0 : Addr) (ra1 : Addr) (ra2 : Addr) (rt2 : Addr) (ra3 : Addr) (rt3 : Addr) (kc2 : ClassId) (kc3 : ClassId) (ca0 : Int32) (ca1 : Int32) (ca2 : Int32) (cb0 : Int32) (kw0 : Addr) (G1 : Int32) (kw5 : Addr) (h0 : Heap) (n0 : Nat) (OLD : Old Z n0 h0) (E_ra0 : Exa Z h0 ra0 "com/example/agave/agave/query/Tokens$Token") (F_kind_ra0 : Fld Z h0 ra0 "com/example/agave/agave/query/Tokens$Token" "kind" "Lcom/example/agave/agave/query/Tokens$Kind;" (.ref ra1)) (F_text_ra0 : Fld Z h0 ra0 "com/example/agave/agave/query/Tokens$Token" "text" "Ljava/lang/String;" (.ref ra2)) (E_ra2 : Exa Z h0 ra2 "java/lang/String") (F_coder_ra2 : Fld Z h0 ra2 "java/lang/String" "coder" "B" (.int (0 : Int32))) (F_value_ra2 : Fld Z h0 ra2 "java/lang/String" "value" "[B" (.ref rt2)) (V_rt2 : Arv Z h0 rt2 kc2 .byte (3 : Int32) [(.int (ca0.toInt8.toInt32)), (.int (ca1.toInt8.toInt32)), (.int (ca2.toInt8.toInt32))] (.int (0 : Int32))) (E_ra3 : Exa Z h0 ra3 "java/lang/String") (F_coder_ra3 : Fld Z h0 ra3 "java/lang/String" "coder" "B" (.int (0 : Int32))) (F_value_ra3 : Fld Z h0 ra3 "java/lang/String" "value" "[B" (.ref rt3)) (V_rt3 : Arv Z h0 rt3 kc3 .byte (1 : Int32) [(.int (cb0.toInt8.toInt32))] (.int (0 : Int32))) (hl_ca0 : ¬ ca0 < 0 ∧ ¬ (255 : Int32) < ca0) (hl_ca1 : ¬ ca1 < 0 ∧ ¬ (255 : Int32) < ca1) (hl_ca2 : ¬ ca2 < 0 ∧ ¬ (255 : Int32) < ca2) (hl_cb0 : ¬ cb0 < 0 ∧ ¬ (255 : Int32) < cb0) (hk15 : ¬ (ra2 = ra3)) (SK0 : Sta Z Z.heap "com/example/agave/agave/query/Tokens$Kind" "WORD" "Lcom/example/agave/agave/query/Tokens$Kind;" (.ref kw0)) (EK0 : Exa Z Z.heap kw0 "com/example/agave/agave/query/Tokens$Kind") (O2 : Sta Z Z.heap "java/lang/String" "COMPACT_STRINGS" "Z" (.int G1)) (P5 : ¬ (G1 = (0 : Int32))) (SK5 : Sta Z Z.heap "com/example/agave/agave/query/Tokens$Kind" "SYMBOL" "Lcom/example/agave/agave/query/Tokens$Kind;" (.ref kw5)) (EK5 : Exa Z Z.heap kw5 "com/example/agave/agave/query/Tokens$Kind") :
    own_CN l Z y7 prog_6_method_6_code 2 (some .boolean) [] R10_41 #[(.ref ra0), (.ref ra3)] h0 (Q10_41 Z ra0 ra1 ra2 rt2 ra3 rt3 kc2 kc3 ca0 ca1 ca2 cb0 kw0 G1 kw5 h0 n0) := by
  refine own_entryN (plainFor_of_name pn_2) fun p e s m below meth c s₁ hx hby hml hown hnm hret hlk hZ hh X0 e0 => ?_
  have N0 := Fr.nil n0
  rw [ef_10_41 m ra0 ra3]
  refine og s₁ (mkF m 1 #[vR ra0, vR ra3] [(.ref ra0)]) (fun _ k => XS.aloadN X0.here hx rfl (hb hby d10_0) rfl rfl k) ?_
  obtain ⟨T1, X1, e1, st1⟩ := getF X0 hx hZ hown (host := "") (Or.inl (own_w hw 51)) Via.refl e0 F_kind_ra0 (g := (mkF m 1 #[vR ra0, vR ra3] [(.ref ra0)])) rfl rfl (hb hby d10_1)
  refine og T1 (mkF m 4 #[vR ra0, vR ra3] [(.ref ra1)]) st1 ?_
  obtain ⟨T2, X2, e2, st2⟩ := getS2 X1 hx hZ hown (host := "") (Or.inl (own_w hw 64)) Via.refl e1 (SK0.ext OLD.2) (g := (mkF m 4 #[vR ra0, vR ra3] [(.ref ra1)])) rfl (hb hby d10_4)
  refine og T2 (mkF m 7 #[vR ra0, vR ra3] [(.ref kw0), (.ref ra1)]) st2 ?_
  by_cases hc3 : ra1 = kw0
  · refine og T2 (mkF m 21 #[vR ra0, vR ra3] [(.ref ra0)]) (fun _ k => Jvm.RoadKit.acmp (g := (mkF m 7 #[vR ra0, vR ra3] [(.ref kw0), (.ref ra1)])) X2 hx rfl rfl rfl (pc0 := 7) (pc' := 20) (same := true) rfl (hb hby d10_7) rfl (decide_eq_true (congrArg Value.ref hc3)) (by decide) (by decide) (XS.aloadN X2.here hx rfl (hb hby d10_20) rfl rfl k)) ?_
    obtain ⟨T4, X4, e4, st4⟩ := getF X2 hx hZ hown (host := "") (Or.inl (own_w hw 53)) Via.refl e2 F_text_ra0 (g := (mkF m 21 #[vR ra0, vR ra3] [(.ref ra0)])) rfl rfl (hb hby d10_21)
    refine og T4 (mkF m 24 #[vR ra0, vR ra3] [(.ref ra2)]) st4 ?_
    refine og T4 (mkF m 25 #[vR ra0, vR ra3] [(.ref ra3), (.ref ra2)]) (fun _ k => XS.aloadN X4.here hx rfl (hb hby d10_24) rfl rfl k) ?_
    obtain ⟨cq5, kq5, q5a, q5b, q5c⟩ := isOf hZ e4 E_ra2
    obtain ⟨_, _, ⟨T5, L5, k5, n5⟩, -, X5, ⟨Lc5, hQ5, l5, y5, z5⟩, st5⟩ := X4.virtualBack hx (y := y6) (z := y6) hown (mvT hZ (own_w hw 65)) (mvT hZ (own_w hw 66)) (notFace_of_selects (args := #[]) (mvT hZ (own_w hw 68))) (mvT hZ (own_w hw 68)) (mvT hZ (own_w hw 67)) (by decide) (backOf (W := 0) (rm11_42 l Z a0 hw ra2 rt2 kc2 ca0 ca1 ca2 ra3 rt3 kc3 cb0 G1 h0 n0 OLD E_ra2 F_coder_ra2 F_value_ra2 hl_ca0 hl_ca1 hl_ca2 V_rt2 E_ra3 F_coder_ra3 F_value_ra3 hl_cb0 V_rt3 hk15 O2 P5) hZ (own_w hw 69) (own_w hw 14) (lb rfl) (lb rfl)) q5a q5c (g := (mkF m 25 #[vR ra0, vR ra3] [(.ref ra3), (.ref ra2)])) rfl (by rw [hml]; rfl) (Steps.refl _) (argsL := [(.ref ra3)]) (rest := []) (lenOf pd_5 rfl) rfl (lb rfl) (hb hby d10_25) (fun _ _ => ⟨rfl, e4, (lb rfl), (lb rfl)⟩)
    dsimp only [Pt.U, Pt.locs, Pt.cells, Pt.slots] at X5 l5 y5 z5 st5 hQ5
    subst l5 y5 z5
    obtain ⟨rfl, Nq5, eq5⟩ := hQ5
    have N5 := Fr.app N0 Nq5
    refine ot T5 (mkF m 28 #[vR ra0, vR ra3] [(.int (own_ica [ca0, ca1, ca2] [cb0]))]) st5 ?_
    by_cases hc6 : (own_ica [ca0, ca1, ca2] [cb0]) = (0 : Int32)
    · refine og T5 (mkF m 36 #[vR ra0, vR ra3] [(.int (0 : Int32))]) (fun _ k => XS.ifYes X5.here hx rfl (pc0 := 28) (pc' := 35) rfl (hb hby d10_28) rfl ((if0 _ _).trans (teq hc6).1) (by decide) (by decide) (XS.iconst X5.here hx rfl (hb hby d10_35) k)) ?_
      exact own_leaveN X5 hlk (v := some (.int (nar .boolean (0 : Int32)))) (fun h => by rw [hret] at h; cases h) (lb rfl) (lb rfl) (by rw [eq5]; exact ⟨(by show some (Value.int (0 : Int32)) = _; exact congrArg (fun z => some (Value.int z)) (Eq.symm (Eq.trans (if_pos hc3) (hc6)))), N5, rfl⟩) (fun fs hr => retN X5 hx (t := .boolean) hret (by simp) (hb hby d10_36) hr)
    · refine og T5 (mkF m 36 #[vR ra0, vR ra3] [(.int (1 : Int32))]) (fun _ k => XS.ifNo X5.here hx rfl (hb hby d10_28) rfl ((if0 _ _).trans (feq hc6).1) (XS.iconst X5.here hx rfl (hb hby d10_31) (XS.goto X5.here hx rfl (pc0 := 32) (pc' := 36) rfl (hb hby d10_32) (by decide) (by decide) k))) ?_
      exact own_leaveN X5 hlk (v := some (.int (nar .boolean (1 : Int32)))) (fun h => by rw [hret] at h; cases h) (lb rfl) (lb rfl) (by rw [eq5]; exact ⟨(by show some (Value.int (1 : Int32)) = _; exact congrArg (fun z => some (Value.int z)) (Eq.symm (Eq.trans (if_pos hc3) ((own_ica01 _ _).resolve_left hc6)))), N5, rfl⟩) (fun fs hr => retN X5 hx (t := .boolean) hret (by simp) (hb hby d10_36) hr)
  · refine og T2 (mkF m 11 #[vR ra0, vR ra3] [(.ref ra0)]) (fun _ k => Jvm.RoadKit.acmp (g := (mkF m 7 #[vR ra0, vR ra3] [(.ref kw0), (.ref ra1)])) X2 hx rfl rfl rfl (pc0 := 7) (pc' := 10) (same := false) rfl (hb hby d10_7) rfl (decide_eq_false fun q => hc3 (Value.ref.inj q)) (by decide) (by decide) (XS.aloadN X2.here hx rfl (hb hby d10_10) rfl rfl k)) ?_
    obtain ⟨T7, X7, e7, st7⟩ := getF X2 hx hZ hown (host := "") (Or.inl (own_w hw 51)) Via.refl e2 F_kind_ra0 (g := (mkF m 11 #[vR ra0, vR ra3] [(.ref ra0)])) rfl rfl (hb hby d10_11)
    refine og T7 (mkF m 14 #[vR ra0, vR ra3] [(.ref ra1)]) st7 ?_
    obtain ⟨T8, X8, e8, st8⟩ := getS2 X7 hx hZ hown (host := "") (Or.inl (own_w hw 82)) Via.refl e7 (SK5.ext OLD.2) (g := (mkF m 14 #[vR ra0, vR ra3] [(.ref ra1)])) rfl (hb hby d10_14)
    refine og T8 (mkF m 17 #[vR ra0, vR ra3] [(.ref kw5), (.ref ra1)]) st8 ?_
    by_cases hc9 : ra1 = kw5
    · refine og T8 (mkF m 21 #[vR ra0, vR ra3] [(.ref ra0)]) (fun _ k => Jvm.RoadKit.acmp (g := (mkF m 17 #[vR ra0, vR ra3] [(.ref kw5), (.ref ra1)])) X8 hx rfl rfl rfl (pc0 := 17) (pc' := 20) (same := true) rfl (hb hby d10_17) rfl (decide_eq_true (congrArg Value.ref hc9)) (by decide) (by decide) (XS.aloadN X8.here hx rfl (hb hby d10_20) rfl rfl k)) ?_
      obtain ⟨T10, X10, e10, st10⟩ := getF X8 hx hZ hown (host := "") (Or.inl (own_w hw 53)) Via.refl e8 F_text_ra0 (g := (mkF m 21 #[vR ra0, vR ra3] [(.ref ra0)])) rfl rfl (hb hby d10_21)
      refine og T10 (mkF m 24 #[vR ra0, vR ra3] [(.ref ra2)]) st10 ?_
      refine og T10 (mkF m 25 #[vR ra0, vR ra3] [(.ref ra3), (.ref ra2)]) (fun _ k => XS.aloadN X10.here hx rfl (hb hby d10_24) rfl rfl k) ?_
      obtain ⟨cq11, kq11, q11a, q11b, q11c⟩ := isOf hZ e10 E_ra2
      obtain ⟨_, _, ⟨T11, L11, k11, n11⟩, -, X11, ⟨Lc11, hQ11, l11, y11, z11⟩, st11⟩ := X10.virtualBack hx (y := y6) (z := y6) hown (mvT hZ (own_w hw 65)) (mvT hZ (own_w hw 66)) (notFace_of_selects (args := #[]) (mvT hZ (own_w hw 68))) (mvT hZ (own_w hw 68)) (mvT hZ (own_w hw 67)) (by decide) (backOf (W := 0) (rm11_42 l Z a0 hw ra2 rt2 kc2 ca0 ca1 ca2 ra3 rt3 kc3 cb0 G1 h0 n0 OLD E_ra2 F_coder_ra2 F_value_ra2 hl_ca0 hl_ca1 hl_ca2 V_rt2 E_ra3 F_coder_ra3 F_value_ra3 hl_cb0 V_rt3 hk15 O2 P5) hZ (own_w hw 69) (own_w hw 14) (lb rfl) (lb rfl)) q11a q11c (g := (mkF m 25 #[vR ra0, vR ra3] [(.ref ra3), (.ref ra2)])) rfl (by rw [hml]; rfl) (Steps.refl _) (argsL := [(.ref ra3)]) (rest := []) (lenOf pd_5 rfl) rfl (lb rfl) (hb hby d10_25) (fun _ _ => ⟨rfl, e10, (lb rfl), (lb rfl)⟩)
      dsimp only [Pt.U, Pt.locs, Pt.cells, Pt.slots] at X11 l11 y11 z11 st11 hQ11
      subst l11 y11 z11
      obtain ⟨rfl, Nq11, eq11⟩ := hQ11
      have N11 := Fr.app N0 Nq11
      refine ot T11 (mkF m 28 #[vR ra0, vR ra3] [(.int (own_ica [ca0, ca1, ca2] [cb0]))]) st11 ?_
      by_cases hc12 : (own_ica [ca0, ca1, ca2] [cb0]) = (0 : Int32)
      · refine og T11 (mkF m 36 #[vR ra0, vR ra3] [(.int (0 : Int32))]) (fun _ k => XS.ifYes X11.here hx rfl (pc0 := 28) (pc' := 35) rfl (hb hby d10_28) rfl ((if0 _ _).trans (teq hc12).1) (by decide) (by decide) (XS.iconst X11.here hx rfl (hb hby d10_35) k)) ?_
        exact own_leaveN X11 hlk (v := some (.int (nar .boolean (0 : Int32)))) (fun h => by rw [hret] at h; cases h) (lb rfl) (lb rfl) (by rw [eq11]; exact ⟨(by show some (Value.int (0 : Int32)) = _; exact congrArg (fun z => some (Value.int z)) (Eq.symm (Eq.trans ((if_neg hc3).trans (if_pos hc9)) (hc12)))), N11, rfl⟩) (fun fs hr => retN X11 hx (t := .boolean) hret (by simp) (hb hby d10_36) hr)
      · refine og T11 (mkF m 36 #[vR ra0, vR ra3] [(.int (1 : Int32))]) (fun _ k => XS.ifNo X11.here hx rfl (hb hby d10_28) rfl ((if0 _ _).trans (feq hc12).1) (XS.iconst X11.here hx rfl (hb hby d10_31) (XS.goto X11.here hx rfl (pc0 := 32) (pc' := 36) rfl (hb hby d10_32) (by decide) (by decide) k))) ?_
        exact own_leaveN X11 hlk (v := some (.int (nar .boolean (1 : Int32)))) (fun h => by rw [hret] at h; cases h) (lb rfl) (lb rfl) (by rw [eq11]; exact ⟨(by show some (Value.int (1 : Int32)) = _; exact congrArg (fun z => some (Value.int z)) (Eq.symm (Eq.trans ((if_neg hc3).trans (if_pos hc9)) ((own_ica01 _ _).resolve_left hc12)))), N11, rfl⟩) (fun fs hr => retN X11 hx (t := .boolean) hret (by simp) (hb hby d10_36) hr)
    · refine og T8 (mkF m 36 #[vR ra0, vR ra3] [(.int (0 : Int32))]) (fun _ k => Jvm.RoadKit.acmp (g := (mkF m 17 #[vR ra0, vR ra3] [(.ref kw5), (.ref ra1)])) X8 hx rfl rfl rfl (pc0 := 17) (pc' := 35) (same := false) rfl (hb hby d10_17) rfl (decide_eq_false fun q => hc9 (Value.ref.inj q)) (by decide) (by decide) (XS.iconst X8.here hx rfl (hb hby d10_35) k)) ?_
      exact own_leaveN X8 hlk (v := some (.int (nar .boolean (0 : Int32)))) (fun h => by rw [hret] at h; cases h) (lb rfl) (lb rfl) (by rw [e8]; exact ⟨(by show some (Value.int (0 : Int32)) = _; exact congrArg (fun z => some (Value.int z)) (Eq.symm ((if_neg hc3).trans (if_neg hc9)))), N0, rfl⟩) (fun fs hr => retN X8 hx (t := .boolean) hret (by simp) (hb hby d10_36) hr)
abbrev R11_44 : Room := { frames := 2, cells := 0, slots := 0, locals := 26 }
def Q11_44 (Z : State) (ra0 : Addr) (ra1 : Addr) (kc2 : ClassId) (ci3 : Int32) (ci4 : Int32) (ci5 : Int32) (ra6 : Addr) (ra7 : Addr) (kc8 : ClassId) (ci9 : Int32) (ci10 : Int32) (G1 : Int32) (h0 : Heap) (n0 : Nat) (v : Option Value) (h : Heap) (L : List Loc) : Prop := (v = some (.int (own_ica [ci3, ci4, ci5] [ci9, ci10])) ∧ Fr n0 L ∧ h = h0)
theorem rm11_44 (l : Launch) (Z : State) (a0 : Array Value) (hw : HW Z a0) (ra0 : Addr) (ra1 : Addr) (kc2 : ClassId) (ci3 : Int32) (ci4 : Int32) (ci5 : Int32) (ra6 : Addr) (ra7 : Addr) (kc8 : ClassId) (ci9 : Int32) (ci10 : Int32) (G1 : Int32) (h0 : Heap) (n0 : Nat) (OLD : Old Z n0 h0) (E_ra0 : Exa Z h0 ra0 "java/lang/String") (F_coder_ra0 : Fld Z h0 ra0 "java/lang/String" "coder" "B" (.int (0 : Int32))) (F_value_ra0 : Fld Z h0 ra0 "java/lang/String" "value" "[B" (.ref ra1)) (hl_ci3 : ¬ ci3 < 0 ∧ ¬ (255 : Int32) < ci3) (hl_ci4 : ¬ ci4 < 0 ∧ ¬ (255 : Int32) < ci4) (hl_ci5 : ¬ ci5 < 0 ∧ ¬ (255 : Int32) < ci5) (V_ra1 : Arv Z h0 ra1 kc2 .byte (3 : Int32) [(.int (ci3.toInt8.toInt32)), (.int (ci4.toInt8.toInt32)), (.int (ci5.toInt8.toInt32))] (.int (0 : Int32))) (E_ra6 : Exa Z h0 ra6 "java/lang/String") (F_coder_ra6 : Fld Z h0 ra6 "java/lang/String" "coder" "B" (.int (0 : Int32))) (F_value_ra6 : Fld Z h0 ra6 "java/lang/String" "value" "[B" (.ref ra7)) (hl_ci9 : ¬ ci9 < 0 ∧ ¬ (255 : Int32) < ci9) (hl_ci10 : ¬ ci10 < 0 ∧ ¬ (255 : Int32) < ci10) (V_ra7 : Arv Z h0 ra7 kc8 .byte (2 : Int32) [(.int (ci9.toInt8.toInt32)), (.int (ci10.toInt8.toInt32))] (.int (0 : Int32))) (hk13 : ¬ (ra0 = ra6)) (O2 : Sta Z Z.heap "java/lang/String" "COMPACT_STRINGS" "Z" (.int G1)) (P5 : ¬ (G1 = (0 : Int32))) :
    own_CN l Z y6 jdk_42_method_70_code 2 (some .boolean) [] R11_44 #[(.ref ra0), (.ref ra6)] h0 (Q11_44 Z ra0 ra1 kc2 ci3 ci4 ci5 ra6 ra7 kc8 ci9 ci10 G1 h0 n0) := by
  refine own_entryN (plainFor_of_name pn_0) fun p e s m below meth c s₁ hx hby hml hown hnm hret hlk hZ hh X0 e0 => ?_
  have N0 := Fr.nil n0
  rw [ef_11_44 m ra0 ra6]
  refine og s₁ (mkF m 14 #[vR ra0, vR ra6] [(.ref ra6)]) (fun _ k => XS.aloadN X0.here hx rfl (hb hby d11_0) rfl rfl (XS.aloadN X0.here hx rfl (hb hby d11_1) rfl rfl (Jvm.RoadKit.acmp (g := (mkF m 2 #[vR ra0, vR ra6] [(.ref ra6), (.ref ra0)])) X0 hx rfl rfl rfl (pc0 := 2) (pc' := 9) (same := false) rfl (hb hby d11_2) rfl (decide_eq_false fun q => hk13 (Value.ref.inj q)) (by decide) (by decide) (XS.aloadN X0.here hx rfl (hb hby d11_9) rfl rfl (XS.ifnullNo X0.here hx rfl (hb hby d11_10) rfl (XS.aloadN X0.here hx rfl (hb hby d11_13) rfl rfl k)))))) ?_
  have hp1 : ∀ c ∈ ([ci9, ci10] : List Int32), ¬ c < 0 ∧ ¬ (255 : Int32) < c := by
    intro c hc
    simp only [List.mem_cons, List.not_mem_nil, or_false] at hc
    rcases hc with rfl | rfl
    · exact hl_ci9
    · exact hl_ci10
  obtain ⟨cq2, kq2, q2a, q2b, q2c⟩ := isOf hZ e0 E_ra6
  obtain ⟨_, _, ⟨T2, L2, k2, n2⟩, -, X2, ⟨Lc2, hQ2, l2, y2, z2⟩, st2⟩ := X0.virtualBack hx (y := y2) (z := y2) hown (mvT hZ (own_w hw 70)) (mvT hZ (own_w hw 71)) (notFace_of_selects (args := #[]) (mvT hZ (own_w hw 73))) (mvT hZ (own_w hw 73)) (mvT hZ (own_w hw 72)) (by decide) (StrChars.Road.lenW (W := 0) hZ (own_hln hw) (kI := 4) (own_w hw 13) (cs := ([ci9, ci10] : List Int32)) E_ra6 F_value_ra6 F_coder_ra6 V_ra7 (StrChars.Road.codOf rfl (fun c hc => (hp1 c hc).2)) (own_up _ hp1) (O2.ext OLD.2) P5 (lb rfl) (lb rfl) (lb rfl)) q2a q2c (g := (mkF m 14 #[vR ra0, vR ra6] [(.ref ra6)])) rfl (by rw [hml]; rfl) (Steps.refl _) (argsL := []) (rest := []) (lenOf pd_1 rfl) rfl (lb rfl) (hb hby d11_14) (fun _ _ => ⟨rfl, e0, (lb rfl), (lb rfl)⟩)
  dsimp only [Pt.U, Pt.locs, Pt.cells, Pt.slots] at X2 l2 y2 z2 st2 hQ2
  subst l2 y2 z2
  obtain ⟨rfl, rfl, eq2⟩ := hQ2
  have N2 := Fr.app N0 (Fr.nil n0)
  refine ot T2 (mkF m 17 #[vR ra0, vR ra6] [(.int (2 : Int32))]) st2 ?_
  refine og T2 (mkF m 18 #[vR ra0, vR ra6] [(.ref ra0), (.int (2 : Int32))]) (fun _ k => XS.aloadN X2.here hx rfl (hb hby d11_17) rfl rfl k) ?_
  have hp3 : ∀ c ∈ ([ci3, ci4, ci5] : List Int32), ¬ c < 0 ∧ ¬ (255 : Int32) < c := by
    intro c hc
    simp only [List.mem_cons, List.not_mem_nil, or_false] at hc
    rcases hc with rfl | rfl | rfl
    · exact hl_ci3
    · exact hl_ci4
    · exact hl_ci5
  obtain ⟨cq4, kq4, q4a, q4b, q4c⟩ := isOf hZ eq2 E_ra0
  obtain ⟨_, _, ⟨T4, L4, k4, n4⟩, -, X4, ⟨Lc4, hQ4, l4, y4, z4⟩, st4⟩ := X2.virtualBack hx (y := y2) (z := y2) hown (mvT hZ (own_w hw 70)) (mvT hZ (own_w hw 71)) (notFace_of_selects (args := #[]) (mvT hZ (own_w hw 73))) (mvT hZ (own_w hw 73)) (mvT hZ (own_w hw 72)) (by decide) (StrChars.Road.lenW (W := 1) hZ (own_hln hw) (kI := 4) (own_w hw 13) (cs := ([ci3, ci4, ci5] : List Int32)) E_ra0 F_value_ra0 F_coder_ra0 V_ra1 (StrChars.Road.codOf rfl (fun c hc => (hp3 c hc).2)) (own_up _ hp3) (O2.ext OLD.2) P5 (lb rfl) (lb rfl) (lb rfl)) q4a q4c (g := (mkF m 18 #[vR ra0, vR ra6] [(.ref ra0), (.int (2 : Int32))])) rfl (by rw [hml]; rfl) (Steps.refl _) (argsL := []) (rest := [(.int (2 : Int32))]) (lenOf pd_1 rfl) rfl (lb rfl) (hb hby d11_18) (fun _ _ => ⟨rfl, eq2, (lb rfl), (lb rfl)⟩)
  dsimp only [Pt.U, Pt.locs, Pt.cells, Pt.slots] at X4 l4 y4 z4 st4 hQ4
  subst l4 y4 z4
  obtain ⟨rfl, rfl, eq4⟩ := hQ4
  have N4 := Fr.app N2 (Fr.nil n0)
  refine ot T4 (mkF m 21 #[vR ra0, vR ra6] [(.int (3 : Int32)), (.int (2 : Int32))]) st4 ?_
  refine og T4 (mkF m 44 #[vR ra0, vR ra6] [(.int (0 : Int32))]) (fun _ k => XS.icmpYes X4.here hx rfl (pc0 := 21) (pc' := 43) rfl (hb hby d11_21) rfl (feq (by decide : ¬ ((2 : Int32) = (3 : Int32)))).2 (by decide) (by decide) (XS.iconst X4.here hx rfl (hb hby d11_43) k)) ?_
  exact own_leaveN X4 hlk (v := some (.int (nar .boolean (0 : Int32)))) (fun h => by rw [hret] at h; cases h) (lb rfl) (lb rfl) (by rw [eq4]; exact ⟨(by show some (Value.int (0 : Int32)) = _; first | rfl | (simp [own_ica]; done)), N4, rfl⟩) (fun fs hr => retN X4 hx (t := .boolean) hret (by simp) (hb hby d11_44) hr)
abbrev R10_43 : Room := { frames := 5, cells := 0, slots := 0, locals := 100 }
def Q10_43 (Z : State) (ra0 : Addr) (ra1 : Addr) (ra2 : Addr) (rt2 : Addr) (ra3 : Addr) (rt3 : Addr) (kc2 : ClassId) (kc3 : ClassId) (ca0 : Int32) (ca1 : Int32) (ca2 : Int32) (cb0 : Int32) (cb1 : Int32) (kw0 : Addr) (G1 : Int32) (kw5 : Addr) (h0 : Heap) (n0 : Nat) (v : Option Value) (h : Heap) (L : List Loc) : Prop := (v = some (.int (own_isv ra1 kw0 kw5 (own_ica [ca0, ca1, ca2] [cb0, cb1]))) ∧ Fr n0 L ∧ h = h0)
theorem rm10_43 (l : Launch) (Z : State) (a0 : Array Value) (hw : HW Z a0) (ra0 : Addr) (ra1 : Addr) (ra2 : Addr) (rt2 : Addr) (ra3 : Addr) (rt3 : Addr) (kc2 : ClassId) (kc3 : ClassId) (ca0 : Int32) (ca1 : Int32) (ca2 : Int32) (cb0 : Int32) (cb1 : Int32) (kw0 : Addr) (G1 : Int32) (kw5 : Addr) (h0 : Heap) (n0 : Nat) (OLD : Old Z n0 h0) (E_ra0 : Exa Z h0 ra0 "com/example/agave/agave/query/Tokens$Token") (F_kind_ra0 : Fld Z h0 ra0 "com/example/agave/agave/query/Tokens$Token" "kind" "Lcom/example/agave/agave/query/Tokens$Kind;" (.ref ra1)) (F_text_ra0 : Fld Z h0 ra0 "com/example/agave/agave/query/Tokens$Token" "text" "Ljava/lang/String;" (.ref ra2)) (E_ra2 : Exa Z h0 ra2 "java/lang/String") (F_coder_ra2 : Fld Z h0 ra2 "java/lang/String" "coder" "B" (.int (0 : Int32))) (F_value_ra2 : Fld Z h0 ra2 "java/lang/String" "value" "[B" (.ref rt2)) (V_rt2 : Arv Z h0 rt2 kc2 .byte (3 : Int32) [(.int (ca0.toInt8.toInt32)), (.int (ca1.toInt8.toInt32)), (.int (ca2.toInt8.toInt32))] (.int (0 : Int32))) (E_ra3 : Exa Z h0 ra3 "java/lang/String") (F_coder_ra3 : Fld Z h0 ra3 "java/lang/String" "coder" "B" (.int (0 : Int32))) (F_value_ra3 : Fld Z h0 ra3 "java/lang/String" "value" "[B" (.ref rt3)) (V_rt3 : Arv Z h0 rt3 kc3 .byte (2 : Int32) [(.int (cb0.toInt8.toInt32)), (.int (cb1.toInt8.toInt32))] (.int (0 : Int32))) (hl_ca0 : ¬ ca0 < 0 ∧ ¬ (255 : Int32) < ca0) (hl_ca1 : ¬ ca1 < 0 ∧ ¬ (255 : Int32) < ca1) (hl_ca2 : ¬ ca2 < 0 ∧ ¬ (255 : Int32) < ca2) (hl_cb0 : ¬ cb0 < 0 ∧ ¬ (255 : Int32) < cb0) (hl_cb1 : ¬ cb1 < 0 ∧ ¬ (255 : Int32) < cb1) (hk16 : ¬ (ra2 = ra3)) (SK0 : Sta Z Z.heap "com/example/agave/agave/query/Tokens$Kind" "WORD" "Lcom/example/agave/agave/query/Tokens$Kind;" (.ref kw0)) (EK0 : Exa Z Z.heap kw0 "com/example/agave/agave/query/Tokens$Kind") (O2 : Sta Z Z.heap "java/lang/String" "COMPACT_STRINGS" "Z" (.int G1)) (P5 : ¬ (G1 = (0 : Int32))) (SK5 : Sta Z Z.heap "com/example/agave/agave/query/Tokens$Kind" "SYMBOL" "Lcom/example/agave/agave/query/Tokens$Kind;" (.ref kw5)) (EK5 : Exa Z Z.heap kw5 "com/example/agave/agave/query/Tokens$Kind") :
    own_CN l Z y7 prog_6_method_6_code 2 (some .boolean) [] R10_43 #[(.ref ra0), (.ref ra3)] h0 (Q10_43 Z ra0 ra1 ra2 rt2 ra3 rt3 kc2 kc3 ca0 ca1 ca2 cb0 cb1 kw0 G1 kw5 h0 n0) := by
  refine own_entryN (plainFor_of_name pn_2) fun p e s m below meth c s₁ hx hby hml hown hnm hret hlk hZ hh X0 e0 => ?_
  have N0 := Fr.nil n0
  rw [ef_10_43 m ra0 ra3]
  refine og s₁ (mkF m 1 #[vR ra0, vR ra3] [(.ref ra0)]) (fun _ k => XS.aloadN X0.here hx rfl (hb hby d10_0) rfl rfl k) ?_
  obtain ⟨T1, X1, e1, st1⟩ := getF X0 hx hZ hown (host := "") (Or.inl (own_w hw 51)) Via.refl e0 F_kind_ra0 (g := (mkF m 1 #[vR ra0, vR ra3] [(.ref ra0)])) rfl rfl (hb hby d10_1)
  refine og T1 (mkF m 4 #[vR ra0, vR ra3] [(.ref ra1)]) st1 ?_
  obtain ⟨T2, X2, e2, st2⟩ := getS2 X1 hx hZ hown (host := "") (Or.inl (own_w hw 64)) Via.refl e1 (SK0.ext OLD.2) (g := (mkF m 4 #[vR ra0, vR ra3] [(.ref ra1)])) rfl (hb hby d10_4)
  refine og T2 (mkF m 7 #[vR ra0, vR ra3] [(.ref kw0), (.ref ra1)]) st2 ?_
  by_cases hc3 : ra1 = kw0
  · refine og T2 (mkF m 21 #[vR ra0, vR ra3] [(.ref ra0)]) (fun _ k => Jvm.RoadKit.acmp (g := (mkF m 7 #[vR ra0, vR ra3] [(.ref kw0), (.ref ra1)])) X2 hx rfl rfl rfl (pc0 := 7) (pc' := 20) (same := true) rfl (hb hby d10_7) rfl (decide_eq_true (congrArg Value.ref hc3)) (by decide) (by decide) (XS.aloadN X2.here hx rfl (hb hby d10_20) rfl rfl k)) ?_
    obtain ⟨T4, X4, e4, st4⟩ := getF X2 hx hZ hown (host := "") (Or.inl (own_w hw 53)) Via.refl e2 F_text_ra0 (g := (mkF m 21 #[vR ra0, vR ra3] [(.ref ra0)])) rfl rfl (hb hby d10_21)
    refine og T4 (mkF m 24 #[vR ra0, vR ra3] [(.ref ra2)]) st4 ?_
    refine og T4 (mkF m 25 #[vR ra0, vR ra3] [(.ref ra3), (.ref ra2)]) (fun _ k => XS.aloadN X4.here hx rfl (hb hby d10_24) rfl rfl k) ?_
    obtain ⟨cq5, kq5, q5a, q5b, q5c⟩ := isOf hZ e4 E_ra2
    obtain ⟨_, _, ⟨T5, L5, k5, n5⟩, -, X5, ⟨Lc5, hQ5, l5, y5, z5⟩, st5⟩ := X4.virtualBack hx (y := y6) (z := y6) hown (mvT hZ (own_w hw 65)) (mvT hZ (own_w hw 66)) (notFace_of_selects (args := #[]) (mvT hZ (own_w hw 68))) (mvT hZ (own_w hw 68)) (mvT hZ (own_w hw 67)) (by decide) (backOf (W := 0) (rm11_44 l Z a0 hw ra2 rt2 kc2 ca0 ca1 ca2 ra3 rt3 kc3 cb0 cb1 G1 h0 n0 OLD E_ra2 F_coder_ra2 F_value_ra2 hl_ca0 hl_ca1 hl_ca2 V_rt2 E_ra3 F_coder_ra3 F_value_ra3 hl_cb0 hl_cb1 V_rt3 hk16 O2 P5) hZ (own_w hw 69) (own_w hw 14) (lb rfl) (lb rfl)) q5a q5c (g := (mkF m 25 #[vR ra0, vR ra3] [(.ref ra3), (.ref ra2)])) rfl (by rw [hml]; rfl) (Steps.refl _) (argsL := [(.ref ra3)]) (rest := []) (lenOf pd_5 rfl) rfl (lb rfl) (hb hby d10_25) (fun _ _ => ⟨rfl, e4, (lb rfl), (lb rfl)⟩)
    dsimp only [Pt.U, Pt.locs, Pt.cells, Pt.slots] at X5 l5 y5 z5 st5 hQ5
    subst l5 y5 z5
    obtain ⟨rfl, Nq5, eq5⟩ := hQ5
    have N5 := Fr.app N0 Nq5
    refine ot T5 (mkF m 28 #[vR ra0, vR ra3] [(.int (own_ica [ca0, ca1, ca2] [cb0, cb1]))]) st5 ?_
    by_cases hc6 : (own_ica [ca0, ca1, ca2] [cb0, cb1]) = (0 : Int32)
    · refine og T5 (mkF m 36 #[vR ra0, vR ra3] [(.int (0 : Int32))]) (fun _ k => XS.ifYes X5.here hx rfl (pc0 := 28) (pc' := 35) rfl (hb hby d10_28) rfl ((if0 _ _).trans (teq hc6).1) (by decide) (by decide) (XS.iconst X5.here hx rfl (hb hby d10_35) k)) ?_
      exact own_leaveN X5 hlk (v := some (.int (nar .boolean (0 : Int32)))) (fun h => by rw [hret] at h; cases h) (lb rfl) (lb rfl) (by rw [eq5]; exact ⟨(by show some (Value.int (0 : Int32)) = _; exact congrArg (fun z => some (Value.int z)) (Eq.symm (Eq.trans (if_pos hc3) (hc6)))), N5, rfl⟩) (fun fs hr => retN X5 hx (t := .boolean) hret (by simp) (hb hby d10_36) hr)
    · refine og T5 (mkF m 36 #[vR ra0, vR ra3] [(.int (1 : Int32))]) (fun _ k => XS.ifNo X5.here hx rfl (hb hby d10_28) rfl ((if0 _ _).trans (feq hc6).1) (XS.iconst X5.here hx rfl (hb hby d10_31) (XS.goto X5.here hx rfl (pc0 := 32) (pc' := 36) rfl (hb hby d10_32) (by decide) (by decide) k))) ?_
      exact own_leaveN X5 hlk (v := some (.int (nar .boolean (1 : Int32)))) (fun h => by rw [hret] at h; cases h) (lb rfl) (lb rfl) (by rw [eq5]; exact ⟨(by show some (Value.int (1 : Int32)) = _; exact congrArg (fun z => some (Value.int z)) (Eq.symm (Eq.trans (if_pos hc3) ((own_ica01 _ _).resolve_left hc6)))), N5, rfl⟩) (fun fs hr => retN X5 hx (t := .boolean) hret (by simp) (hb hby d10_36) hr)
  · refine og T2 (mkF m 11 #[vR ra0, vR ra3] [(.ref ra0)]) (fun _ k => Jvm.RoadKit.acmp (g := (mkF m 7 #[vR ra0, vR ra3] [(.ref kw0), (.ref ra1)])) X2 hx rfl rfl rfl (pc0 := 7) (pc' := 10) (same := false) rfl (hb hby d10_7) rfl (decide_eq_false fun q => hc3 (Value.ref.inj q)) (by decide) (by decide) (XS.aloadN X2.here hx rfl (hb hby d10_10) rfl rfl k)) ?_
    obtain ⟨T7, X7, e7, st7⟩ := getF X2 hx hZ hown (host := "") (Or.inl (own_w hw 51)) Via.refl e2 F_kind_ra0 (g := (mkF m 11 #[vR ra0, vR ra3] [(.ref ra0)])) rfl rfl (hb hby d10_11)
    refine og T7 (mkF m 14 #[vR ra0, vR ra3] [(.ref ra1)]) st7 ?_
    obtain ⟨T8, X8, e8, st8⟩ := getS2 X7 hx hZ hown (host := "") (Or.inl (own_w hw 82)) Via.refl e7 (SK5.ext OLD.2) (g := (mkF m 14 #[vR ra0, vR ra3] [(.ref ra1)])) rfl (hb hby d10_14)
    refine og T8 (mkF m 17 #[vR ra0, vR ra3] [(.ref kw5), (.ref ra1)]) st8 ?_
    by_cases hc9 : ra1 = kw5
    · refine og T8 (mkF m 21 #[vR ra0, vR ra3] [(.ref ra0)]) (fun _ k => Jvm.RoadKit.acmp (g := (mkF m 17 #[vR ra0, vR ra3] [(.ref kw5), (.ref ra1)])) X8 hx rfl rfl rfl (pc0 := 17) (pc' := 20) (same := true) rfl (hb hby d10_17) rfl (decide_eq_true (congrArg Value.ref hc9)) (by decide) (by decide) (XS.aloadN X8.here hx rfl (hb hby d10_20) rfl rfl k)) ?_
      obtain ⟨T10, X10, e10, st10⟩ := getF X8 hx hZ hown (host := "") (Or.inl (own_w hw 53)) Via.refl e8 F_text_ra0 (g := (mkF m 21 #[vR ra0, vR ra3] [(.ref ra0)])) rfl rfl (hb hby d10_21)
      refine og T10 (mkF m 24 #[vR ra0, vR ra3] [(.ref ra2)]) st10 ?_
      refine og T10 (mkF m 25 #[vR ra0, vR ra3] [(.ref ra3), (.ref ra2)]) (fun _ k => XS.aloadN X10.here hx rfl (hb hby d10_24) rfl rfl k) ?_
      obtain ⟨cq11, kq11, q11a, q11b, q11c⟩ := isOf hZ e10 E_ra2
      obtain ⟨_, _, ⟨T11, L11, k11, n11⟩, -, X11, ⟨Lc11, hQ11, l11, y11, z11⟩, st11⟩ := X10.virtualBack hx (y := y6) (z := y6) hown (mvT hZ (own_w hw 65)) (mvT hZ (own_w hw 66)) (notFace_of_selects (args := #[]) (mvT hZ (own_w hw 68))) (mvT hZ (own_w hw 68)) (mvT hZ (own_w hw 67)) (by decide) (backOf (W := 0) (rm11_44 l Z a0 hw ra2 rt2 kc2 ca0 ca1 ca2 ra3 rt3 kc3 cb0 cb1 G1 h0 n0 OLD E_ra2 F_coder_ra2 F_value_ra2 hl_ca0 hl_ca1 hl_ca2 V_rt2 E_ra3 F_coder_ra3 F_value_ra3 hl_cb0 hl_cb1 V_rt3 hk16 O2 P5) hZ (own_w hw 69) (own_w hw 14) (lb rfl) (lb rfl)) q11a q11c (g := (mkF m 25 #[vR ra0, vR ra3] [(.ref ra3), (.ref ra2)])) rfl (by rw [hml]; rfl) (Steps.refl _) (argsL := [(.ref ra3)]) (rest := []) (lenOf pd_5 rfl) rfl (lb rfl) (hb hby d10_25) (fun _ _ => ⟨rfl, e10, (lb rfl), (lb rfl)⟩)
      dsimp only [Pt.U, Pt.locs, Pt.cells, Pt.slots] at X11 l11 y11 z11 st11 hQ11
      subst l11 y11 z11
      obtain ⟨rfl, Nq11, eq11⟩ := hQ11
      have N11 := Fr.app N0 Nq11
      refine ot T11 (mkF m 28 #[vR ra0, vR ra3] [(.int (own_ica [ca0, ca1, ca2] [cb0, cb1]))]) st11 ?_
      by_cases hc12 : (own_ica [ca0, ca1, ca2] [cb0, cb1]) = (0 : Int32)
      · refine og T11 (mkF m 36 #[vR ra0, vR ra3] [(.int (0 : Int32))]) (fun _ k => XS.ifYes X11.here hx rfl (pc0 := 28) (pc' := 35) rfl (hb hby d10_28) rfl ((if0 _ _).trans (teq hc12).1) (by decide) (by decide) (XS.iconst X11.here hx rfl (hb hby d10_35) k)) ?_
        exact own_leaveN X11 hlk (v := some (.int (nar .boolean (0 : Int32)))) (fun h => by rw [hret] at h; cases h) (lb rfl) (lb rfl) (by rw [eq11]; exact ⟨(by show some (Value.int (0 : Int32)) = _; exact congrArg (fun z => some (Value.int z)) (Eq.symm (Eq.trans ((if_neg hc3).trans (if_pos hc9)) (hc12)))), N11, rfl⟩) (fun fs hr => retN X11 hx (t := .boolean) hret (by simp) (hb hby d10_36) hr)
      · refine og T11 (mkF m 36 #[vR ra0, vR ra3] [(.int (1 : Int32))]) (fun _ k => XS.ifNo X11.here hx rfl (hb hby d10_28) rfl ((if0 _ _).trans (feq hc12).1) (XS.iconst X11.here hx rfl (hb hby d10_31) (XS.goto X11.here hx rfl (pc0 := 32) (pc' := 36) rfl (hb hby d10_32) (by decide) (by decide) k))) ?_
        exact own_leaveN X11 hlk (v := some (.int (nar .boolean (1 : Int32)))) (fun h => by rw [hret] at h; cases h) (lb rfl) (lb rfl) (by rw [eq11]; exact ⟨(by show some (Value.int (1 : Int32)) = _; exact congrArg (fun z => some (Value.int z)) (Eq.symm (Eq.trans ((if_neg hc3).trans (if_pos hc9)) ((own_ica01 _ _).resolve_left hc12)))), N11, rfl⟩) (fun fs hr => retN X11 hx (t := .boolean) hret (by simp) (hb hby d10_36) hr)
    · refine og T8 (mkF m 36 #[vR ra0, vR ra3] [(.int (0 : Int32))]) (fun _ k => Jvm.RoadKit.acmp (g := (mkF m 17 #[vR ra0, vR ra3] [(.ref kw5), (.ref ra1)])) X8 hx rfl rfl rfl (pc0 := 17) (pc' := 35) (same := false) rfl (hb hby d10_17) rfl (decide_eq_false fun q => hc9 (Value.ref.inj q)) (by decide) (by decide) (XS.iconst X8.here hx rfl (hb hby d10_35) k)) ?_
      exact own_leaveN X8 hlk (v := some (.int (nar .boolean (0 : Int32)))) (fun h => by rw [hret] at h; cases h) (lb rfl) (lb rfl) (by rw [e8]; exact ⟨(by show some (Value.int (0 : Int32)) = _; exact congrArg (fun z => some (Value.int z)) (Eq.symm ((if_neg hc3).trans (if_neg hc9)))), N0, rfl⟩) (fun fs hr => retN X8 hx (t := .boolean) hret (by simp) (hb hby d10_36) hr)
abbrev R13_48 : Room := { frames := 0, cells := 0, slots := 0, locals := 0 }
def Q13_48 (Z : State) (ra0 : Addr) (ra1 : Addr) (kc2 : ClassId) (ci3 : Int32) (ci4 : Int32) (ci5 : Int32) (G1 : Int32) (h0 : Heap) (n0 : Nat) (v : Option Value) (h : Heap) (L : List Loc) : Prop := (v = some (.int (0 : Int32)) ∧ Fr n0 L ∧ h = h0)
theorem rm13_48 (l : Launch) (Z : State) (a0 : Array Value) (hw : HW Z a0) (ra0 : Addr) (ra1 : Addr) (kc2 : ClassId) (ci3 : Int32) (ci4 : Int32) (ci5 : Int32) (G1 : Int32) (h0 : Heap) (n0 : Nat) (OLD : Old Z n0 h0) (E_ra0 : Exa Z h0 ra0 "java/lang/String") (F_coder_ra0 : Fld Z h0 ra0 "java/lang/String" "coder" "B" (.int (0 : Int32))) (F_value_ra0 : Fld Z h0 ra0 "java/lang/String" "value" "[B" (.ref ra1)) (hl_ci3 : ¬ ci3 < 0 ∧ ¬ (255 : Int32) < ci3) (hl_ci4 : ¬ ci4 < 0 ∧ ¬ (255 : Int32) < ci4) (hl_ci5 : ¬ ci5 < 0 ∧ ¬ (255 : Int32) < ci5) (V_ra1 : Arv Z h0 ra1 kc2 .byte (3 : Int32) [(.int (ci3.toInt8.toInt32)), (.int (ci4.toInt8.toInt32)), (.int (ci5.toInt8.toInt32))] (.int (0 : Int32))) (O2 : Sta Z Z.heap "java/lang/String" "COMPACT_STRINGS" "Z" (.int G1)) (P5 : ¬ (G1 = (0 : Int32))) :
    own_CN l Z y3 jdk_42_method_152_code 1 (some .byte) [] R13_48 #[(.ref ra0)] h0 (Q13_48 Z ra0 ra1 kc2 ci3 ci4 ci5 G1 h0 n0) := by
  refine own_entryN (plainFor_of_name pn_0) fun p e s m below meth c s₁ hx hby hml hown hnm hret hlk hZ hh X0 e0 => ?_
  have N0 := Fr.nil n0
  rw [ef_13_48 m ra0]
  obtain ⟨T1, X1, e1, st1⟩ := getS2 X0 hx hZ hown (host := "") (Or.inl (own_w hw 25)) Via.refl e0 (O2.ext OLD.2) (g := (mkF m 0 #[vR ra0] [])) rfl (hb hby d13_0)
  refine og T1 (mkF m 3 #[vR ra0] [(.int G1)]) st1 ?_
  refine og T1 (mkF m 7 #[vR ra0] [(.ref ra0)]) (fun _ k => XS.ifNo X1.here hx rfl (hb hby d13_3) rfl ((if0 _ _).trans (feq P5).1) (XS.aloadN X1.here hx rfl (hb hby d13_6) rfl rfl k)) ?_
  obtain ⟨T2, X2, e2, st2⟩ := getF X1 hx hZ hown (host := "") (Or.inl (own_w hw 37)) Via.refl e1 F_coder_ra0 (g := (mkF m 7 #[vR ra0] [(.ref ra0)])) rfl rfl (hb hby d13_7)
  refine og T2 (mkF m 10 #[vR ra0] [(.int (0 : Int32))]) st2 ?_
  refine og T2 (mkF m 14 #[vR ra0] [(.int (0 : Int32))]) (fun _ k => XS.goto X2.here hx rfl (pc0 := 10) (pc' := 14) rfl (hb hby d13_10) (by decide) (by decide) k) ?_
  exact own_leaveN X2 hlk (v := some (.int (nar .byte (0 : Int32)))) (fun h => by rw [hret] at h; cases h) (lb rfl) (lb rfl) (by rw [e2]; exact ⟨rfl, N0, rfl⟩) (fun fs hr => retN X2 hx (t := .byte) hret (by simp) (hb hby d13_14) hr)
abbrev R17_49 : Room := { frames := 1, cells := 0, slots := 0, locals := 14 }
def Q17_49 (Z : State) (ra0 : Addr) (kc1 : ClassId) (ci2 : Int32) (ci3 : Int32) (ci4 : Int32) (ra5 : Addr) (kc6 : ClassId) (ci7 : Int32) (ci8 : Int32) (ci9 : Int32) (h0 : Heap) (n0 : Nat) (v : Option Value) (h : Heap) (L : List Loc) : Prop := (v = some (.int (own_ica [ci2, ci3, ci4] [ci7, ci8, ci9])) ∧ Fr n0 L ∧ h = h0)
theorem rm17_49 (l : Launch) (Z : State) (a0 : Array Value) (hw : HW Z a0) (ra0 : Addr) (kc1 : ClassId) (ci2 : Int32) (ci3 : Int32) (ci4 : Int32) (ra5 : Addr) (kc6 : ClassId) (ci7 : Int32) (ci8 : Int32) (ci9 : Int32) (h0 : Heap) (n0 : Nat) (OLD : Old Z n0 h0) (hl_ci2 : ¬ ci2 < 0 ∧ ¬ (255 : Int32) < ci2) (hl_ci3 : ¬ ci3 < 0 ∧ ¬ (255 : Int32) < ci3) (hl_ci4 : ¬ ci4 < 0 ∧ ¬ (255 : Int32) < ci4) (V_ra0 : Arv Z h0 ra0 kc1 .byte (3 : Int32) [(.int (ci2.toInt8.toInt32)), (.int (ci3.toInt8.toInt32)), (.int (ci4.toInt8.toInt32))] (.int (0 : Int32))) (hl_ci7 : ¬ ci7 < 0 ∧ ¬ (255 : Int32) < ci7) (hl_ci8 : ¬ ci8 < 0 ∧ ¬ (255 : Int32) < ci8) (hl_ci9 : ¬ ci9 < 0 ∧ ¬ (255 : Int32) < ci9) (V_ra5 : Arv Z h0 ra5 kc6 .byte (3 : Int32) [(.int (ci7.toInt8.toInt32)), (.int (ci8.toInt8.toInt32)), (.int (ci9.toInt8.toInt32))] (.int (0 : Int32))) :
    own_CN l Z y4 jdk_43_method_30_code 8 (some .boolean) [] R17_49 #[(.ref ra0), (.int (0 : Int32)), (.ref ra5), (.int (0 : Int32)), (.int (3 : Int32))] h0 (Q17_49 Z ra0 kc1 ci2 ci3 ci4 ra5 kc6 ci7 ci8 ci9 h0 n0) := by
  refine own_entryN (plainFor_of_name pn_1) fun p e s m below meth c s₁ hx hby hml hown hnm hret hlk hZ hh X0 e0 => ?_
  have N0 := Fr.nil n0
  rw [ef_17_49 m ra0 ra5]
  refine og s₁ (mkF m 17 #[vR ra0, vI (1 : Int32), vR ra5, vI (0 : Int32), vI (3 : Int32), vI (3 : Int32), vU, vU] [(.int (0 : Int32)), (.ref ra0)]) (fun _ k => XS.iloadN X0.here hx rfl (hb hby d17_0) rfl (XS.iload X0.here hx rfl (hb hby d17_1) rfl (XS.iadd X0.here hx rfl (hb hby d17_3) rfl (XS.istore X0.here hx rfl (hb hby d17_4) rfl (l' := #[vR ra0, vI (0 : Int32), vR ra5, vI (0 : Int32), vI (3 : Int32), vI (3 : Int32), vU, vU]) rfl (XS.iloadN X0.here hx rfl (hb hby d17_6) rfl (XS.iload X0.here hx rfl (hb hby d17_7) rfl (XS.icmpNo X0.here hx rfl (hb hby d17_9) rfl (tlt (by decide : (0 : Int32) < (3 : Int32))).2.1 (XS.aloadN X0.here hx rfl (hb hby d17_12) rfl rfl (XS.iloadN X0.here hx rfl (hb hby d17_13) rfl (XS.iinc X0.here hx rfl (hb hby d17_14) rfl (l' := #[vR ra0, vI (1 : Int32), vR ra5, vI (0 : Int32), vI (3 : Int32), vI (3 : Int32), vU, vU]) rfl k)))))))))) ?_
  obtain ⟨cl1, Ar1, qr1, Sr1, Nr1, Hr1, Gr1⟩ := id V_ra0
  have hi1 : ¬ ((0 : Int32) < 0 ∨ cl1.slots.size ≤ ((0 : Int32)).toNatClampNeg) := inb_of Sr1 ⟨by decide, by decide⟩
  refine og s₁ (mkF m 18 #[vR ra0, vI (1 : Int32), vR ra5, vI (0 : Int32), vI (3 : Int32), vI (3 : Int32), vU, vU] [(.int (ci2.toInt8.toInt32))]) (fun t k => X0.baloadBytes hx (j := (0 : Int32)) (v := (.int (ci2.toInt8.toInt32))) (by rw [e0]; exact Ar1.1) (State.isArrayOf_alike hZ.alike Ar1.2.1) Ar1.2.2 hi1 (Has.at Hr1 hi1 rfl) (g := (mkF m 17 #[vR ra0, vI (1 : Int32), vR ra5, vI (0 : Int32), vI (3 : Int32), vI (3 : Int32), vU, vU] [(.int (0 : Int32)), (.ref ra0)])) rfl rfl (hb hby d17_17) t k) ?_
  refine og s₁ (mkF m 25 #[vR ra0, vI (1 : Int32), vR ra5, vI (1 : Int32), vI (3 : Int32), vI (3 : Int32), vI (ci2.toInt8.toInt32), vU] [(.int (0 : Int32)), (.ref ra5)]) (fun _ k => XS.istore X0.here hx rfl (hb hby d17_18) rfl (l' := #[vR ra0, vI (1 : Int32), vR ra5, vI (0 : Int32), vI (3 : Int32), vI (3 : Int32), vI (ci2.toInt8.toInt32), vU]) rfl (XS.aloadN X0.here hx rfl (hb hby d17_20) rfl rfl (XS.iloadN X0.here hx rfl (hb hby d17_21) rfl (XS.iinc X0.here hx rfl (hb hby d17_22) rfl (l' := #[vR ra0, vI (1 : Int32), vR ra5, vI (1 : Int32), vI (3 : Int32), vI (3 : Int32), vI (ci2.toInt8.toInt32), vU]) rfl k)))) ?_
  obtain ⟨cl2, Ar2, qr2, Sr2, Nr2, Hr2, Gr2⟩ := id V_ra5
  have hi2 : ¬ ((0 : Int32) < 0 ∨ cl2.slots.size ≤ ((0 : Int32)).toNatClampNeg) := inb_of Sr2 ⟨by decide, by decide⟩
  refine og s₁ (mkF m 26 #[vR ra0, vI (1 : Int32), vR ra5, vI (1 : Int32), vI (3 : Int32), vI (3 : Int32), vI (ci2.toInt8.toInt32), vU] [(.int (ci7.toInt8.toInt32))]) (fun t k => X0.baloadBytes hx (j := (0 : Int32)) (v := (.int (ci7.toInt8.toInt32))) (by rw [e0]; exact Ar2.1) (State.isArrayOf_alike hZ.alike Ar2.2.1) Ar2.2.2 hi2 (Has.at Hr2 hi2 rfl) (g := (mkF m 25 #[vR ra0, vI (1 : Int32), vR ra5, vI (1 : Int32), vI (3 : Int32), vI (3 : Int32), vI (ci2.toInt8.toInt32), vU] [(.int (0 : Int32)), (.ref ra5)])) rfl rfl (hb hby d17_25) t k) ?_
  refine og s₁ (mkF m 32 #[vR ra0, vI (1 : Int32), vR ra5, vI (1 : Int32), vI (3 : Int32), vI (3 : Int32), vI (ci2.toInt8.toInt32), vI (ci7.toInt8.toInt32)] [(.int (ci7.toInt8.toInt32)), (.int (ci2.toInt8.toInt32))]) (fun _ k => XS.istore X0.here hx rfl (hb hby d17_26) rfl (l' := #[vR ra0, vI (1 : Int32), vR ra5, vI (1 : Int32), vI (3 : Int32), vI (3 : Int32), vI (ci2.toInt8.toInt32), vI (ci7.toInt8.toInt32)]) rfl (XS.iload X0.here hx rfl (hb hby d17_28) rfl (XS.iload X0.here hx rfl (hb hby d17_30) rfl k))) ?_
  obtain ⟨_, _, ⟨T3, L3, k3, n3⟩, -, X3, ⟨Lc3, hQ3, l3, y3, z3⟩, st3⟩ := Jvm.LawKit.callS X0 hx (y := y8) hown (mvT hZ (own_w hw 108)) (mvT hZ (own_w hw 109)) (mvT hZ (own_w hw 110)) (mvT hZ (own_w hw 111)) (by decide) (backOf (W := 0) (rm18_23 l Z a0 hw ((ci2.toInt8.toInt32)) ((ci7.toInt8.toInt32)) h0 n0 OLD ) hZ (own_w hw 111) (own_w hw 110) (lb rfl) (lb rfl)) (g := (mkF m 32 #[vR ra0, vI (1 : Int32), vR ra5, vI (1 : Int32), vI (3 : Int32), vI (3 : Int32), vI (ci2.toInt8.toInt32), vI (ci7.toInt8.toInt32)] [(.int (ci7.toInt8.toInt32)), (.int (ci2.toInt8.toInt32))])) rfl (by rw [hml]; rfl) (argsL := [(.int (ci2.toInt8.toInt32)), (.int (ci7.toInt8.toInt32))]) (rest := []) (lenOf pd_6 rfl) rfl (lb rfl) (hb hby d17_32) (fun _ _ => ⟨rfl, e0, (lb rfl), (lb rfl)⟩)
  dsimp only [Pt.U, Pt.locs, Pt.cells, Pt.slots] at X3 l3 y3 z3 st3 hQ3
  subst l3 y3 z3
  obtain ⟨rfl, Nq3, eq3⟩ := hQ3
  have N3 := Fr.app N0 Nq3
  refine og T3 (mkF m 35 #[vR ra0, vI (1 : Int32), vR ra5, vI (1 : Int32), vI (3 : Int32), vI (3 : Int32), vI (ci2.toInt8.toInt32), vI (ci7.toInt8.toInt32)] [(.int (own_ic (ci2.toInt8.toInt32) (ci7.toInt8.toInt32)))]) st3 ?_
  rw [own_icq hl_ci2 hl_ci7]
  by_cases hc4 : (own_eqv ci2 ci7) = (0 : Int32)
  · refine og T3 (mkF m 42 #[vR ra0, vI (1 : Int32), vR ra5, vI (1 : Int32), vI (3 : Int32), vI (3 : Int32), vI (ci2.toInt8.toInt32), vI (ci7.toInt8.toInt32)] [(.int (0 : Int32))]) (fun _ k => XS.ifYes X3.here hx rfl (pc0 := 35) (pc' := 41) rfl (hb hby d17_35) rfl ((if0 _ _).trans (teq hc4).1) (by decide) (by decide) (XS.iconst X3.here hx rfl (hb hby d17_41) k)) ?_
    exact own_leaveN X3 hlk (v := some (.int (nar .boolean (0 : Int32)))) (fun h => by rw [hret] at h; cases h) (lb rfl) (lb rfl) (by rw [eq3]; exact ⟨(by show some (Value.int (0 : Int32)) = _; first | rfl | (simp [own_ica, hc4]; done)), N3, rfl⟩) (fun fs hr => retN X3 hx (t := .boolean) hret (by simp) (hb hby d17_42) hr)
  · refine og T3 (mkF m 17 #[vR ra0, vI (2 : Int32), vR ra5, vI (1 : Int32), vI (3 : Int32), vI (3 : Int32), vI (ci2.toInt8.toInt32), vI (ci7.toInt8.toInt32)] [(.int (1 : Int32)), (.ref ra0)]) (fun _ k => XS.ifNo X3.here hx rfl (hb hby d17_35) rfl ((if0 _ _).trans (feq hc4).1) (XS.goto X3.here hx rfl (pc0 := 38) (pc' := 6) rfl (hb hby d17_38) (by decide) (by decide) (XS.iloadN X3.here hx rfl (hb hby d17_6) rfl (XS.iload X3.here hx rfl (hb hby d17_7) rfl (XS.icmpNo X3.here hx rfl (hb hby d17_9) rfl (tlt (by decide : (1 : Int32) < (3 : Int32))).2.1 (XS.aloadN X3.here hx rfl (hb hby d17_12) rfl rfl (XS.iloadN X3.here hx rfl (hb hby d17_13) rfl (XS.iinc X3.here hx rfl (hb hby d17_14) rfl (l' := #[vR ra0, vI (2 : Int32), vR ra5, vI (1 : Int32), vI (3 : Int32), vI (3 : Int32), vI (ci2.toInt8.toInt32), vI (ci7.toInt8.toInt32)]) rfl k)))))))) ?_
    obtain ⟨cl5, Ar5, qr5, Sr5, Nr5, Hr5, Gr5⟩ := id V_ra0
    have hi5 : ¬ ((1 : Int32) < 0 ∨ cl5.slots.size ≤ ((1 : Int32)).toNatClampNeg) := inb_of Sr5 ⟨by decide, by decide⟩
    refine og T3 (mkF m 18 #[vR ra0, vI (2 : Int32), vR ra5, vI (1 : Int32), vI (3 : Int32), vI (3 : Int32), vI (ci2.toInt8.toInt32), vI (ci7.toInt8.toInt32)] [(.int (ci3.toInt8.toInt32))]) (fun t k => X3.baloadBytes hx (j := (1 : Int32)) (v := (.int (ci3.toInt8.toInt32))) (by rw [eq3]; exact Ar5.1) (State.isArrayOf_alike hZ.alike Ar5.2.1) Ar5.2.2 hi5 (Has.at Hr5 hi5 rfl) (g := (mkF m 17 #[vR ra0, vI (2 : Int32), vR ra5, vI (1 : Int32), vI (3 : Int32), vI (3 : Int32), vI (ci2.toInt8.toInt32), vI (ci7.toInt8.toInt32)] [(.int (1 : Int32)), (.ref ra0)])) rfl rfl (hb hby d17_17) t k) ?_
    refine og T3 (mkF m 25 #[vR ra0, vI (2 : Int32), vR ra5, vI (2 : Int32), vI (3 : Int32), vI (3 : Int32), vI (ci3.toInt8.toInt32), vI (ci7.toInt8.toInt32)] [(.int (1 : Int32)), (.ref ra5)]) (fun _ k => XS.istore X3.here hx rfl (hb hby d17_18) rfl (l' := #[vR ra0, vI (2 : Int32), vR ra5, vI (1 : Int32), vI (3 : Int32), vI (3 : Int32), vI (ci3.toInt8.toInt32), vI (ci7.toInt8.toInt32)]) rfl (XS.aloadN X3.here hx rfl (hb hby d17_20) rfl rfl (XS.iloadN X3.here hx rfl (hb hby d17_21) rfl (XS.iinc X3.here hx rfl (hb hby d17_22) rfl (l' := #[vR ra0, vI (2 : Int32), vR ra5, vI (2 : Int32), vI (3 : Int32), vI (3 : Int32), vI (ci3.toInt8.toInt32), vI (ci7.toInt8.toInt32)]) rfl k)))) ?_
    obtain ⟨cl6, Ar6, qr6, Sr6, Nr6, Hr6, Gr6⟩ := id V_ra5
    have hi6 : ¬ ((1 : Int32) < 0 ∨ cl6.slots.size ≤ ((1 : Int32)).toNatClampNeg) := inb_of Sr6 ⟨by decide, by decide⟩
    refine og T3 (mkF m 26 #[vR ra0, vI (2 : Int32), vR ra5, vI (2 : Int32), vI (3 : Int32), vI (3 : Int32), vI (ci3.toInt8.toInt32), vI (ci7.toInt8.toInt32)] [(.int (ci8.toInt8.toInt32))]) (fun t k => X3.baloadBytes hx (j := (1 : Int32)) (v := (.int (ci8.toInt8.toInt32))) (by rw [eq3]; exact Ar6.1) (State.isArrayOf_alike hZ.alike Ar6.2.1) Ar6.2.2 hi6 (Has.at Hr6 hi6 rfl) (g := (mkF m 25 #[vR ra0, vI (2 : Int32), vR ra5, vI (2 : Int32), vI (3 : Int32), vI (3 : Int32), vI (ci3.toInt8.toInt32), vI (ci7.toInt8.toInt32)] [(.int (1 : Int32)), (.ref ra5)])) rfl rfl (hb hby d17_25) t k) ?_
    refine og T3 (mkF m 32 #[vR ra0, vI (2 : Int32), vR ra5, vI (2 : Int32), vI (3 : Int32), vI (3 : Int32), vI (ci3.toInt8.toInt32), vI (ci8.toInt8.toInt32)] [(.int (ci8.toInt8.toInt32)), (.int (ci3.toInt8.toInt32))]) (fun _ k => XS.istore X3.here hx rfl (hb hby d17_26) rfl (l' := #[vR ra0, vI (2 : Int32), vR ra5, vI (2 : Int32), vI (3 : Int32), vI (3 : Int32), vI (ci3.toInt8.toInt32), vI (ci8.toInt8.toInt32)]) rfl (XS.iload X3.here hx rfl (hb hby d17_28) rfl (XS.iload X3.here hx rfl (hb hby d17_30) rfl k))) ?_
    obtain ⟨_, _, ⟨T7, L7, k7, n7⟩, -, X7, ⟨Lc7, hQ7, l7, y7, z7⟩, st7⟩ := Jvm.LawKit.callS X3 hx (y := y8) hown (mvT hZ (own_w hw 108)) (mvT hZ (own_w hw 109)) (mvT hZ (own_w hw 110)) (mvT hZ (own_w hw 111)) (by decide) (backOf (W := 0) (rm18_23 l Z a0 hw ((ci3.toInt8.toInt32)) ((ci8.toInt8.toInt32)) h0 n0 OLD ) hZ (own_w hw 111) (own_w hw 110) (lb rfl) (lb rfl)) (g := (mkF m 32 #[vR ra0, vI (2 : Int32), vR ra5, vI (2 : Int32), vI (3 : Int32), vI (3 : Int32), vI (ci3.toInt8.toInt32), vI (ci8.toInt8.toInt32)] [(.int (ci8.toInt8.toInt32)), (.int (ci3.toInt8.toInt32))])) rfl (by rw [hml]; rfl) (argsL := [(.int (ci3.toInt8.toInt32)), (.int (ci8.toInt8.toInt32))]) (rest := []) (lenOf pd_6 rfl) rfl (lb rfl) (hb hby d17_32) (fun _ _ => ⟨rfl, eq3, (lb rfl), (lb rfl)⟩)
    dsimp only [Pt.U, Pt.locs, Pt.cells, Pt.slots] at X7 l7 y7 z7 st7 hQ7
    subst l7 y7 z7
    obtain ⟨rfl, Nq7, eq7⟩ := hQ7
    have N7 := Fr.app N3 Nq7
    refine og T7 (mkF m 35 #[vR ra0, vI (2 : Int32), vR ra5, vI (2 : Int32), vI (3 : Int32), vI (3 : Int32), vI (ci3.toInt8.toInt32), vI (ci8.toInt8.toInt32)] [(.int (own_ic (ci3.toInt8.toInt32) (ci8.toInt8.toInt32)))]) st7 ?_
    rw [own_icq hl_ci3 hl_ci8]
    by_cases hc8 : (own_eqv ci3 ci8) = (0 : Int32)
    · refine og T7 (mkF m 42 #[vR ra0, vI (2 : Int32), vR ra5, vI (2 : Int32), vI (3 : Int32), vI (3 : Int32), vI (ci3.toInt8.toInt32), vI (ci8.toInt8.toInt32)] [(.int (0 : Int32))]) (fun _ k => XS.ifYes X7.here hx rfl (pc0 := 35) (pc' := 41) rfl (hb hby d17_35) rfl ((if0 _ _).trans (teq hc8).1) (by decide) (by decide) (XS.iconst X7.here hx rfl (hb hby d17_41) k)) ?_
      exact own_leaveN X7 hlk (v := some (.int (nar .boolean (0 : Int32)))) (fun h => by rw [hret] at h; cases h) (lb rfl) (lb rfl) (by rw [eq7]; exact ⟨(by show some (Value.int (0 : Int32)) = _; first | rfl | (simp [own_ica, hc4, hc8]; done)), N7, rfl⟩) (fun fs hr => retN X7 hx (t := .boolean) hret (by simp) (hb hby d17_42) hr)
    · refine og T7 (mkF m 17 #[vR ra0, vI (3 : Int32), vR ra5, vI (2 : Int32), vI (3 : Int32), vI (3 : Int32), vI (ci3.toInt8.toInt32), vI (ci8.toInt8.toInt32)] [(.int (2 : Int32)), (.ref ra0)]) (fun _ k => XS.ifNo X7.here hx rfl (hb hby d17_35) rfl ((if0 _ _).trans (feq hc8).1) (XS.goto X7.here hx rfl (pc0 := 38) (pc' := 6) rfl (hb hby d17_38) (by decide) (by decide) (XS.iloadN X7.here hx rfl (hb hby d17_6) rfl (XS.iload X7.here hx rfl (hb hby d17_7) rfl (XS.icmpNo X7.here hx rfl (hb hby d17_9) rfl (tlt (by decide : (2 : Int32) < (3 : Int32))).2.1 (XS.aloadN X7.here hx rfl (hb hby d17_12) rfl rfl (XS.iloadN X7.here hx rfl (hb hby d17_13) rfl (XS.iinc X7.here hx rfl (hb hby d17_14) rfl (l' := #[vR ra0, vI (3 : Int32), vR ra5, vI (2 : Int32), vI (3 : Int32), vI (3 : Int32), vI (ci3.toInt8.toInt32), vI (ci8.toInt8.toInt32)]) rfl k)))))))) ?_
      obtain ⟨cl9, Ar9, qr9, Sr9, Nr9, Hr9, Gr9⟩ := id V_ra0
      have hi9 : ¬ ((2 : Int32) < 0 ∨ cl9.slots.size ≤ ((2 : Int32)).toNatClampNeg) := inb_of Sr9 ⟨by decide, by decide⟩
      refine og T7 (mkF m 18 #[vR ra0, vI (3 : Int32), vR ra5, vI (2 : Int32), vI (3 : Int32), vI (3 : Int32), vI (ci3.toInt8.toInt32), vI (ci8.toInt8.toInt32)] [(.int (ci4.toInt8.toInt32))]) (fun t k => X7.baloadBytes hx (j := (2 : Int32)) (v := (.int (ci4.toInt8.toInt32))) (by rw [eq7]; exact Ar9.1) (State.isArrayOf_alike hZ.alike Ar9.2.1) Ar9.2.2 hi9 (Has.at Hr9 hi9 rfl) (g := (mkF m 17 #[vR ra0, vI (3 : Int32), vR ra5, vI (2 : Int32), vI (3 : Int32), vI (3 : Int32), vI (ci3.toInt8.toInt32), vI (ci8.toInt8.toInt32)] [(.int (2 : Int32)), (.ref ra0)])) rfl rfl (hb hby d17_17) t k) ?_
      refine og T7 (mkF m 25 #[vR ra0, vI (3 : Int32), vR ra5, vI (3 : Int32), vI (3 : Int32), vI (3 : Int32), vI (ci4.toInt8.toInt32), vI (ci8.toInt8.toInt32)] [(.int (2 : Int32)), (.ref ra5)]) (fun _ k => XS.istore X7.here hx rfl (hb hby d17_18) rfl (l' := #[vR ra0, vI (3 : Int32), vR ra5, vI (2 : Int32), vI (3 : Int32), vI (3 : Int32), vI (ci4.toInt8.toInt32), vI (ci8.toInt8.toInt32)]) rfl (XS.aloadN X7.here hx rfl (hb hby d17_20) rfl rfl (XS.iloadN X7.here hx rfl (hb hby d17_21) rfl (XS.iinc X7.here hx rfl (hb hby d17_22) rfl (l' := #[vR ra0, vI (3 : Int32), vR ra5, vI (3 : Int32), vI (3 : Int32), vI (3 : Int32), vI (ci4.toInt8.toInt32), vI (ci8.toInt8.toInt32)]) rfl k)))) ?_
      obtain ⟨cl10, Ar10, qr10, Sr10, Nr10, Hr10, Gr10⟩ := id V_ra5
      have hi10 : ¬ ((2 : Int32) < 0 ∨ cl10.slots.size ≤ ((2 : Int32)).toNatClampNeg) := inb_of Sr10 ⟨by decide, by decide⟩
      refine og T7 (mkF m 26 #[vR ra0, vI (3 : Int32), vR ra5, vI (3 : Int32), vI (3 : Int32), vI (3 : Int32), vI (ci4.toInt8.toInt32), vI (ci8.toInt8.toInt32)] [(.int (ci9.toInt8.toInt32))]) (fun t k => X7.baloadBytes hx (j := (2 : Int32)) (v := (.int (ci9.toInt8.toInt32))) (by rw [eq7]; exact Ar10.1) (State.isArrayOf_alike hZ.alike Ar10.2.1) Ar10.2.2 hi10 (Has.at Hr10 hi10 rfl) (g := (mkF m 25 #[vR ra0, vI (3 : Int32), vR ra5, vI (3 : Int32), vI (3 : Int32), vI (3 : Int32), vI (ci4.toInt8.toInt32), vI (ci8.toInt8.toInt32)] [(.int (2 : Int32)), (.ref ra5)])) rfl rfl (hb hby d17_25) t k) ?_
      refine og T7 (mkF m 32 #[vR ra0, vI (3 : Int32), vR ra5, vI (3 : Int32), vI (3 : Int32), vI (3 : Int32), vI (ci4.toInt8.toInt32), vI (ci9.toInt8.toInt32)] [(.int (ci9.toInt8.toInt32)), (.int (ci4.toInt8.toInt32))]) (fun _ k => XS.istore X7.here hx rfl (hb hby d17_26) rfl (l' := #[vR ra0, vI (3 : Int32), vR ra5, vI (3 : Int32), vI (3 : Int32), vI (3 : Int32), vI (ci4.toInt8.toInt32), vI (ci9.toInt8.toInt32)]) rfl (XS.iload X7.here hx rfl (hb hby d17_28) rfl (XS.iload X7.here hx rfl (hb hby d17_30) rfl k))) ?_
      obtain ⟨_, _, ⟨T11, L11, k11, n11⟩, -, X11, ⟨Lc11, hQ11, l11, y11, z11⟩, st11⟩ := Jvm.LawKit.callS X7 hx (y := y8) hown (mvT hZ (own_w hw 108)) (mvT hZ (own_w hw 109)) (mvT hZ (own_w hw 110)) (mvT hZ (own_w hw 111)) (by decide) (backOf (W := 0) (rm18_23 l Z a0 hw ((ci4.toInt8.toInt32)) ((ci9.toInt8.toInt32)) h0 n0 OLD ) hZ (own_w hw 111) (own_w hw 110) (lb rfl) (lb rfl)) (g := (mkF m 32 #[vR ra0, vI (3 : Int32), vR ra5, vI (3 : Int32), vI (3 : Int32), vI (3 : Int32), vI (ci4.toInt8.toInt32), vI (ci9.toInt8.toInt32)] [(.int (ci9.toInt8.toInt32)), (.int (ci4.toInt8.toInt32))])) rfl (by rw [hml]; rfl) (argsL := [(.int (ci4.toInt8.toInt32)), (.int (ci9.toInt8.toInt32))]) (rest := []) (lenOf pd_6 rfl) rfl (lb rfl) (hb hby d17_32) (fun _ _ => ⟨rfl, eq7, (lb rfl), (lb rfl)⟩)
      dsimp only [Pt.U, Pt.locs, Pt.cells, Pt.slots] at X11 l11 y11 z11 st11 hQ11
      subst l11 y11 z11
      obtain ⟨rfl, Nq11, eq11⟩ := hQ11
      have N11 := Fr.app N7 Nq11
      refine og T11 (mkF m 35 #[vR ra0, vI (3 : Int32), vR ra5, vI (3 : Int32), vI (3 : Int32), vI (3 : Int32), vI (ci4.toInt8.toInt32), vI (ci9.toInt8.toInt32)] [(.int (own_ic (ci4.toInt8.toInt32) (ci9.toInt8.toInt32)))]) st11 ?_
      rw [own_icq hl_ci4 hl_ci9]
      by_cases hc12 : (own_eqv ci4 ci9) = (0 : Int32)
      · refine og T11 (mkF m 42 #[vR ra0, vI (3 : Int32), vR ra5, vI (3 : Int32), vI (3 : Int32), vI (3 : Int32), vI (ci4.toInt8.toInt32), vI (ci9.toInt8.toInt32)] [(.int (0 : Int32))]) (fun _ k => XS.ifYes X11.here hx rfl (pc0 := 35) (pc' := 41) rfl (hb hby d17_35) rfl ((if0 _ _).trans (teq hc12).1) (by decide) (by decide) (XS.iconst X11.here hx rfl (hb hby d17_41) k)) ?_
        exact own_leaveN X11 hlk (v := some (.int (nar .boolean (0 : Int32)))) (fun h => by rw [hret] at h; cases h) (lb rfl) (lb rfl) (by rw [eq11]; exact ⟨(by show some (Value.int (0 : Int32)) = _; first | rfl | (simp [own_ica, hc4, hc8, hc12]; done)), N11, rfl⟩) (fun fs hr => retN X11 hx (t := .boolean) hret (by simp) (hb hby d17_42) hr)
      · refine og T11 (mkF m 44 #[vR ra0, vI (3 : Int32), vR ra5, vI (3 : Int32), vI (3 : Int32), vI (3 : Int32), vI (ci4.toInt8.toInt32), vI (ci9.toInt8.toInt32)] [(.int (1 : Int32))]) (fun _ k => XS.ifNo X11.here hx rfl (hb hby d17_35) rfl ((if0 _ _).trans (feq hc12).1) (XS.goto X11.here hx rfl (pc0 := 38) (pc' := 6) rfl (hb hby d17_38) (by decide) (by decide) (XS.iloadN X11.here hx rfl (hb hby d17_6) rfl (XS.iload X11.here hx rfl (hb hby d17_7) rfl (XS.icmpYes X11.here hx rfl (pc0 := 9) (pc' := 43) rfl (hb hby d17_9) rfl (flt (by decide : ¬ ((3 : Int32) < (3 : Int32)))).2.1 (by decide) (by decide) (XS.iconst X11.here hx rfl (hb hby d17_43) k)))))) ?_
        exact own_leaveN X11 hlk (v := some (.int (nar .boolean (1 : Int32)))) (fun h => by rw [hret] at h; cases h) (lb rfl) (lb rfl) (by rw [eq11]; exact ⟨(by show some (Value.int (1 : Int32)) = _; first | rfl | (simp [own_ica, hc4, hc8, hc12]; done)), N11, rfl⟩) (fun fs hr => retN X11 hx (t := .boolean) hret (by simp) (hb hby d17_44) hr)
abbrev R16_47 : Room := { frames := 2, cells := 0, slots := 0, locals := 33 }
def Q16_47 (Z : State) (ra0 : Addr) (ra1 : Addr) (kc2 : ClassId) (ci3 : Int32) (ci4 : Int32) (ci5 : Int32) (ra6 : Addr) (ra7 : Addr) (kc8 : ClassId) (ci9 : Int32) (ci10 : Int32) (ci11 : Int32) (G1 : Int32) (h0 : Heap) (n0 : Nat) (v : Option Value) (h : Heap) (L : List Loc) : Prop := (v = some (.int (own_ica [ci3, ci4, ci5] [ci9, ci10, ci11])) ∧ Fr n0 L ∧ h = h0)
theorem rm16_47 (l : Launch) (Z : State) (a0 : Array Value) (hw : HW Z a0) (ra0 : Addr) (ra1 : Addr) (kc2 : ClassId) (ci3 : Int32) (ci4 : Int32) (ci5 : Int32) (ra6 : Addr) (ra7 : Addr) (kc8 : ClassId) (ci9 : Int32) (ci10 : Int32) (ci11 : Int32) (G1 : Int32) (h0 : Heap) (n0 : Nat) (OLD : Old Z n0 h0) (E_ra0 : Exa Z h0 ra0 "java/lang/String") (F_coder_ra0 : Fld Z h0 ra0 "java/lang/String" "coder" "B" (.int (0 : Int32))) (F_value_ra0 : Fld Z h0 ra0 "java/lang/String" "value" "[B" (.ref ra1)) (hl_ci3 : ¬ ci3 < 0 ∧ ¬ (255 : Int32) < ci3) (hl_ci4 : ¬ ci4 < 0 ∧ ¬ (255 : Int32) < ci4) (hl_ci5 : ¬ ci5 < 0 ∧ ¬ (255 : Int32) < ci5) (V_ra1 : Arv Z h0 ra1 kc2 .byte (3 : Int32) [(.int (ci3.toInt8.toInt32)), (.int (ci4.toInt8.toInt32)), (.int (ci5.toInt8.toInt32))] (.int (0 : Int32))) (E_ra6 : Exa Z h0 ra6 "java/lang/String") (F_coder_ra6 : Fld Z h0 ra6 "java/lang/String" "coder" "B" (.int (0 : Int32))) (F_value_ra6 : Fld Z h0 ra6 "java/lang/String" "value" "[B" (.ref ra7)) (hl_ci9 : ¬ ci9 < 0 ∧ ¬ (255 : Int32) < ci9) (hl_ci10 : ¬ ci10 < 0 ∧ ¬ (255 : Int32) < ci10) (hl_ci11 : ¬ ci11 < 0 ∧ ¬ (255 : Int32) < ci11) (V_ra7 : Arv Z h0 ra7 kc8 .byte (3 : Int32) [(.int (ci9.toInt8.toInt32)), (.int (ci10.toInt8.toInt32)), (.int (ci11.toInt8.toInt32))] (.int (0 : Int32))) (O2 : Sta Z Z.heap "java/lang/String" "COMPACT_STRINGS" "Z" (.int G1)) (P5 : ¬ (G1 = (0 : Int32))) :
    own_CN l Z y5 jdk_42_method_74_code 9 (some .boolean) [] R16_47 #[(.ref ra0), (.int (1 : Int32)), (.int (0 : Int32)), (.ref ra6), (.int (0 : Int32)), (.int (3 : Int32))] h0 (Q16_47 Z ra0 ra1 kc2 ci3 ci4 ci5 ra6 ra7 kc8 ci9 ci10 ci11 G1 h0 n0) := by
  refine own_entryN (plainFor_of_name pn_0) fun p e s m below meth c s₁ hx hby hml hown hnm hret hlk hZ hh X0 e0 => ?_
  have N0 := Fr.nil n0
  rw [ef_16_47 m ra0 ra6]
  refine og s₁ (mkF m 27 #[vR ra0, vI (1 : Int32), vI (0 : Int32), vR ra6, vI (0 : Int32), vI (3 : Int32), vU, vU, vU] [(.ref ra0), (.long (0 : Int64))]) (fun _ k => XS.iloadN X0.here hx rfl (hb hby d16_0) rfl (XS.ifYes X0.here hx rfl (pc0 := 1) (pc' := 15) rfl (hb hby d16_1) rfl ((if0 _ _).trans (feq (by decide : ¬ ((1 : Int32) = (0 : Int32)))).2) (by decide) (by decide) (XS.iload X0.here hx rfl (hb hby d16_15) rfl (XS.ifNo X0.here hx rfl (hb hby d16_17) rfl ((if0 _ _).trans (flt (by decide : ¬ ((0 : Int32) < (0 : Int32)))).1) (XS.iloadN X0.here hx rfl (hb hby d16_20) rfl (XS.ifNo X0.here hx rfl (hb hby d16_21) rfl ((if0 _ _).trans (flt (by decide : ¬ ((0 : Int32) < (0 : Int32)))).1) (XS.iloadN X0.here hx rfl (hb hby d16_24) rfl (XS.i2l X0.here hx rfl (hb hby d16_25) rfl (XS.aloadN X0.here hx rfl (hb hby d16_26) rfl rfl k))))))))) ?_
  have hp1 : ∀ c ∈ ([ci3, ci4, ci5] : List Int32), ¬ c < 0 ∧ ¬ (255 : Int32) < c := by
    intro c hc
    simp only [List.mem_cons, List.not_mem_nil, or_false] at hc
    rcases hc with rfl | rfl | rfl
    · exact hl_ci3
    · exact hl_ci4
    · exact hl_ci5
  obtain ⟨cq2, kq2, q2a, q2b, q2c⟩ := isOf hZ e0 E_ra0
  obtain ⟨_, _, ⟨T2, L2, k2, n2⟩, -, X2, ⟨Lc2, hQ2, l2, y2, z2⟩, st2⟩ := X0.virtualBack hx (y := y2) (z := y2) hown (mvT hZ (own_w hw 70)) (mvT hZ (own_w hw 71)) (notFace_of_selects (args := #[]) (mvT hZ (own_w hw 73))) (mvT hZ (own_w hw 73)) (mvT hZ (own_w hw 72)) (by decide) (StrChars.Road.lenW (W := 2) hZ (own_hln hw) (kI := 4) (own_w hw 13) (cs := ([ci3, ci4, ci5] : List Int32)) E_ra0 F_value_ra0 F_coder_ra0 V_ra1 (StrChars.Road.codOf rfl (fun c hc => (hp1 c hc).2)) (own_up _ hp1) (O2.ext OLD.2) P5 (lb rfl) (lb rfl) (lb rfl)) q2a q2c (g := (mkF m 27 #[vR ra0, vI (1 : Int32), vI (0 : Int32), vR ra6, vI (0 : Int32), vI (3 : Int32), vU, vU, vU] [(.ref ra0), (.long (0 : Int64))])) rfl (by rw [hml]; rfl) (Steps.refl _) (argsL := []) (rest := [(.long (0 : Int64))]) (lenOf pd_1 rfl) rfl (lb rfl) (hb hby d16_27) (fun _ _ => ⟨rfl, e0, (lb rfl), (lb rfl)⟩)
  dsimp only [Pt.U, Pt.locs, Pt.cells, Pt.slots] at X2 l2 y2 z2 st2 hQ2
  subst l2 y2 z2
  obtain ⟨rfl, rfl, eq2⟩ := hQ2
  have N2 := Fr.app N0 (Fr.nil n0)
  refine ot T2 (mkF m 30 #[vR ra0, vI (1 : Int32), vI (0 : Int32), vR ra6, vI (0 : Int32), vI (3 : Int32), vU, vU, vU] [(.int (3 : Int32)), (.long (0 : Int64))]) st2 ?_
  refine og T2 (mkF m 35 #[vR ra0, vI (1 : Int32), vI (0 : Int32), vR ra6, vI (0 : Int32), vI (3 : Int32), vU, vU, vU] [(.long (0 : Int64)), (.long (0 : Int64))]) (fun _ k => XS.i2l X2.here hx rfl (hb hby d16_30) rfl (XS.iload X2.here hx rfl (hb hby d16_31) rfl (XS.i2l X2.here hx rfl (hb hby d16_33) rfl (XS.lsub X2.here hx rfl (hb hby d16_34) rfl k)))) ?_
  refine og T2 (mkF m 36 #[vR ra0, vI (1 : Int32), vI (0 : Int32), vR ra6, vI (0 : Int32), vI (3 : Int32), vU, vU, vU] [(.int (0 : Int32))]) (fun _ k => XS.lcmp X2.here hx rfl (hb hby d16_35) rfl (by exact k)) ?_
  refine og T2 (mkF m 43 #[vR ra0, vI (1 : Int32), vI (0 : Int32), vR ra6, vI (0 : Int32), vI (3 : Int32), vU, vU, vU] [(.ref ra6), (.long (0 : Int64))]) (fun _ k => XS.ifNo X2.here hx rfl (hb hby d16_36) rfl ((if0 _ _).trans (flt (by decide : ¬ ((0 : Int32) < (0 : Int32)))).2.2.1) (XS.iload X2.here hx rfl (hb hby d16_39) rfl (XS.i2l X2.here hx rfl (hb hby d16_41) rfl (XS.aloadN X2.here hx rfl (hb hby d16_42) rfl rfl k)))) ?_
  have hp3 : ∀ c ∈ ([ci9, ci10, ci11] : List Int32), ¬ c < 0 ∧ ¬ (255 : Int32) < c := by
    intro c hc
    simp only [List.mem_cons, List.not_mem_nil, or_false] at hc
    rcases hc with rfl | rfl | rfl
    · exact hl_ci9
    · exact hl_ci10
    · exact hl_ci11
  obtain ⟨cq4, kq4, q4a, q4b, q4c⟩ := isOf hZ eq2 E_ra6
  obtain ⟨_, _, ⟨T4, L4, k4, n4⟩, -, X4, ⟨Lc4, hQ4, l4, y4, z4⟩, st4⟩ := X2.virtualBack hx (y := y2) (z := y2) hown (mvT hZ (own_w hw 70)) (mvT hZ (own_w hw 71)) (notFace_of_selects (args := #[]) (mvT hZ (own_w hw 73))) (mvT hZ (own_w hw 73)) (mvT hZ (own_w hw 72)) (by decide) (StrChars.Road.lenW (W := 2) hZ (own_hln hw) (kI := 4) (own_w hw 13) (cs := ([ci9, ci10, ci11] : List Int32)) E_ra6 F_value_ra6 F_coder_ra6 V_ra7 (StrChars.Road.codOf rfl (fun c hc => (hp3 c hc).2)) (own_up _ hp3) (O2.ext OLD.2) P5 (lb rfl) (lb rfl) (lb rfl)) q4a q4c (g := (mkF m 43 #[vR ra0, vI (1 : Int32), vI (0 : Int32), vR ra6, vI (0 : Int32), vI (3 : Int32), vU, vU, vU] [(.ref ra6), (.long (0 : Int64))])) rfl (by rw [hml]; rfl) (Steps.refl _) (argsL := []) (rest := [(.long (0 : Int64))]) (lenOf pd_1 rfl) rfl (lb rfl) (hb hby d16_43) (fun _ _ => ⟨rfl, eq2, (lb rfl), (lb rfl)⟩)
  dsimp only [Pt.U, Pt.locs, Pt.cells, Pt.slots] at X4 l4 y4 z4 st4 hQ4
  subst l4 y4 z4
  obtain ⟨rfl, rfl, eq4⟩ := hQ4
  have N4 := Fr.app N2 (Fr.nil n0)
  refine ot T4 (mkF m 46 #[vR ra0, vI (1 : Int32), vI (0 : Int32), vR ra6, vI (0 : Int32), vI (3 : Int32), vU, vU, vU] [(.int (3 : Int32)), (.long (0 : Int64))]) st4 ?_
  refine og T4 (mkF m 51 #[vR ra0, vI (1 : Int32), vI (0 : Int32), vR ra6, vI (0 : Int32), vI (3 : Int32), vU, vU, vU] [(.long (0 : Int64)), (.long (0 : Int64))]) (fun _ k => XS.i2l X4.here hx rfl (hb hby d16_46) rfl (XS.iload X4.here hx rfl (hb hby d16_47) rfl (XS.i2l X4.here hx rfl (hb hby d16_49) rfl (XS.lsub X4.here hx rfl (hb hby d16_50) rfl k)))) ?_
  refine og T4 (mkF m 52 #[vR ra0, vI (1 : Int32), vI (0 : Int32), vR ra6, vI (0 : Int32), vI (3 : Int32), vU, vU, vU] [(.int (0 : Int32))]) (fun _ k => XS.lcmp X4.here hx rfl (hb hby d16_51) rfl (by exact k)) ?_
  refine og T4 (mkF m 58 #[vR ra0, vI (1 : Int32), vI (0 : Int32), vR ra6, vI (0 : Int32), vI (3 : Int32), vU, vU, vU] [(.ref ra0)]) (fun _ k => XS.ifYes X4.here hx rfl (pc0 := 52) (pc' := 57) rfl (hb hby d16_52) rfl ((if0 _ _).trans (flt (by decide : ¬ ((0 : Int32) < (0 : Int32)))).2.2.2) (by decide) (by decide) (XS.aloadN X4.here hx rfl (hb hby d16_57) rfl rfl k)) ?_
  obtain ⟨T5, X5, e5, st5⟩ := getF X4 hx hZ hown (host := "") (Or.inl (own_w hw 39)) Via.refl eq4 F_value_ra0 (g := (mkF m 58 #[vR ra0, vI (1 : Int32), vI (0 : Int32), vR ra6, vI (0 : Int32), vI (3 : Int32), vU, vU, vU] [(.ref ra0)])) rfl rfl (hb hby d16_58)
  refine og T5 (mkF m 61 #[vR ra0, vI (1 : Int32), vI (0 : Int32), vR ra6, vI (0 : Int32), vI (3 : Int32), vU, vU, vU] [(.ref ra1)]) st5 ?_
  refine og T5 (mkF m 64 #[vR ra0, vI (1 : Int32), vI (0 : Int32), vR ra6, vI (0 : Int32), vI (3 : Int32), vR ra1, vU, vU] [(.ref ra6)]) (fun _ k => XS.astore X5.here hx rfl (hb hby d16_61) rfl rfl (l' := #[vR ra0, vI (1 : Int32), vI (0 : Int32), vR ra6, vI (0 : Int32), vI (3 : Int32), vR ra1, vU, vU]) rfl (XS.aloadN X5.here hx rfl (hb hby d16_63) rfl rfl k)) ?_
  obtain ⟨T6, X6, e6, st6⟩ := getF X5 hx hZ hown (host := "") (Or.inl (own_w hw 39)) Via.refl e5 F_value_ra6 (g := (mkF m 64 #[vR ra0, vI (1 : Int32), vI (0 : Int32), vR ra6, vI (0 : Int32), vI (3 : Int32), vR ra1, vU, vU] [(.ref ra6)])) rfl rfl (hb hby d16_64)
  refine og T6 (mkF m 67 #[vR ra0, vI (1 : Int32), vI (0 : Int32), vR ra6, vI (0 : Int32), vI (3 : Int32), vR ra1, vU, vU] [(.ref ra7)]) st6 ?_
  refine og T6 (mkF m 70 #[vR ra0, vI (1 : Int32), vI (0 : Int32), vR ra6, vI (0 : Int32), vI (3 : Int32), vR ra1, vR ra7, vU] [(.ref ra0)]) (fun _ k => XS.astore X6.here hx rfl (hb hby d16_67) rfl rfl (l' := #[vR ra0, vI (1 : Int32), vI (0 : Int32), vR ra6, vI (0 : Int32), vI (3 : Int32), vR ra1, vR ra7, vU]) rfl (XS.aloadN X6.here hx rfl (hb hby d16_69) rfl rfl k)) ?_
  obtain ⟨cq7, kq7, q7a, q7b, q7c⟩ := isOf hZ e6 E_ra0
  obtain ⟨_, _, ⟨T7, L7, k7, n7⟩, -, X7, ⟨Lc7, hQ7, l7, y7, z7⟩, st7⟩ := X6.virtualBack hx (y := y3) (z := y3) hown (mvT hZ (own_w hw 75)) (mvT hZ (own_w hw 76)) (notFace_of_selects (args := #[]) (mvT hZ (own_w hw 78))) (mvT hZ (own_w hw 78)) (mvT hZ (own_w hw 77)) (by decide) (backOf (W := 0) (rm13_48 l Z a0 hw ra0 ra1 kc2 ci3 ci4 ci5 G1 h0 n0 OLD E_ra0 F_coder_ra0 F_value_ra0 hl_ci3 hl_ci4 hl_ci5 V_ra1 O2 P5) hZ (own_w hw 79) (own_w hw 14) (lb rfl) (lb rfl)) q7a q7c (g := (mkF m 70 #[vR ra0, vI (1 : Int32), vI (0 : Int32), vR ra6, vI (0 : Int32), vI (3 : Int32), vR ra1, vR ra7, vU] [(.ref ra0)])) rfl (by rw [hml]; rfl) (Steps.refl _) (argsL := []) (rest := []) (lenOf pd_2 rfl) rfl (lb rfl) (hb hby d16_70) (fun _ _ => ⟨rfl, e6, (lb rfl), (lb rfl)⟩)
  dsimp only [Pt.U, Pt.locs, Pt.cells, Pt.slots] at X7 l7 y7 z7 st7 hQ7
  subst l7 y7 z7
  obtain ⟨rfl, Nq7, eq7⟩ := hQ7
  have N7 := Fr.app N4 Nq7
  refine ot T7 (mkF m 73 #[vR ra0, vI (1 : Int32), vI (0 : Int32), vR ra6, vI (0 : Int32), vI (3 : Int32), vR ra1, vR ra7, vU] [(.int (0 : Int32))]) st7 ?_
  refine og T7 (mkF m 78 #[vR ra0, vI (1 : Int32), vI (0 : Int32), vR ra6, vI (0 : Int32), vI (3 : Int32), vR ra1, vR ra7, vI (0 : Int32)] [(.ref ra6), (.int (0 : Int32))]) (fun _ k => XS.istore X7.here hx rfl (hb hby d16_73) rfl (l' := #[vR ra0, vI (1 : Int32), vI (0 : Int32), vR ra6, vI (0 : Int32), vI (3 : Int32), vR ra1, vR ra7, vI (0 : Int32)]) rfl (XS.iload X7.here hx rfl (hb hby d16_75) rfl (XS.aloadN X7.here hx rfl (hb hby d16_77) rfl rfl k))) ?_
  obtain ⟨cq8, kq8, q8a, q8b, q8c⟩ := isOf hZ eq7 E_ra6
  obtain ⟨_, _, ⟨T8, L8, k8, n8⟩, -, X8, ⟨Lc8, hQ8, l8, y8, z8⟩, st8⟩ := X7.virtualBack hx (y := y3) (z := y3) hown (mvT hZ (own_w hw 75)) (mvT hZ (own_w hw 76)) (notFace_of_selects (args := #[]) (mvT hZ (own_w hw 78))) (mvT hZ (own_w hw 78)) (mvT hZ (own_w hw 77)) (by decide) (backOf (W := 1) (rm13_48 l Z a0 hw ra6 ra7 kc8 ci9 ci10 ci11 G1 h0 n0 OLD E_ra6 F_coder_ra6 F_value_ra6 hl_ci9 hl_ci10 hl_ci11 V_ra7 O2 P5) hZ (own_w hw 79) (own_w hw 14) (lb rfl) (lb rfl)) q8a q8c (g := (mkF m 78 #[vR ra0, vI (1 : Int32), vI (0 : Int32), vR ra6, vI (0 : Int32), vI (3 : Int32), vR ra1, vR ra7, vI (0 : Int32)] [(.ref ra6), (.int (0 : Int32))])) rfl (by rw [hml]; rfl) (Steps.refl _) (argsL := []) (rest := [(.int (0 : Int32))]) (lenOf pd_2 rfl) rfl (lb rfl) (hb hby d16_78) (fun _ _ => ⟨rfl, eq7, (lb rfl), (lb rfl)⟩)
  dsimp only [Pt.U, Pt.locs, Pt.cells, Pt.slots] at X8 l8 y8 z8 st8 hQ8
  subst l8 y8 z8
  obtain ⟨rfl, Nq8, eq8⟩ := hQ8
  have N8 := Fr.app N7 Nq8
  refine ot T8 (mkF m 81 #[vR ra0, vI (1 : Int32), vI (0 : Int32), vR ra6, vI (0 : Int32), vI (3 : Int32), vR ra1, vR ra7, vI (0 : Int32)] [(.int (0 : Int32)), (.int (0 : Int32))]) st8 ?_
  refine og T8 (mkF m 98 #[vR ra0, vI (1 : Int32), vI (0 : Int32), vR ra6, vI (0 : Int32), vI (3 : Int32), vR ra1, vR ra7, vI (0 : Int32)] [(.int (3 : Int32)), (.int (0 : Int32)), (.ref ra7), (.int (0 : Int32)), (.ref ra1)]) (fun _ k => XS.icmpNo X8.here hx rfl (hb hby d16_81) rfl (teq (by decide : (0 : Int32) = (0 : Int32))).2 (XS.iload X8.here hx rfl (hb hby d16_84) rfl (XS.ifNo X8.here hx rfl (hb hby d16_86) rfl ((if0 _ _).trans (teq (by decide : (0 : Int32) = (0 : Int32))).2) (XS.aload X8.here hx rfl (hb hby d16_89) rfl rfl (XS.iloadN X8.here hx rfl (hb hby d16_91) rfl (XS.aload X8.here hx rfl (hb hby d16_92) rfl rfl (XS.iload X8.here hx rfl (hb hby d16_94) rfl (XS.iload X8.here hx rfl (hb hby d16_96) rfl k)))))))) ?_
  obtain ⟨_, _, ⟨T9, L9, k9, n9⟩, -, X9, ⟨Lc9, hQ9, l9, y9, z9⟩, st9⟩ := Jvm.LawKit.callS X8 hx (y := y4) hown (mvT hZ (own_w hw 104)) (mvT hZ (own_w hw 105)) (mvT hZ (own_w hw 106)) (mvT hZ (own_w hw 107)) (by decide) (backOf (W := 0) (rm17_49 l Z a0 hw ra1 kc2 ci3 ci4 ci5 ra7 kc8 ci9 ci10 ci11 h0 n0 OLD hl_ci3 hl_ci4 hl_ci5 V_ra1 hl_ci9 hl_ci10 hl_ci11 V_ra7) hZ (own_w hw 107) (own_w hw 106) (lb rfl) (lb rfl)) (g := (mkF m 98 #[vR ra0, vI (1 : Int32), vI (0 : Int32), vR ra6, vI (0 : Int32), vI (3 : Int32), vR ra1, vR ra7, vI (0 : Int32)] [(.int (3 : Int32)), (.int (0 : Int32)), (.ref ra7), (.int (0 : Int32)), (.ref ra1)])) rfl (by rw [hml]; rfl) (argsL := [(.ref ra1), (.int (0 : Int32)), (.ref ra7), (.int (0 : Int32)), (.int (3 : Int32))]) (rest := []) (lenOf pd_3 rfl) rfl (lb rfl) (hb hby d16_98) (fun _ _ => ⟨rfl, eq8, (lb rfl), (lb rfl)⟩)
  dsimp only [Pt.U, Pt.locs, Pt.cells, Pt.slots] at X9 l9 y9 z9 st9 hQ9
  subst l9 y9 z9
  obtain ⟨rfl, Nq9, eq9⟩ := hQ9
  have N9 := Fr.app N8 Nq9
  refine og T9 (mkF m 101 #[vR ra0, vI (1 : Int32), vI (0 : Int32), vR ra6, vI (0 : Int32), vI (3 : Int32), vR ra1, vR ra7, vI (0 : Int32)] [(.int (own_ica [ci3, ci4, ci5] [ci9, ci10, ci11]))]) st9 ?_
  refine og T9 (mkF m 116 #[vR ra0, vI (1 : Int32), vI (0 : Int32), vR ra6, vI (0 : Int32), vI (3 : Int32), vR ra1, vR ra7, vI (0 : Int32)] [(.int (own_ica [ci3, ci4, ci5] [ci9, ci10, ci11]))]) (fun _ k => XS.goto X9.here hx rfl (pc0 := 101) (pc' := 116) rfl (hb hby d16_101) (by decide) (by decide) k) ?_
  exact own_leaveN X9 hlk (v := some (.int (nar .boolean (own_ica [ci3, ci4, ci5] [ci9, ci10, ci11])))) (fun h => by rw [hret] at h; cases h) (lb rfl) (lb rfl) (by rw [eq9]; exact ⟨(by first | rfl | (exact congrArg (fun z => some (Value.int z)) (own_narb _ _)) | (simp [own_ica, own_narb, *]; done)), N9, rfl⟩) (fun fs hr => retN X9 hx (t := .boolean) hret (by simp) (hb hby d16_116) hr)
abbrev R11_46 : Room := { frames := 3, cells := 0, slots := 0, locals := 53 }
def Q11_46 (Z : State) (ra0 : Addr) (ra1 : Addr) (kc2 : ClassId) (ci3 : Int32) (ci4 : Int32) (ci5 : Int32) (ra6 : Addr) (ra7 : Addr) (kc8 : ClassId) (ci9 : Int32) (ci10 : Int32) (ci11 : Int32) (G1 : Int32) (h0 : Heap) (n0 : Nat) (v : Option Value) (h : Heap) (L : List Loc) : Prop := (v = some (.int (own_ica [ci3, ci4, ci5] [ci9, ci10, ci11])) ∧ Fr n0 L ∧ h = h0)
theorem rm11_46 (l : Launch) (Z : State) (a0 : Array Value) (hw : HW Z a0) (ra0 : Addr) (ra1 : Addr) (kc2 : ClassId) (ci3 : Int32) (ci4 : Int32) (ci5 : Int32) (ra6 : Addr) (ra7 : Addr) (kc8 : ClassId) (ci9 : Int32) (ci10 : Int32) (ci11 : Int32) (G1 : Int32) (h0 : Heap) (n0 : Nat) (OLD : Old Z n0 h0) (E_ra0 : Exa Z h0 ra0 "java/lang/String") (F_coder_ra0 : Fld Z h0 ra0 "java/lang/String" "coder" "B" (.int (0 : Int32))) (F_value_ra0 : Fld Z h0 ra0 "java/lang/String" "value" "[B" (.ref ra1)) (hl_ci3 : ¬ ci3 < 0 ∧ ¬ (255 : Int32) < ci3) (hl_ci4 : ¬ ci4 < 0 ∧ ¬ (255 : Int32) < ci4) (hl_ci5 : ¬ ci5 < 0 ∧ ¬ (255 : Int32) < ci5) (V_ra1 : Arv Z h0 ra1 kc2 .byte (3 : Int32) [(.int (ci3.toInt8.toInt32)), (.int (ci4.toInt8.toInt32)), (.int (ci5.toInt8.toInt32))] (.int (0 : Int32))) (E_ra6 : Exa Z h0 ra6 "java/lang/String") (F_coder_ra6 : Fld Z h0 ra6 "java/lang/String" "coder" "B" (.int (0 : Int32))) (F_value_ra6 : Fld Z h0 ra6 "java/lang/String" "value" "[B" (.ref ra7)) (hl_ci9 : ¬ ci9 < 0 ∧ ¬ (255 : Int32) < ci9) (hl_ci10 : ¬ ci10 < 0 ∧ ¬ (255 : Int32) < ci10) (hl_ci11 : ¬ ci11 < 0 ∧ ¬ (255 : Int32) < ci11) (V_ra7 : Arv Z h0 ra7 kc8 .byte (3 : Int32) [(.int (ci9.toInt8.toInt32)), (.int (ci10.toInt8.toInt32)), (.int (ci11.toInt8.toInt32))] (.int (0 : Int32))) (hk14 : ¬ (ra0 = ra6)) (O2 : Sta Z Z.heap "java/lang/String" "COMPACT_STRINGS" "Z" (.int G1)) (P5 : ¬ (G1 = (0 : Int32))) :
    own_CN l Z y6 jdk_42_method_70_code 2 (some .boolean) [] R11_46 #[(.ref ra0), (.ref ra6)] h0 (Q11_46 Z ra0 ra1 kc2 ci3 ci4 ci5 ra6 ra7 kc8 ci9 ci10 ci11 G1 h0 n0) := by
  refine own_entryN (plainFor_of_name pn_0) fun p e s m below meth c s₁ hx hby hml hown hnm hret hlk hZ hh X0 e0 => ?_
  have N0 := Fr.nil n0
  rw [ef_11_46 m ra0 ra6]
  refine og s₁ (mkF m 14 #[vR ra0, vR ra6] [(.ref ra6)]) (fun _ k => XS.aloadN X0.here hx rfl (hb hby d11_0) rfl rfl (XS.aloadN X0.here hx rfl (hb hby d11_1) rfl rfl (Jvm.RoadKit.acmp (g := (mkF m 2 #[vR ra0, vR ra6] [(.ref ra6), (.ref ra0)])) X0 hx rfl rfl rfl (pc0 := 2) (pc' := 9) (same := false) rfl (hb hby d11_2) rfl (decide_eq_false fun q => hk14 (Value.ref.inj q)) (by decide) (by decide) (XS.aloadN X0.here hx rfl (hb hby d11_9) rfl rfl (XS.ifnullNo X0.here hx rfl (hb hby d11_10) rfl (XS.aloadN X0.here hx rfl (hb hby d11_13) rfl rfl k)))))) ?_
  have hp1 : ∀ c ∈ ([ci9, ci10, ci11] : List Int32), ¬ c < 0 ∧ ¬ (255 : Int32) < c := by
    intro c hc
    simp only [List.mem_cons, List.not_mem_nil, or_false] at hc
    rcases hc with rfl | rfl | rfl
    · exact hl_ci9
    · exact hl_ci10
    · exact hl_ci11
  obtain ⟨cq2, kq2, q2a, q2b, q2c⟩ := isOf hZ e0 E_ra6
  obtain ⟨_, _, ⟨T2, L2, k2, n2⟩, -, X2, ⟨Lc2, hQ2, l2, y2, z2⟩, st2⟩ := X0.virtualBack hx (y := y2) (z := y2) hown (mvT hZ (own_w hw 70)) (mvT hZ (own_w hw 71)) (notFace_of_selects (args := #[]) (mvT hZ (own_w hw 73))) (mvT hZ (own_w hw 73)) (mvT hZ (own_w hw 72)) (by decide) (StrChars.Road.lenW (W := 0) hZ (own_hln hw) (kI := 4) (own_w hw 13) (cs := ([ci9, ci10, ci11] : List Int32)) E_ra6 F_value_ra6 F_coder_ra6 V_ra7 (StrChars.Road.codOf rfl (fun c hc => (hp1 c hc).2)) (own_up _ hp1) (O2.ext OLD.2) P5 (lb rfl) (lb rfl) (lb rfl)) q2a q2c (g := (mkF m 14 #[vR ra0, vR ra6] [(.ref ra6)])) rfl (by rw [hml]; rfl) (Steps.refl _) (argsL := []) (rest := []) (lenOf pd_1 rfl) rfl (lb rfl) (hb hby d11_14) (fun _ _ => ⟨rfl, e0, (lb rfl), (lb rfl)⟩)
  dsimp only [Pt.U, Pt.locs, Pt.cells, Pt.slots] at X2 l2 y2 z2 st2 hQ2
  subst l2 y2 z2
  obtain ⟨rfl, rfl, eq2⟩ := hQ2
  have N2 := Fr.app N0 (Fr.nil n0)
  refine ot T2 (mkF m 17 #[vR ra0, vR ra6] [(.int (3 : Int32))]) st2 ?_
  refine og T2 (mkF m 18 #[vR ra0, vR ra6] [(.ref ra0), (.int (3 : Int32))]) (fun _ k => XS.aloadN X2.here hx rfl (hb hby d11_17) rfl rfl k) ?_
  have hp3 : ∀ c ∈ ([ci3, ci4, ci5] : List Int32), ¬ c < 0 ∧ ¬ (255 : Int32) < c := by
    intro c hc
    simp only [List.mem_cons, List.not_mem_nil, or_false] at hc
    rcases hc with rfl | rfl | rfl
    · exact hl_ci3
    · exact hl_ci4
    · exact hl_ci5
  obtain ⟨cq4, kq4, q4a, q4b, q4c⟩ := isOf hZ eq2 E_ra0
  obtain ⟨_, _, ⟨T4, L4, k4, n4⟩, -, X4, ⟨Lc4, hQ4, l4, y4, z4⟩, st4⟩ := X2.virtualBack hx (y := y2) (z := y2) hown (mvT hZ (own_w hw 70)) (mvT hZ (own_w hw 71)) (notFace_of_selects (args := #[]) (mvT hZ (own_w hw 73))) (mvT hZ (own_w hw 73)) (mvT hZ (own_w hw 72)) (by decide) (StrChars.Road.lenW (W := 1) hZ (own_hln hw) (kI := 4) (own_w hw 13) (cs := ([ci3, ci4, ci5] : List Int32)) E_ra0 F_value_ra0 F_coder_ra0 V_ra1 (StrChars.Road.codOf rfl (fun c hc => (hp3 c hc).2)) (own_up _ hp3) (O2.ext OLD.2) P5 (lb rfl) (lb rfl) (lb rfl)) q4a q4c (g := (mkF m 18 #[vR ra0, vR ra6] [(.ref ra0), (.int (3 : Int32))])) rfl (by rw [hml]; rfl) (Steps.refl _) (argsL := []) (rest := [(.int (3 : Int32))]) (lenOf pd_1 rfl) rfl (lb rfl) (hb hby d11_18) (fun _ _ => ⟨rfl, eq2, (lb rfl), (lb rfl)⟩)
  dsimp only [Pt.U, Pt.locs, Pt.cells, Pt.slots] at X4 l4 y4 z4 st4 hQ4
  subst l4 y4 z4
  obtain ⟨rfl, rfl, eq4⟩ := hQ4
  have N4 := Fr.app N2 (Fr.nil n0)
  refine ot T4 (mkF m 21 #[vR ra0, vR ra6] [(.int (3 : Int32)), (.int (3 : Int32))]) st4 ?_
  refine og T4 (mkF m 30 #[vR ra0, vR ra6] [(.ref ra0), (.int (0 : Int32)), (.ref ra6), (.int (0 : Int32)), (.int (1 : Int32)), (.ref ra0)]) (fun _ k => XS.icmpNo X4.here hx rfl (hb hby d11_21) rfl (teq (by decide : (3 : Int32) = (3 : Int32))).2 (XS.aloadN X4.here hx rfl (hb hby d11_24) rfl rfl (XS.iconst X4.here hx rfl (hb hby d11_25) (XS.iconst X4.here hx rfl (hb hby d11_26) (XS.aloadN X4.here hx rfl (hb hby d11_27) rfl rfl (XS.iconst X4.here hx rfl (hb hby d11_28) (XS.aloadN X4.here hx rfl (hb hby d11_29) rfl rfl k))))))) ?_
  obtain ⟨cq5, kq5, q5a, q5b, q5c⟩ := isOf hZ eq4 E_ra0
  obtain ⟨_, _, ⟨T5, L5, k5, n5⟩, -, X5, ⟨Lc5, hQ5, l5, y5, z5⟩, st5⟩ := X4.virtualBack hx (y := y2) (z := y2) hown (mvT hZ (own_w hw 70)) (mvT hZ (own_w hw 71)) (notFace_of_selects (args := #[]) (mvT hZ (own_w hw 73))) (mvT hZ (own_w hw 73)) (mvT hZ (own_w hw 72)) (by decide) (StrChars.Road.lenW (W := 5) hZ (own_hln hw) (kI := 4) (own_w hw 13) (cs := ([ci3, ci4, ci5] : List Int32)) E_ra0 F_value_ra0 F_coder_ra0 V_ra1 (StrChars.Road.codOf rfl (fun c hc => (hp3 c hc).2)) (own_up _ hp3) (O2.ext OLD.2) P5 (lb rfl) (lb rfl) (lb rfl)) q5a q5c (g := (mkF m 30 #[vR ra0, vR ra6] [(.ref ra0), (.int (0 : Int32)), (.ref ra6), (.int (0 : Int32)), (.int (1 : Int32)), (.ref ra0)])) rfl (by rw [hml]; rfl) (Steps.refl _) (argsL := []) (rest := [(.int (0 : Int32)), (.ref ra6), (.int (0 : Int32)), (.int (1 : Int32)), (.ref ra0)]) (lenOf pd_1 rfl) rfl (lb rfl) (hb hby d11_30) (fun _ _ => ⟨rfl, eq4, (lb rfl), (lb rfl)⟩)
  dsimp only [Pt.U, Pt.locs, Pt.cells, Pt.slots] at X5 l5 y5 z5 st5 hQ5
  subst l5 y5 z5
  obtain ⟨rfl, rfl, eq5⟩ := hQ5
  have N5 := Fr.app N4 (Fr.nil n0)
  refine ot T5 (mkF m 33 #[vR ra0, vR ra6] [(.int (3 : Int32)), (.int (0 : Int32)), (.ref ra6), (.int (0 : Int32)), (.int (1 : Int32)), (.ref ra0)]) st5 ?_
  obtain ⟨cq6, kq6, q6a, q6b, q6c⟩ := isOf hZ eq5 E_ra0
  obtain ⟨_, _, ⟨T6, L6, k6, n6⟩, -, X6, ⟨Lc6, hQ6, l6, y6, z6⟩, st6⟩ := X5.virtualBack hx (y := y5) (z := y5) hown (mvT hZ (own_w hw 99)) (mvT hZ (own_w hw 100)) (notFace_of_selects (args := #[]) (mvT hZ (own_w hw 102))) (mvT hZ (own_w hw 102)) (mvT hZ (own_w hw 101)) (by decide) (backOf (W := 0) (rm16_47 l Z a0 hw ra0 ra1 kc2 ci3 ci4 ci5 ra6 ra7 kc8 ci9 ci10 ci11 G1 h0 n0 OLD E_ra0 F_coder_ra0 F_value_ra0 hl_ci3 hl_ci4 hl_ci5 V_ra1 E_ra6 F_coder_ra6 F_value_ra6 hl_ci9 hl_ci10 hl_ci11 V_ra7 O2 P5) hZ (own_w hw 103) (own_w hw 14) (lb rfl) (lb rfl)) q6a q6c (g := (mkF m 33 #[vR ra0, vR ra6] [(.int (3 : Int32)), (.int (0 : Int32)), (.ref ra6), (.int (0 : Int32)), (.int (1 : Int32)), (.ref ra0)])) rfl (by rw [hml]; rfl) (Steps.refl _) (argsL := [(.int (1 : Int32)), (.int (0 : Int32)), (.ref ra6), (.int (0 : Int32)), (.int (3 : Int32))]) (rest := []) (lenOf pd_4 rfl) rfl (lb rfl) (hb hby d11_33) (fun _ _ => ⟨rfl, eq5, (lb rfl), (lb rfl)⟩)
  dsimp only [Pt.U, Pt.locs, Pt.cells, Pt.slots] at X6 l6 y6 z6 st6 hQ6
  subst l6 y6 z6
  obtain ⟨rfl, Nq6, eq6⟩ := hQ6
  have N6 := Fr.app N5 Nq6
  refine ot T6 (mkF m 36 #[vR ra0, vR ra6] [(.int (own_ica [ci3, ci4, ci5] [ci9, ci10, ci11]))]) st6 ?_
  by_cases hc7 : (own_ica [ci3, ci4, ci5] [ci9, ci10, ci11]) = (0 : Int32)
  · refine og T6 (mkF m 44 #[vR ra0, vR ra6] [(.int (0 : Int32))]) (fun _ k => XS.ifYes X6.here hx rfl (pc0 := 36) (pc' := 43) rfl (hb hby d11_36) rfl ((if0 _ _).trans (teq hc7).1) (by decide) (by decide) (XS.iconst X6.here hx rfl (hb hby d11_43) k)) ?_
    exact own_leaveN X6 hlk (v := some (.int (nar .boolean (0 : Int32)))) (fun h => by rw [hret] at h; cases h) (lb rfl) (lb rfl) (by rw [eq6]; exact ⟨(by show some (Value.int (0 : Int32)) = _; exact congrArg (fun z => some (Value.int z)) (hc7).symm), N6, rfl⟩) (fun fs hr => retN X6 hx (t := .boolean) hret (by simp) (hb hby d11_44) hr)
  · refine og T6 (mkF m 44 #[vR ra0, vR ra6] [(.int (1 : Int32))]) (fun _ k => XS.ifNo X6.here hx rfl (hb hby d11_36) rfl ((if0 _ _).trans (feq hc7).1) (XS.iconst X6.here hx rfl (hb hby d11_39) (XS.goto X6.here hx rfl (pc0 := 40) (pc' := 44) rfl (hb hby d11_40) (by decide) (by decide) k))) ?_
    exact own_leaveN X6 hlk (v := some (.int (nar .boolean (1 : Int32)))) (fun h => by rw [hret] at h; cases h) (lb rfl) (lb rfl) (by rw [eq6]; exact ⟨(by show some (Value.int (1 : Int32)) = _; exact congrArg (fun z => some (Value.int z)) ((own_ica01 _ _).resolve_left hc7).symm), N6, rfl⟩) (fun fs hr => retN X6 hx (t := .boolean) hret (by simp) (hb hby d11_44) hr)
abbrev R10_45 : Room := { frames := 5, cells := 0, slots := 0, locals := 100 }
def Q10_45 (Z : State) (ra0 : Addr) (ra1 : Addr) (ra2 : Addr) (rt2 : Addr) (ra3 : Addr) (rt3 : Addr) (kc2 : ClassId) (kc3 : ClassId) (ca0 : Int32) (ca1 : Int32) (ca2 : Int32) (cb0 : Int32) (cb1 : Int32) (cb2 : Int32) (kw0 : Addr) (G1 : Int32) (kw5 : Addr) (h0 : Heap) (n0 : Nat) (v : Option Value) (h : Heap) (L : List Loc) : Prop := (v = some (.int (own_isv ra1 kw0 kw5 (own_ica [ca0, ca1, ca2] [cb0, cb1, cb2]))) ∧ Fr n0 L ∧ h = h0)
theorem rm10_45 (l : Launch) (Z : State) (a0 : Array Value) (hw : HW Z a0) (ra0 : Addr) (ra1 : Addr) (ra2 : Addr) (rt2 : Addr) (ra3 : Addr) (rt3 : Addr) (kc2 : ClassId) (kc3 : ClassId) (ca0 : Int32) (ca1 : Int32) (ca2 : Int32) (cb0 : Int32) (cb1 : Int32) (cb2 : Int32) (kw0 : Addr) (G1 : Int32) (kw5 : Addr) (h0 : Heap) (n0 : Nat) (OLD : Old Z n0 h0) (E_ra0 : Exa Z h0 ra0 "com/example/agave/agave/query/Tokens$Token") (F_kind_ra0 : Fld Z h0 ra0 "com/example/agave/agave/query/Tokens$Token" "kind" "Lcom/example/agave/agave/query/Tokens$Kind;" (.ref ra1)) (F_text_ra0 : Fld Z h0 ra0 "com/example/agave/agave/query/Tokens$Token" "text" "Ljava/lang/String;" (.ref ra2)) (E_ra2 : Exa Z h0 ra2 "java/lang/String") (F_coder_ra2 : Fld Z h0 ra2 "java/lang/String" "coder" "B" (.int (0 : Int32))) (F_value_ra2 : Fld Z h0 ra2 "java/lang/String" "value" "[B" (.ref rt2)) (V_rt2 : Arv Z h0 rt2 kc2 .byte (3 : Int32) [(.int (ca0.toInt8.toInt32)), (.int (ca1.toInt8.toInt32)), (.int (ca2.toInt8.toInt32))] (.int (0 : Int32))) (E_ra3 : Exa Z h0 ra3 "java/lang/String") (F_coder_ra3 : Fld Z h0 ra3 "java/lang/String" "coder" "B" (.int (0 : Int32))) (F_value_ra3 : Fld Z h0 ra3 "java/lang/String" "value" "[B" (.ref rt3)) (V_rt3 : Arv Z h0 rt3 kc3 .byte (3 : Int32) [(.int (cb0.toInt8.toInt32)), (.int (cb1.toInt8.toInt32)), (.int (cb2.toInt8.toInt32))] (.int (0 : Int32))) (hl_ca0 : ¬ ca0 < 0 ∧ ¬ (255 : Int32) < ca0) (hl_ca1 : ¬ ca1 < 0 ∧ ¬ (255 : Int32) < ca1) (hl_ca2 : ¬ ca2 < 0 ∧ ¬ (255 : Int32) < ca2) (hl_cb0 : ¬ cb0 < 0 ∧ ¬ (255 : Int32) < cb0) (hl_cb1 : ¬ cb1 < 0 ∧ ¬ (255 : Int32) < cb1) (hl_cb2 : ¬ cb2 < 0 ∧ ¬ (255 : Int32) < cb2) (hk17 : ¬ (ra2 = ra3)) (SK0 : Sta Z Z.heap "com/example/agave/agave/query/Tokens$Kind" "WORD" "Lcom/example/agave/agave/query/Tokens$Kind;" (.ref kw0)) (EK0 : Exa Z Z.heap kw0 "com/example/agave/agave/query/Tokens$Kind") (O2 : Sta Z Z.heap "java/lang/String" "COMPACT_STRINGS" "Z" (.int G1)) (P5 : ¬ (G1 = (0 : Int32))) (SK5 : Sta Z Z.heap "com/example/agave/agave/query/Tokens$Kind" "SYMBOL" "Lcom/example/agave/agave/query/Tokens$Kind;" (.ref kw5)) (EK5 : Exa Z Z.heap kw5 "com/example/agave/agave/query/Tokens$Kind") :
    own_CN l Z y7 prog_6_method_6_code 2 (some .boolean) [] R10_45 #[(.ref ra0), (.ref ra3)] h0 (Q10_45 Z ra0 ra1 ra2 rt2 ra3 rt3 kc2 kc3 ca0 ca1 ca2 cb0 cb1 cb2 kw0 G1 kw5 h0 n0) := by
  refine own_entryN (plainFor_of_name pn_2) fun p e s m below meth c s₁ hx hby hml hown hnm hret hlk hZ hh X0 e0 => ?_
  have N0 := Fr.nil n0
  rw [ef_10_45 m ra0 ra3]
  refine og s₁ (mkF m 1 #[vR ra0, vR ra3] [(.ref ra0)]) (fun _ k => XS.aloadN X0.here hx rfl (hb hby d10_0) rfl rfl k) ?_
  obtain ⟨T1, X1, e1, st1⟩ := getF X0 hx hZ hown (host := "") (Or.inl (own_w hw 51)) Via.refl e0 F_kind_ra0 (g := (mkF m 1 #[vR ra0, vR ra3] [(.ref ra0)])) rfl rfl (hb hby d10_1)
  refine og T1 (mkF m 4 #[vR ra0, vR ra3] [(.ref ra1)]) st1 ?_
  obtain ⟨T2, X2, e2, st2⟩ := getS2 X1 hx hZ hown (host := "") (Or.inl (own_w hw 64)) Via.refl e1 (SK0.ext OLD.2) (g := (mkF m 4 #[vR ra0, vR ra3] [(.ref ra1)])) rfl (hb hby d10_4)
  refine og T2 (mkF m 7 #[vR ra0, vR ra3] [(.ref kw0), (.ref ra1)]) st2 ?_
  by_cases hc3 : ra1 = kw0
  · refine og T2 (mkF m 21 #[vR ra0, vR ra3] [(.ref ra0)]) (fun _ k => Jvm.RoadKit.acmp (g := (mkF m 7 #[vR ra0, vR ra3] [(.ref kw0), (.ref ra1)])) X2 hx rfl rfl rfl (pc0 := 7) (pc' := 20) (same := true) rfl (hb hby d10_7) rfl (decide_eq_true (congrArg Value.ref hc3)) (by decide) (by decide) (XS.aloadN X2.here hx rfl (hb hby d10_20) rfl rfl k)) ?_
    obtain ⟨T4, X4, e4, st4⟩ := getF X2 hx hZ hown (host := "") (Or.inl (own_w hw 53)) Via.refl e2 F_text_ra0 (g := (mkF m 21 #[vR ra0, vR ra3] [(.ref ra0)])) rfl rfl (hb hby d10_21)
    refine og T4 (mkF m 24 #[vR ra0, vR ra3] [(.ref ra2)]) st4 ?_
    refine og T4 (mkF m 25 #[vR ra0, vR ra3] [(.ref ra3), (.ref ra2)]) (fun _ k => XS.aloadN X4.here hx rfl (hb hby d10_24) rfl rfl k) ?_
    obtain ⟨cq5, kq5, q5a, q5b, q5c⟩ := isOf hZ e4 E_ra2
    obtain ⟨_, _, ⟨T5, L5, k5, n5⟩, -, X5, ⟨Lc5, hQ5, l5, y5, z5⟩, st5⟩ := X4.virtualBack hx (y := y6) (z := y6) hown (mvT hZ (own_w hw 65)) (mvT hZ (own_w hw 66)) (notFace_of_selects (args := #[]) (mvT hZ (own_w hw 68))) (mvT hZ (own_w hw 68)) (mvT hZ (own_w hw 67)) (by decide) (backOf (W := 0) (rm11_46 l Z a0 hw ra2 rt2 kc2 ca0 ca1 ca2 ra3 rt3 kc3 cb0 cb1 cb2 G1 h0 n0 OLD E_ra2 F_coder_ra2 F_value_ra2 hl_ca0 hl_ca1 hl_ca2 V_rt2 E_ra3 F_coder_ra3 F_value_ra3 hl_cb0 hl_cb1 hl_cb2 V_rt3 hk17 O2 P5) hZ (own_w hw 69) (own_w hw 14) (lb rfl) (lb rfl)) q5a q5c (g := (mkF m 25 #[vR ra0, vR ra3] [(.ref ra3), (.ref ra2)])) rfl (by rw [hml]; rfl) (Steps.refl _) (argsL := [(.ref ra3)]) (rest := []) (lenOf pd_5 rfl) rfl (lb rfl) (hb hby d10_25) (fun _ _ => ⟨rfl, e4, (lb rfl), (lb rfl)⟩)
    dsimp only [Pt.U, Pt.locs, Pt.cells, Pt.slots] at X5 l5 y5 z5 st5 hQ5
    subst l5 y5 z5
    obtain ⟨rfl, Nq5, eq5⟩ := hQ5
    have N5 := Fr.app N0 Nq5
    refine ot T5 (mkF m 28 #[vR ra0, vR ra3] [(.int (own_ica [ca0, ca1, ca2] [cb0, cb1, cb2]))]) st5 ?_
    by_cases hc6 : (own_ica [ca0, ca1, ca2] [cb0, cb1, cb2]) = (0 : Int32)
    · refine og T5 (mkF m 36 #[vR ra0, vR ra3] [(.int (0 : Int32))]) (fun _ k => XS.ifYes X5.here hx rfl (pc0 := 28) (pc' := 35) rfl (hb hby d10_28) rfl ((if0 _ _).trans (teq hc6).1) (by decide) (by decide) (XS.iconst X5.here hx rfl (hb hby d10_35) k)) ?_
      exact own_leaveN X5 hlk (v := some (.int (nar .boolean (0 : Int32)))) (fun h => by rw [hret] at h; cases h) (lb rfl) (lb rfl) (by rw [eq5]; exact ⟨(by show some (Value.int (0 : Int32)) = _; exact congrArg (fun z => some (Value.int z)) (Eq.symm (Eq.trans (if_pos hc3) (hc6)))), N5, rfl⟩) (fun fs hr => retN X5 hx (t := .boolean) hret (by simp) (hb hby d10_36) hr)
    · refine og T5 (mkF m 36 #[vR ra0, vR ra3] [(.int (1 : Int32))]) (fun _ k => XS.ifNo X5.here hx rfl (hb hby d10_28) rfl ((if0 _ _).trans (feq hc6).1) (XS.iconst X5.here hx rfl (hb hby d10_31) (XS.goto X5.here hx rfl (pc0 := 32) (pc' := 36) rfl (hb hby d10_32) (by decide) (by decide) k))) ?_
      exact own_leaveN X5 hlk (v := some (.int (nar .boolean (1 : Int32)))) (fun h => by rw [hret] at h; cases h) (lb rfl) (lb rfl) (by rw [eq5]; exact ⟨(by show some (Value.int (1 : Int32)) = _; exact congrArg (fun z => some (Value.int z)) (Eq.symm (Eq.trans (if_pos hc3) ((own_ica01 _ _).resolve_left hc6)))), N5, rfl⟩) (fun fs hr => retN X5 hx (t := .boolean) hret (by simp) (hb hby d10_36) hr)
  · refine og T2 (mkF m 11 #[vR ra0, vR ra3] [(.ref ra0)]) (fun _ k => Jvm.RoadKit.acmp (g := (mkF m 7 #[vR ra0, vR ra3] [(.ref kw0), (.ref ra1)])) X2 hx rfl rfl rfl (pc0 := 7) (pc' := 10) (same := false) rfl (hb hby d10_7) rfl (decide_eq_false fun q => hc3 (Value.ref.inj q)) (by decide) (by decide) (XS.aloadN X2.here hx rfl (hb hby d10_10) rfl rfl k)) ?_
    obtain ⟨T7, X7, e7, st7⟩ := getF X2 hx hZ hown (host := "") (Or.inl (own_w hw 51)) Via.refl e2 F_kind_ra0 (g := (mkF m 11 #[vR ra0, vR ra3] [(.ref ra0)])) rfl rfl (hb hby d10_11)
    refine og T7 (mkF m 14 #[vR ra0, vR ra3] [(.ref ra1)]) st7 ?_
    obtain ⟨T8, X8, e8, st8⟩ := getS2 X7 hx hZ hown (host := "") (Or.inl (own_w hw 82)) Via.refl e7 (SK5.ext OLD.2) (g := (mkF m 14 #[vR ra0, vR ra3] [(.ref ra1)])) rfl (hb hby d10_14)
    refine og T8 (mkF m 17 #[vR ra0, vR ra3] [(.ref kw5), (.ref ra1)]) st8 ?_
    by_cases hc9 : ra1 = kw5
    · refine og T8 (mkF m 21 #[vR ra0, vR ra3] [(.ref ra0)]) (fun _ k => Jvm.RoadKit.acmp (g := (mkF m 17 #[vR ra0, vR ra3] [(.ref kw5), (.ref ra1)])) X8 hx rfl rfl rfl (pc0 := 17) (pc' := 20) (same := true) rfl (hb hby d10_17) rfl (decide_eq_true (congrArg Value.ref hc9)) (by decide) (by decide) (XS.aloadN X8.here hx rfl (hb hby d10_20) rfl rfl k)) ?_
      obtain ⟨T10, X10, e10, st10⟩ := getF X8 hx hZ hown (host := "") (Or.inl (own_w hw 53)) Via.refl e8 F_text_ra0 (g := (mkF m 21 #[vR ra0, vR ra3] [(.ref ra0)])) rfl rfl (hb hby d10_21)
      refine og T10 (mkF m 24 #[vR ra0, vR ra3] [(.ref ra2)]) st10 ?_
      refine og T10 (mkF m 25 #[vR ra0, vR ra3] [(.ref ra3), (.ref ra2)]) (fun _ k => XS.aloadN X10.here hx rfl (hb hby d10_24) rfl rfl k) ?_
      obtain ⟨cq11, kq11, q11a, q11b, q11c⟩ := isOf hZ e10 E_ra2
      obtain ⟨_, _, ⟨T11, L11, k11, n11⟩, -, X11, ⟨Lc11, hQ11, l11, y11, z11⟩, st11⟩ := X10.virtualBack hx (y := y6) (z := y6) hown (mvT hZ (own_w hw 65)) (mvT hZ (own_w hw 66)) (notFace_of_selects (args := #[]) (mvT hZ (own_w hw 68))) (mvT hZ (own_w hw 68)) (mvT hZ (own_w hw 67)) (by decide) (backOf (W := 0) (rm11_46 l Z a0 hw ra2 rt2 kc2 ca0 ca1 ca2 ra3 rt3 kc3 cb0 cb1 cb2 G1 h0 n0 OLD E_ra2 F_coder_ra2 F_value_ra2 hl_ca0 hl_ca1 hl_ca2 V_rt2 E_ra3 F_coder_ra3 F_value_ra3 hl_cb0 hl_cb1 hl_cb2 V_rt3 hk17 O2 P5) hZ (own_w hw 69) (own_w hw 14) (lb rfl) (lb rfl)) q11a q11c (g := (mkF m 25 #[vR ra0, vR ra3] [(.ref ra3), (.ref ra2)])) rfl (by rw [hml]; rfl) (Steps.refl _) (argsL := [(.ref ra3)]) (rest := []) (lenOf pd_5 rfl) rfl (lb rfl) (hb hby d10_25) (fun _ _ => ⟨rfl, e10, (lb rfl), (lb rfl)⟩)
      dsimp only [Pt.U, Pt.locs, Pt.cells, Pt.slots] at X11 l11 y11 z11 st11 hQ11
      subst l11 y11 z11
      obtain ⟨rfl, Nq11, eq11⟩ := hQ11
      have N11 := Fr.app N0 Nq11
      refine ot T11 (mkF m 28 #[vR ra0, vR ra3] [(.int (own_ica [ca0, ca1, ca2] [cb0, cb1, cb2]))]) st11 ?_
      by_cases hc12 : (own_ica [ca0, ca1, ca2] [cb0, cb1, cb2]) = (0 : Int32)
      · refine og T11 (mkF m 36 #[vR ra0, vR ra3] [(.int (0 : Int32))]) (fun _ k => XS.ifYes X11.here hx rfl (pc0 := 28) (pc' := 35) rfl (hb hby d10_28) rfl ((if0 _ _).trans (teq hc12).1) (by decide) (by decide) (XS.iconst X11.here hx rfl (hb hby d10_35) k)) ?_
        exact own_leaveN X11 hlk (v := some (.int (nar .boolean (0 : Int32)))) (fun h => by rw [hret] at h; cases h) (lb rfl) (lb rfl) (by rw [eq11]; exact ⟨(by show some (Value.int (0 : Int32)) = _; exact congrArg (fun z => some (Value.int z)) (Eq.symm (Eq.trans ((if_neg hc3).trans (if_pos hc9)) (hc12)))), N11, rfl⟩) (fun fs hr => retN X11 hx (t := .boolean) hret (by simp) (hb hby d10_36) hr)
      · refine og T11 (mkF m 36 #[vR ra0, vR ra3] [(.int (1 : Int32))]) (fun _ k => XS.ifNo X11.here hx rfl (hb hby d10_28) rfl ((if0 _ _).trans (feq hc12).1) (XS.iconst X11.here hx rfl (hb hby d10_31) (XS.goto X11.here hx rfl (pc0 := 32) (pc' := 36) rfl (hb hby d10_32) (by decide) (by decide) k))) ?_
        exact own_leaveN X11 hlk (v := some (.int (nar .boolean (1 : Int32)))) (fun h => by rw [hret] at h; cases h) (lb rfl) (lb rfl) (by rw [eq11]; exact ⟨(by show some (Value.int (1 : Int32)) = _; exact congrArg (fun z => some (Value.int z)) (Eq.symm (Eq.trans ((if_neg hc3).trans (if_pos hc9)) ((own_ica01 _ _).resolve_left hc12)))), N11, rfl⟩) (fun fs hr => retN X11 hx (t := .boolean) hret (by simp) (hb hby d10_36) hr)
    · refine og T8 (mkF m 36 #[vR ra0, vR ra3] [(.int (0 : Int32))]) (fun _ k => Jvm.RoadKit.acmp (g := (mkF m 17 #[vR ra0, vR ra3] [(.ref kw5), (.ref ra1)])) X8 hx rfl rfl rfl (pc0 := 17) (pc' := 35) (same := false) rfl (hb hby d10_17) rfl (decide_eq_false fun q => hc9 (Value.ref.inj q)) (by decide) (by decide) (XS.iconst X8.here hx rfl (hb hby d10_35) k)) ?_
      exact own_leaveN X8 hlk (v := some (.int (nar .boolean (0 : Int32)))) (fun h => by rw [hret] at h; cases h) (lb rfl) (lb rfl) (by rw [e8]; exact ⟨(by show some (Value.int (0 : Int32)) = _; exact congrArg (fun z => some (Value.int z)) (Eq.symm ((if_neg hc3).trans (if_neg hc9)))), N0, rfl⟩) (fun fs hr => retN X8 hx (t := .boolean) hret (by simp) (hb hby d10_36) hr)
abbrev R1_51 : Room := { frames := 0, cells := 0, slots := 0, locals := 0 }
def Q1_51 (Z : State) (pi0 : Int32) (kw0 : Addr) (kw1 : Addr) (kw2 : Addr) (kw3 : Addr) (kw4 : Addr) (kw5 : Addr) (kw6 : Addr) (h0 : Heap) (n0 : Nat) (v : Option Value) (h : Heap) (L : List Loc) : Prop := (v = some (.ref (own_kd pi0 kw0 kw1 kw2 kw3 kw4 kw5 kw6)) ∧ Fr n0 L ∧ h = h0)
theorem rm1_51 (l : Launch) (Z : State) (a0 : Array Value) (hw : HW Z a0) (pi0 : Int32) (kw0 : Addr) (kw1 : Addr) (kw2 : Addr) (kw3 : Addr) (kw4 : Addr) (kw5 : Addr) (kw6 : Addr) (h0 : Heap) (n0 : Nat) (OLD : Old Z n0 h0) (SK0 : Sta Z Z.heap "com/example/agave/agave/query/Tokens$Kind" "WORD" "Lcom/example/agave/agave/query/Tokens$Kind;" (.ref kw0)) (EK0 : Exa Z Z.heap kw0 "com/example/agave/agave/query/Tokens$Kind") (SK1 : Sta Z Z.heap "com/example/agave/agave/query/Tokens$Kind" "STRING" "Lcom/example/agave/agave/query/Tokens$Kind;" (.ref kw1)) (EK1 : Exa Z Z.heap kw1 "com/example/agave/agave/query/Tokens$Kind") (SK2 : Sta Z Z.heap "com/example/agave/agave/query/Tokens$Kind" "NUMBER" "Lcom/example/agave/agave/query/Tokens$Kind;" (.ref kw2)) (EK2 : Exa Z Z.heap kw2 "com/example/agave/agave/query/Tokens$Kind") (SK3 : Sta Z Z.heap "com/example/agave/agave/query/Tokens$Kind" "NAMED_PARAMETER" "Lcom/example/agave/agave/query/Tokens$Kind;" (.ref kw3)) (EK3 : Exa Z Z.heap kw3 "com/example/agave/agave/query/Tokens$Kind") (SK4 : Sta Z Z.heap "com/example/agave/agave/query/Tokens$Kind" "POSITIONAL_PARAMETER" "Lcom/example/agave/agave/query/Tokens$Kind;" (.ref kw4)) (EK4 : Exa Z Z.heap kw4 "com/example/agave/agave/query/Tokens$Kind") (SK5 : Sta Z Z.heap "com/example/agave/agave/query/Tokens$Kind" "SYMBOL" "Lcom/example/agave/agave/query/Tokens$Kind;" (.ref kw5)) (EK5 : Exa Z Z.heap kw5 "com/example/agave/agave/query/Tokens$Kind") (SK6 : Sta Z Z.heap "com/example/agave/agave/query/Tokens$Kind" "END" "Lcom/example/agave/agave/query/Tokens$Kind;" (.ref kw6)) (EK6 : Exa Z Z.heap kw6 "com/example/agave/agave/query/Tokens$Kind") :
    own_CN l Z y9 method_3_code 1 (some (.object "com/example/agave/agave/query/Tokens$Kind")) [] R1_51 #[(.int pi0)] h0 (Q1_51 Z pi0 kw0 kw1 kw2 kw3 kw4 kw5 kw6 h0 n0) := by
  refine own_entryN (plainFor_of_name pn_4) fun p e s m below meth c s₁ hx hby hml hown hnm hret hlk hZ hh X0 e0 => ?_
  have N0 := Fr.nil n0
  rw [ef_1_51 m pi0]
  refine og s₁ (mkF m 1 #[vI pi0] [(.int pi0)]) (fun _ k => XS.iloadN X0.here hx rfl (hb hby d1_0) rfl k) ?_
  by_cases hc1 : pi0 = (0 : Int32)
  · refine og s₁ (mkF m 4 #[vI pi0] []) (fun _ k => XS.ifNo X0.here hx rfl (hb hby d1_1) rfl ((if0 _ _).trans (teq hc1).2) k) ?_
    obtain ⟨T2, X2, e2, st2⟩ := getS2 X0 hx hZ hown (host := "") (Or.inl (own_w hw 5)) Via.refl e0 (SK0.ext OLD.2) (g := (mkF m 4 #[vI pi0] [])) rfl (hb hby d1_4)
    refine og T2 (mkF m 7 #[vI pi0] [(.ref kw0)]) st2 ?_
    exact own_leaveN X2 hlk (v := some (.ref kw0)) (fun h => by rw [hret] at h; cases h) (lb rfl) (lb rfl) (by rw [e2]; exact ⟨(by first | (simp only [own_kd, *, if_true, if_false, ite_true, ite_false, not_false_eq_true]; done) | (simp [own_kd, *]; done) | (simp only [own_kd]; (repeat (first | rw [if_pos (by assumption)] | rw [if_neg (by assumption)])) <;> rfl)), N0, rfl⟩) (fun fs hr => retOut X2 hx (t := (.object "com/example/agave/agave/query/Tokens$Kind")) hret rfl (Or.inr (Or.inr (Or.inr (Or.inr ⟨rfl, rfl, rfl⟩)))) (hb hby d1_7) hr)
  · refine og s₁ (mkF m 10 #[vI pi0] [(.int (1 : Int32)), (.int pi0)]) (fun _ k => XS.ifYes X0.here hx rfl (pc0 := 1) (pc' := 8) rfl (hb hby d1_1) rfl ((if0 _ _).trans (feq hc1).2) (by decide) (by decide) (XS.iloadN X0.here hx rfl (hb hby d1_8) rfl (XS.iconst X0.here hx rfl (hb hby d1_9) k))) ?_
    by_cases hc3 : pi0 = (1 : Int32)
    · refine og s₁ (mkF m 13 #[vI pi0] []) (fun _ k => XS.icmpNo X0.here hx rfl (hb hby d1_10) rfl (teq hc3).2 k) ?_
      obtain ⟨T4, X4, e4, st4⟩ := getS2 X0 hx hZ hown (host := "") (Or.inl (own_w hw 87)) Via.refl e0 (SK1.ext OLD.2) (g := (mkF m 13 #[vI pi0] [])) rfl (hb hby d1_13)
      refine og T4 (mkF m 16 #[vI pi0] [(.ref kw1)]) st4 ?_
      exact own_leaveN X4 hlk (v := some (.ref kw1)) (fun h => by rw [hret] at h; cases h) (lb rfl) (lb rfl) (by rw [e4]; exact ⟨(by first | (simp only [own_kd, *, if_true, if_false, ite_true, ite_false, not_false_eq_true]; done) | (simp [own_kd, *]; done) | (simp only [own_kd]; (repeat (first | rw [if_pos (by assumption)] | rw [if_neg (by assumption)])) <;> rfl)), N0, rfl⟩) (fun fs hr => retOut X4 hx (t := (.object "com/example/agave/agave/query/Tokens$Kind")) hret rfl (Or.inr (Or.inr (Or.inr (Or.inr ⟨rfl, rfl, rfl⟩)))) (hb hby d1_16) hr)
    · refine og s₁ (mkF m 19 #[vI pi0] [(.int (2 : Int32)), (.int pi0)]) (fun _ k => XS.icmpYes X0.here hx rfl (pc0 := 10) (pc' := 17) rfl (hb hby d1_10) rfl (feq hc3).2 (by decide) (by decide) (XS.iloadN X0.here hx rfl (hb hby d1_17) rfl (XS.iconst X0.here hx rfl (hb hby d1_18) k))) ?_
      by_cases hc5 : pi0 = (2 : Int32)
      · refine og s₁ (mkF m 22 #[vI pi0] []) (fun _ k => XS.icmpNo X0.here hx rfl (hb hby d1_19) rfl (teq hc5).2 k) ?_
        obtain ⟨T6, X6, e6, st6⟩ := getS2 X0 hx hZ hown (host := "") (Or.inl (own_w hw 85)) Via.refl e0 (SK2.ext OLD.2) (g := (mkF m 22 #[vI pi0] [])) rfl (hb hby d1_22)
        refine og T6 (mkF m 25 #[vI pi0] [(.ref kw2)]) st6 ?_
        exact own_leaveN X6 hlk (v := some (.ref kw2)) (fun h => by rw [hret] at h; cases h) (lb rfl) (lb rfl) (by rw [e6]; exact ⟨(by first | (simp only [own_kd, *, if_true, if_false, ite_true, ite_false, not_false_eq_true]; done) | (simp [own_kd, *]; done) | (simp only [own_kd]; (repeat (first | rw [if_pos (by assumption)] | rw [if_neg (by assumption)])) <;> rfl)), N0, rfl⟩) (fun fs hr => retOut X6 hx (t := (.object "com/example/agave/agave/query/Tokens$Kind")) hret rfl (Or.inr (Or.inr (Or.inr (Or.inr ⟨rfl, rfl, rfl⟩)))) (hb hby d1_25) hr)
      · refine og s₁ (mkF m 28 #[vI pi0] [(.int (3 : Int32)), (.int pi0)]) (fun _ k => XS.icmpYes X0.here hx rfl (pc0 := 19) (pc' := 26) rfl (hb hby d1_19) rfl (feq hc5).2 (by decide) (by decide) (XS.iloadN X0.here hx rfl (hb hby d1_26) rfl (XS.iconst X0.here hx rfl (hb hby d1_27) k))) ?_
        by_cases hc7 : pi0 = (3 : Int32)
        · refine og s₁ (mkF m 31 #[vI pi0] []) (fun _ k => XS.icmpNo X0.here hx rfl (hb hby d1_28) rfl (teq hc7).2 k) ?_
          obtain ⟨T8, X8, e8, st8⟩ := getS2 X0 hx hZ hown (host := "") (Or.inl (own_w hw 95)) Via.refl e0 (SK3.ext OLD.2) (g := (mkF m 31 #[vI pi0] [])) rfl (hb hby d1_31)
          refine og T8 (mkF m 34 #[vI pi0] [(.ref kw3)]) st8 ?_
          exact own_leaveN X8 hlk (v := some (.ref kw3)) (fun h => by rw [hret] at h; cases h) (lb rfl) (lb rfl) (by rw [e8]; exact ⟨(by first | (simp only [own_kd, *, if_true, if_false, ite_true, ite_false, not_false_eq_true]; done) | (simp [own_kd, *]; done) | (simp only [own_kd]; (repeat (first | rw [if_pos (by assumption)] | rw [if_neg (by assumption)])) <;> rfl)), N0, rfl⟩) (fun fs hr => retOut X8 hx (t := (.object "com/example/agave/agave/query/Tokens$Kind")) hret rfl (Or.inr (Or.inr (Or.inr (Or.inr ⟨rfl, rfl, rfl⟩)))) (hb hby d1_34) hr)
        · refine og s₁ (mkF m 37 #[vI pi0] [(.int (4 : Int32)), (.int pi0)]) (fun _ k => XS.icmpYes X0.here hx rfl (pc0 := 28) (pc' := 35) rfl (hb hby d1_28) rfl (feq hc7).2 (by decide) (by decide) (XS.iloadN X0.here hx rfl (hb hby d1_35) rfl (XS.iconst X0.here hx rfl (hb hby d1_36) k))) ?_
          by_cases hc9 : pi0 = (4 : Int32)
          · refine og s₁ (mkF m 40 #[vI pi0] []) (fun _ k => XS.icmpNo X0.here hx rfl (hb hby d1_37) rfl (teq hc9).2 k) ?_
            obtain ⟨T10, X10, e10, st10⟩ := getS2 X0 hx hZ hown (host := "") (Or.inl (own_w hw 80)) Via.refl e0 (SK4.ext OLD.2) (g := (mkF m 40 #[vI pi0] [])) rfl (hb hby d1_40)
            refine og T10 (mkF m 43 #[vI pi0] [(.ref kw4)]) st10 ?_
            exact own_leaveN X10 hlk (v := some (.ref kw4)) (fun h => by rw [hret] at h; cases h) (lb rfl) (lb rfl) (by rw [e10]; exact ⟨(by first | (simp only [own_kd, *, if_true, if_false, ite_true, ite_false, not_false_eq_true]; done) | (simp [own_kd, *]; done) | (simp only [own_kd]; (repeat (first | rw [if_pos (by assumption)] | rw [if_neg (by assumption)])) <;> rfl)), N0, rfl⟩) (fun fs hr => retOut X10 hx (t := (.object "com/example/agave/agave/query/Tokens$Kind")) hret rfl (Or.inr (Or.inr (Or.inr (Or.inr ⟨rfl, rfl, rfl⟩)))) (hb hby d1_43) hr)
          · refine og s₁ (mkF m 46 #[vI pi0] [(.int (5 : Int32)), (.int pi0)]) (fun _ k => XS.icmpYes X0.here hx rfl (pc0 := 37) (pc' := 44) rfl (hb hby d1_37) rfl (feq hc9).2 (by decide) (by decide) (XS.iloadN X0.here hx rfl (hb hby d1_44) rfl (XS.iconst X0.here hx rfl (hb hby d1_45) k))) ?_
            by_cases hc11 : pi0 = (5 : Int32)
            · refine og s₁ (mkF m 49 #[vI pi0] []) (fun _ k => XS.icmpNo X0.here hx rfl (hb hby d1_46) rfl (teq hc11).2 k) ?_
              obtain ⟨T12, X12, e12, st12⟩ := getS2 X0 hx hZ hown (host := "") (Or.inl (own_w hw 84)) Via.refl e0 (SK5.ext OLD.2) (g := (mkF m 49 #[vI pi0] [])) rfl (hb hby d1_49)
              refine og T12 (mkF m 52 #[vI pi0] [(.ref kw5)]) st12 ?_
              exact own_leaveN X12 hlk (v := some (.ref kw5)) (fun h => by rw [hret] at h; cases h) (lb rfl) (lb rfl) (by rw [e12]; exact ⟨(by first | (simp only [own_kd, *, if_true, if_false, ite_true, ite_false, not_false_eq_true]; done) | (simp [own_kd, *]; done) | (simp only [own_kd]; (repeat (first | rw [if_pos (by assumption)] | rw [if_neg (by assumption)])) <;> rfl)), N0, rfl⟩) (fun fs hr => retOut X12 hx (t := (.object "com/example/agave/agave/query/Tokens$Kind")) hret rfl (Or.inr (Or.inr (Or.inr (Or.inr ⟨rfl, rfl, rfl⟩)))) (hb hby d1_52) hr)
            · refine og s₁ (mkF m 53 #[vI pi0] []) (fun _ k => XS.icmpYes X0.here hx rfl (pc0 := 46) (pc' := 53) rfl (hb hby d1_46) rfl (feq hc11).2 (by decide) (by decide) k) ?_
              obtain ⟨T13, X13, e13, st13⟩ := getS2 X0 hx hZ hown (host := "") (Or.inl (own_w hw 97)) Via.refl e0 (SK6.ext OLD.2) (g := (mkF m 53 #[vI pi0] [])) rfl (hb hby d1_53)
              refine og T13 (mkF m 56 #[vI pi0] [(.ref kw6)]) st13 ?_
              exact own_leaveN X13 hlk (v := some (.ref kw6)) (fun h => by rw [hret] at h; cases h) (lb rfl) (lb rfl) (by rw [e13]; exact ⟨(by first | (simp only [own_kd, *, if_true, if_false, ite_true, ite_false, not_false_eq_true]; done) | (simp [own_kd, *]; done) | (simp only [own_kd]; (repeat (first | rw [if_pos (by assumption)] | rw [if_neg (by assumption)])) <;> rfl)), N0, rfl⟩) (fun fs hr => retOut X13 hx (t := (.object "com/example/agave/agave/query/Tokens$Kind")) hret rfl (Or.inr (Or.inr (Or.inr (Or.inr ⟨rfl, rfl, rfl⟩)))) (hb hby d1_56) hr)
abbrev R2_52 : Room := { frames := 0, cells := 0, slots := 0, locals := 0 }
def Q2_52 (Z : State) (pi0 : Int32) (pi1 : Int32) (pi2 : Int32) (h0 : Heap) (n0 : Nat) (v : Option Value) (h : Heap) (L : List Loc) : Prop := (v = some (.int (own_ac pi0 pi1 pi2)) ∧ Fr n0 L ∧ h = h0)
theorem rm2_52 (l : Launch) (Z : State) (a0 : Array Value) (hw : HW Z a0) (pi0 : Int32) (pi1 : Int32) (pi2 : Int32) (h0 : Heap) (n0 : Nat) (OLD : Old Z n0 h0) (hl0 : ¬ pi0 < 0 ∧ ¬ (255 : Int32) < pi0) (hl1 : ¬ pi1 < 0 ∧ ¬ (255 : Int32) < pi1) :
    own_CN l Z y10 method_4_code 3 (some .char) [] R2_52 #[(.int pi0), (.int pi1), (.int pi2)] h0 (Q2_52 Z pi0 pi1 pi2 h0 n0) := by
  refine own_entryN (plainFor_of_name pn_4) fun p e s m below meth c s₁ hx hby hml hown hnm hret hlk hZ hh X0 e0 => ?_
  have N0 := Fr.nil n0
  rw [ef_2_52 m pi0 pi1 pi2]
  refine og s₁ (mkF m 1 #[vI pi0, vI pi1, vI pi2] [(.int pi2)]) (fun _ k => XS.iloadN X0.here hx rfl (hb hby d2_0) rfl k) ?_
  by_cases hc1 : pi2 = (0 : Int32)
  · refine og s₁ (mkF m 5 #[vI pi0, vI pi1, vI pi2] [(.int pi0)]) (fun _ k => XS.ifNo X0.here hx rfl (hb hby d2_1) rfl ((if0 _ _).trans (teq hc1).2) (XS.iloadN X0.here hx rfl (hb hby d2_4) rfl k)) ?_
    exact own_leaveN X0 hlk (v := some (.int (nar .char pi0))) (fun h => by rw [hret] at h; cases h) (lb rfl) (lb rfl) (by rw [e0]; exact ⟨(by rw [show (nar .char pi0) = pi0 from (own_ncl hl0)]; first | (simp only [own_ac, *, if_true, if_false, ite_true, ite_false, not_false_eq_true]; done) | (simp [own_ac, *]; done) | (simp only [own_ac]; (repeat (first | rw [if_pos (by assumption)] | rw [if_neg (by assumption)])) <;> rfl)), N0, rfl⟩) (fun fs hr => retN X0 hx (t := .char) hret (by simp) (hb hby d2_5) hr)
  · refine og s₁ (mkF m 8 #[vI pi0, vI pi1, vI pi2] [(.int (1 : Int32)), (.int pi2)]) (fun _ k => XS.ifYes X0.here hx rfl (pc0 := 1) (pc' := 6) rfl (hb hby d2_1) rfl ((if0 _ _).trans (feq hc1).2) (by decide) (by decide) (XS.iloadN X0.here hx rfl (hb hby d2_6) rfl (XS.iconst X0.here hx rfl (hb hby d2_7) k))) ?_
    by_cases hc2 : pi2 = (1 : Int32)
    · refine og s₁ (mkF m 15 #[vI pi0, vI pi1, vI pi2] [(.int (pi0 ^^^ (32 : Int32)))]) (fun _ k => XS.icmpNo X0.here hx rfl (hb hby d2_8) rfl (teq hc2).2 (XS.iloadN X0.here hx rfl (hb hby d2_11) rfl (XS.bipush X0.here hx rfl (hb hby d2_12) (XS.ixor X0.here hx rfl (hb hby d2_14) rfl k)))) ?_
      refine og s₁ (mkF m 16 #[vI pi0, vI pi1, vI pi2] [(.int (pi0 ^^^ (32 : Int32)))]) (fun _ k => XS.i2c X0.here hx rfl (hb hby d2_15) rfl (by rw [show (pi0 ^^^ (32 : Int32)).toUInt32.toUInt16.toUInt32.toInt32 = (pi0 ^^^ (32 : Int32)) from (own_ncl (own_x32 hl0))]; exact k)) ?_
      exact own_leaveN X0 hlk (v := some (.int (nar .char (pi0 ^^^ (32 : Int32))))) (fun h => by rw [hret] at h; cases h) (lb rfl) (lb rfl) (by rw [e0]; exact ⟨(by rw [show (nar .char (pi0 ^^^ (32 : Int32))) = (pi0 ^^^ (32 : Int32)) from (own_ncl (own_x32 hl0))]; first | (simp only [own_ac, *, if_true, if_false, ite_true, ite_false, not_false_eq_true]; done) | (simp [own_ac, *]; done) | (simp only [own_ac]; (repeat (first | rw [if_pos (by assumption)] | rw [if_neg (by assumption)])) <;> rfl)), N0, rfl⟩) (fun fs hr => retN X0 hx (t := .char) hret (by simp) (hb hby d2_16) hr)
    · refine og s₁ (mkF m 19 #[vI pi0, vI pi1, vI pi2] [(.int (2 : Int32)), (.int pi2)]) (fun _ k => XS.icmpYes X0.here hx rfl (pc0 := 8) (pc' := 17) rfl (hb hby d2_8) rfl (feq hc2).2 (by decide) (by decide) (XS.iloadN X0.here hx rfl (hb hby d2_17) rfl (XS.iconst X0.here hx rfl (hb hby d2_18) k))) ?_
      by_cases hc3 : pi2 = (2 : Int32)
      · refine og s₁ (mkF m 23 #[vI pi0, vI pi1, vI pi2] [(.int pi1)]) (fun _ k => XS.icmpNo X0.here hx rfl (hb hby d2_19) rfl (teq hc3).2 (XS.iloadN X0.here hx rfl (hb hby d2_22) rfl k)) ?_
        refine og s₁ (mkF m 24 #[vI pi0, vI pi1, vI pi2] [(.int pi1)]) (fun _ k => XS.i2c X0.here hx rfl (hb hby d2_23) rfl (by rw [show pi1.toUInt32.toUInt16.toUInt32.toInt32 = pi1 from (own_ncl hl1)]; exact k)) ?_
        exact own_leaveN X0 hlk (v := some (.int (nar .char pi1))) (fun h => by rw [hret] at h; cases h) (lb rfl) (lb rfl) (by rw [e0]; exact ⟨(by rw [show (nar .char pi1) = pi1 from (own_ncl hl1)]; first | (simp only [own_ac, *, if_true, if_false, ite_true, ite_false, not_false_eq_true]; done) | (simp [own_ac, *]; done) | (simp only [own_ac]; (repeat (first | rw [if_pos (by assumption)] | rw [if_neg (by assumption)])) <;> rfl)), N0, rfl⟩) (fun fs hr => retN X0 hx (t := .char) hret (by simp) (hb hby d2_24) hr)
      · refine og s₁ (mkF m 28 #[vI pi0, vI pi1, vI pi2] [(.int (pi0 ^^^ (1 : Int32)))]) (fun _ k => XS.icmpYes X0.here hx rfl (pc0 := 19) (pc' := 25) rfl (hb hby d2_19) rfl (feq hc3).2 (by decide) (by decide) (XS.iloadN X0.here hx rfl (hb hby d2_25) rfl (XS.iconst X0.here hx rfl (hb hby d2_26) (XS.ixor X0.here hx rfl (hb hby d2_27) rfl k)))) ?_
        refine og s₁ (mkF m 29 #[vI pi0, vI pi1, vI pi2] [(.int (pi0 ^^^ (1 : Int32)))]) (fun _ k => XS.i2c X0.here hx rfl (hb hby d2_28) rfl (by rw [show (pi0 ^^^ (1 : Int32)).toUInt32.toUInt16.toUInt32.toInt32 = (pi0 ^^^ (1 : Int32)) from (own_ncl (own_x1 hl0))]; exact k)) ?_
        exact own_leaveN X0 hlk (v := some (.int (nar .char (pi0 ^^^ (1 : Int32))))) (fun h => by rw [hret] at h; cases h) (lb rfl) (lb rfl) (by rw [e0]; exact ⟨(by rw [show (nar .char (pi0 ^^^ (1 : Int32))) = (pi0 ^^^ (1 : Int32)) from (own_ncl (own_x1 hl0))]; first | (simp only [own_ac, *, if_true, if_false, ite_true, ite_false, not_false_eq_true]; done) | (simp [own_ac, *]; done) | (simp only [own_ac]; (repeat (first | rw [if_pos (by assumption)] | rw [if_neg (by assumption)])) <;> rfl)), N0, rfl⟩) (fun fs hr => retN X0 hx (t := .char) hret (by simp) (hb hby d2_29) hr)
abbrev R9_53 : Room := { frames := 1, cells := 0, slots := 0, locals := 12 }
def Q9_53 (Z : State) (ra0 : Addr) (ra1 : Addr) (ra2 : Addr) (ra3 : Addr) (kc4 : ClassId) (vs5 : List Value) (ci6 : Int32) (cv7 : Value) (ci8 : Int32) (h0 : Heap) (n0 : Nat) (v : Option Value) (h : Heap) (L : List Loc) : Prop := (v = none ∧ Fr n0 L ∧ Keep h0 h [ra0] ∧ Fld Z h ra0 "com/example/agave/agave/query/Tokens$Token" "kind" "Lcom/example/agave/agave/query/Tokens$Kind;" (.ref ra1) ∧ Fld Z h ra0 "com/example/agave/agave/query/Tokens$Token" "start" "I" (.int ci8) ∧ Fld Z h ra0 "com/example/agave/agave/query/Tokens$Token" "text" "Ljava/lang/String;" (.ref ra2) ∧ Fld Z h ra0 "com/example/agave/agave/query/Tokens$Token" "value" "Ljava/lang/Object;" cv7)
theorem rm9_53 (l : Launch) (Z : State) (a0 : Array Value) (hw : HW Z a0) (ra0 : Addr) (ra1 : Addr) (ra2 : Addr) (ra3 : Addr) (kc4 : ClassId) (vs5 : List Value) (ci6 : Int32) (cv7 : Value) (ci8 : Int32) (h0 : Heap) (n0 : Nat) (OLD : Old Z n0 h0) (E_ra0 : Exa Z h0 ra0 "com/example/agave/agave/query/Tokens$Token") (F_kind_ra0 : Fld Z h0 ra0 "com/example/agave/agave/query/Tokens$Token" "kind" "Lcom/example/agave/agave/query/Tokens$Kind;" .null) (F_start_ra0 : Fld Z h0 ra0 "com/example/agave/agave/query/Tokens$Token" "start" "I" (.int (0 : Int32))) (F_text_ra0 : Fld Z h0 ra0 "com/example/agave/agave/query/Tokens$Token" "text" "Ljava/lang/String;" .null) (F_value_ra0 : Fld Z h0 ra0 "com/example/agave/agave/query/Tokens$Token" "value" "Ljava/lang/Object;" .null) (E_ra1 : Exa Z h0 ra1 "com/example/agave/agave/query/Tokens$Kind") (E_ra2 : Exa Z h0 ra2 "java/lang/String") (F_coder_ra2 : Fld Z h0 ra2 "java/lang/String" "coder" "B" (.int (0 : Int32))) (F_value_ra2 : Fld Z h0 ra2 "java/lang/String" "value" "[B" (.ref ra3)) (V_ra3 : Arv Z h0 ra3 kc4 .byte ci6 vs5 (.int (0 : Int32))) (ge_ra0 : n0 ≤ ra0) (rf_cv7 : cv7.isRef = true) :
    own_CN l Z y11 prog_6_method_1_code 5 none [] R9_53 #[(.ref ra0), (.ref ra1), (.ref ra2), cv7, (.int ci8)] h0 (Q9_53 Z ra0 ra1 ra2 ra3 kc4 vs5 ci6 cv7 ci8 h0 n0) := by
  refine own_entryN (plainFor_of_name pn_2) fun p e s m below meth c s₁ hx hby hml hown hnm hret hlk hZ hh X0 e0 => ?_
  have N0 := Fr.nil n0
  rw [ef_9_53 m ra0 ra1 ra2 cv7 ci8 rf_cv7]
  refine og s₁ (mkF m 1 #[vR ra0, vR ra1, vR ra2, .val cv7, vI ci8] [(.ref ra0)]) (fun _ k => XS.aloadN X0.here hx rfl (hb hby d9_0) rfl rfl k) ?_
  obtain ⟨T1, X1, e1, st1⟩ := initO X0 hx hZ hown (own_w hw 50) (own_w hw 23) (own_w hw 24) e0 (g := (mkF m 1 #[vR ra0, vR ra1, vR ra2, .val cv7, vI ci8] [(.ref ra0)])) rfl (by rw [hml]; rfl) rfl (hb hby d9_1) (by decide) (W := 0) (lb rfl) (by decide)
  refine og T1 (mkF m 4 #[vR ra0, vR ra1, vR ra2, .val cv7, vI ci8] []) st1 ?_
  refine og T1 (mkF m 6 #[vR ra0, vR ra1, vR ra2, .val cv7, vI ci8] [(.ref ra1), (.ref ra0)]) (fun _ k => XS.aloadN X1.here hx rfl (hb hby d9_4) rfl rfl (XS.aloadN X1.here hx rfl (hb hby d9_5) rfl rfl k)) ?_
  obtain ⟨T2, h2, X2, e2, W2, st2⟩ := putF X1 hx hZ hown (host := "") (Or.inl (own_w hw 51)) Via.refl e1 F_kind_ra0 E_ra0 (Or.inr ⟨(own_w hw 52), rfl, hnm⟩) (own_w hw 45) (ty := (.object "com/example/agave/agave/query/Tokens$Kind")) (by decide) rfl rfl (g := (mkF m 6 #[vR ra0, vR ra1, vR ra2, .val cv7, vI ci8] [(.ref ra1), (.ref ra0)])) rfl rfl (hb hby d9_6)
  have Fw2 := F_kind_ra0.same W2
  have N2 := Fr.snoc X2 N0 ge_ra0
  refine og T2 (mkF m 9 #[vR ra0, vR ra1, vR ra2, .val cv7, vI ci8] []) st2 ?_
  refine og T2 (mkF m 11 #[vR ra0, vR ra1, vR ra2, .val cv7, vI ci8] [(.ref ra2), (.ref ra0)]) (fun _ k => XS.aloadN X2.here hx rfl (hb hby d9_9) rfl rfl (XS.aloadN X2.here hx rfl (hb hby d9_10) rfl rfl k)) ?_
  have F3 := (E_ra0.wr W2)
  have F4 := (F_text_ra0.other W2 (Or.inr (slot_ne (Or.inr (own_w hw 54)) (Or.inr (own_w hw 52)) (by decide) (t := (.object "java/lang/String")) (t' := (.object "com/example/agave/agave/query/Tokens$Kind")) (by decide) (by decide))))
  obtain ⟨T5, h5, X5, e5, W5, st5⟩ := putF X2 hx hZ hown (host := "") (Or.inl (own_w hw 53)) Via.refl e2 F4 F3 (Or.inr ⟨(own_w hw 54), rfl, hnm⟩) (own_w hw 45) (ty := (.object "java/lang/String")) (by decide) rfl rfl (g := (mkF m 11 #[vR ra0, vR ra1, vR ra2, .val cv7, vI ci8] [(.ref ra2), (.ref ra0)])) rfl rfl (hb hby d9_11)
  have Fw5 := F4.same W5
  have N5 := Fr.snoc X5 N2 ge_ra0
  refine og T5 (mkF m 14 #[vR ra0, vR ra1, vR ra2, .val cv7, vI ci8] []) st5 ?_
  refine og T5 (mkF m 16 #[vR ra0, vR ra1, vR ra2, .val cv7, vI ci8] [cv7, (.ref ra0)]) (fun _ k => XS.aloadN X5.here hx rfl (hb hby d9_14) rfl rfl (XS.aloadN X5.here hx rfl (hb hby d9_15) rfl rf_cv7 k)) ?_
  have F6 := (F3.wr W5)
  have F7 := ((F_value_ra0.other W2 (Or.inr (slot_ne (Or.inr (own_w hw 56)) (Or.inr (own_w hw 52)) (by decide) (t := (.object "java/lang/Object")) (t' := (.object "com/example/agave/agave/query/Tokens$Kind")) (by decide) (by decide)))).other W5 (Or.inr (slot_ne (Or.inr (own_w hw 56)) (Or.inr (own_w hw 54)) (by decide) (t := (.object "java/lang/Object")) (t' := (.object "java/lang/String")) (by decide) (by decide))))
  obtain ⟨T8, h8, X8, e8, W8, st8⟩ := putF X5 hx hZ hown (host := "") (Or.inl (own_w hw 55)) Via.refl e5 F7 F6 (Or.inr ⟨(own_w hw 56), rfl, hnm⟩) (own_w hw 45) (ty := (.object "java/lang/Object")) (by decide) (own_nx rf_cv7) (own_fx rf_cv7) (g := (mkF m 16 #[vR ra0, vR ra1, vR ra2, .val cv7, vI ci8] [cv7, (.ref ra0)])) rfl rfl (hb hby d9_16)
  have Fw8 := F7.same W8
  have N8 := Fr.snoc X8 N5 ge_ra0
  refine og T8 (mkF m 19 #[vR ra0, vR ra1, vR ra2, .val cv7, vI ci8] []) st8 ?_
  refine og T8 (mkF m 22 #[vR ra0, vR ra1, vR ra2, .val cv7, vI ci8] [(.int ci8), (.ref ra0)]) (fun _ k => XS.aloadN X8.here hx rfl (hb hby d9_19) rfl rfl (XS.iload X8.here hx rfl (hb hby d9_20) rfl k)) ?_
  have F9 := (F6.wr W8)
  have F10 := (((F_start_ra0.other W2 (Or.inr (slot_ne (Or.inr (own_w hw 58)) (Or.inr (own_w hw 52)) (by decide) (t := .int) (t' := (.object "com/example/agave/agave/query/Tokens$Kind")) (by decide) (by decide)))).other W5 (Or.inr (slot_ne (Or.inr (own_w hw 58)) (Or.inr (own_w hw 54)) (by decide) (t := .int) (t' := (.object "java/lang/String")) (by decide) (by decide)))).other W8 (Or.inr (slot_ne (Or.inr (own_w hw 58)) (Or.inr (own_w hw 56)) (by decide) (t := .int) (t' := (.object "java/lang/Object")) (by decide) (by decide))))
  obtain ⟨T11, h11, X11, e11, W11, st11⟩ := putF X8 hx hZ hown (host := "") (Or.inl (own_w hw 57)) Via.refl e8 F10 F9 (Or.inr ⟨(own_w hw 58), rfl, hnm⟩) (own_w hw 45) (ty := .int) (by decide) rfl rfl (g := (mkF m 22 #[vR ra0, vR ra1, vR ra2, .val cv7, vI ci8] [(.int ci8), (.ref ra0)])) rfl rfl (hb hby d9_22)
  have Fw11 := F10.same W11
  have N11 := Fr.snoc X11 N8 ge_ra0
  refine og T11 (mkF m 25 #[vR ra0, vR ra1, vR ra2, .val cv7, vI ci8] []) st11 ?_
  have F12 := (((Fw2.other W5 (Or.inr (slot_ne (Or.inr (own_w hw 52)) (Or.inr (own_w hw 54)) (by decide) (t := (.object "com/example/agave/agave/query/Tokens$Kind")) (t' := (.object "java/lang/String")) (by decide) (by decide)))).other W8 (Or.inr (slot_ne (Or.inr (own_w hw 52)) (Or.inr (own_w hw 56)) (by decide) (t := (.object "com/example/agave/agave/query/Tokens$Kind")) (t' := (.object "java/lang/Object")) (by decide) (by decide)))).other W11 (Or.inr (slot_ne (Or.inr (own_w hw 52)) (Or.inr (own_w hw 58)) (by decide) (t := (.object "com/example/agave/agave/query/Tokens$Kind")) (t' := .int) (by decide) (by decide))))
  have F13 := ((Fw5.other W8 (Or.inr (slot_ne (Or.inr (own_w hw 54)) (Or.inr (own_w hw 56)) (by decide) (t := (.object "java/lang/String")) (t' := (.object "java/lang/Object")) (by decide) (by decide)))).other W11 (Or.inr (slot_ne (Or.inr (own_w hw 54)) (Or.inr (own_w hw 58)) (by decide) (t := (.object "java/lang/String")) (t' := .int) (by decide) (by decide))))
  have F14 := (Fw8.other W11 (Or.inr (slot_ne (Or.inr (own_w hw 56)) (Or.inr (own_w hw 58)) (by decide) (t := (.object "java/lang/Object")) (t' := .int) (by decide) (by decide))))
  have K15 := (((((Keep.refl h0 [ra0]).wr W2 (Or.inl (List.mem_of_getElem? (i := 0) rfl))).wr W5 (Or.inl (List.mem_of_getElem? (i := 0) rfl))).wr W8 (Or.inl (List.mem_of_getElem? (i := 0) rfl))).wr W11 (Or.inl (List.mem_of_getElem? (i := 0) rfl)))
  have KEEP := K15
  exact own_leaveN X11 hlk (v := none) (fun _ => rfl) (lb rfl) (lb rfl) (by rw [e11]; exact ⟨rfl, N11, KEEP, F12, Fw11, F13, F14⟩) (fun fs hr => X11.returnOut hx hret (hb hby d9_25) hr)
abbrev R15_55 : Room := { frames := 0, cells := 0, slots := 0, locals := 0 }
def Q15_55 (Z : State) (pi0 : Int32) (h0 : Heap) (n0 : Nat) (v : Option Value) (h : Heap) (L : List Loc) : Prop := (v = some (.int (own_fold pi0)) ∧ Fr n0 L ∧ h = h0)
theorem rm15_55 (l : Launch) (Z : State) (a0 : Array Value) (hw : HW Z a0) (pi0 : Int32) (h0 : Heap) (n0 : Nat) (OLD : Old Z n0 h0) :
    own_CN l Z y12 method_5_code 2 (some .int) [] R15_55 #[(.int pi0)] h0 (Q15_55 Z pi0 h0 n0) := by
  refine own_entryN (plainFor_of_name pn_4) fun p e s m below meth c s₁ hx hby hml hown hnm hret hlk hZ hh X0 e0 => ?_
  have N0 := Fr.nil n0
  rw [ef_15_55 m pi0]
  refine og s₁ (mkF m 5 #[vI pi0, vI pi0] [(.int (97 : Int32)), (.int pi0)]) (fun _ k => XS.iloadN X0.here hx rfl (hb hby d15_0) rfl (XS.istoreN X0.here hx rfl (hb hby d15_1) rfl (l' := #[vI pi0, vI pi0]) rfl (XS.iloadN X0.here hx rfl (hb hby d15_2) rfl (XS.bipush X0.here hx rfl (hb hby d15_3) k)))) ?_
  by_cases hc1 : pi0 < (97 : Int32)
  · refine og s₁ (mkF m 23 #[vI pi0, vI pi0] [(.int (224 : Int32)), (.int pi0)]) (fun _ k => XS.icmpYes X0.here hx rfl (pc0 := 5) (pc' := 19) rfl (hb hby d15_5) rfl (tlt hc1).1 (by decide) (by decide) (XS.iloadN X0.here hx rfl (hb hby d15_19) rfl (XS.sipush X0.here hx rfl (hb hby d15_20) k))) ?_
    by_cases hc2 : pi0 < (224 : Int32)
    · refine og s₁ (mkF m 46 #[vI pi0, vI pi0] [(.int pi0)]) (fun _ k => XS.icmpYes X0.here hx rfl (pc0 := 23) (pc' := 45) rfl (hb hby d15_23) rfl (tlt hc2).1 (by decide) (by decide) (XS.iloadN X0.here hx rfl (hb hby d15_45) rfl k)) ?_
      exact own_leaveN X0 hlk (v := some (.int pi0)) (fun h => by rw [hret] at h; cases h) (lb rfl) (lb rfl) (by rw [e0]; exact ⟨(by first | (simp only [own_fold, *, if_true, if_false, ite_true, ite_false, not_false_eq_true]; done) | (simp [own_fold, *]; done) | (simp only [own_fold]; (repeat (first | rw [if_pos (by assumption)] | rw [if_neg (by assumption)])) <;> rfl)), N0, rfl⟩) (fun fs hr => retI X0 hx hret (hb hby d15_46) hr)
    · refine og s₁ (mkF m 30 #[vI pi0, vI pi0] [(.int (254 : Int32)), (.int pi0)]) (fun _ k => XS.icmpNo X0.here hx rfl (hb hby d15_23) rfl (flt hc2).1 (XS.iloadN X0.here hx rfl (hb hby d15_26) rfl (XS.sipush X0.here hx rfl (hb hby d15_27) k))) ?_
      by_cases hc3 : (254 : Int32) < pi0
      · refine og s₁ (mkF m 46 #[vI pi0, vI pi0] [(.int pi0)]) (fun _ k => XS.icmpYes X0.here hx rfl (pc0 := 30) (pc' := 45) rfl (hb hby d15_30) rfl (tlt hc3).2.2.1 (by decide) (by decide) (XS.iloadN X0.here hx rfl (hb hby d15_45) rfl k)) ?_
        exact own_leaveN X0 hlk (v := some (.int pi0)) (fun h => by rw [hret] at h; cases h) (lb rfl) (lb rfl) (by rw [e0]; exact ⟨(by first | (simp only [own_fold, *, if_true, if_false, ite_true, ite_false, not_false_eq_true]; done) | (simp [own_fold, *]; done) | (simp only [own_fold]; (repeat (first | rw [if_pos (by assumption)] | rw [if_neg (by assumption)])) <;> rfl)), N0, rfl⟩) (fun fs hr => retI X0 hx hret (hb hby d15_46) hr)
      · refine og s₁ (mkF m 37 #[vI pi0, vI pi0] [(.int (247 : Int32)), (.int pi0)]) (fun _ k => XS.icmpNo X0.here hx rfl (hb hby d15_30) rfl (flt hc3).2.2.1 (XS.iloadN X0.here hx rfl (hb hby d15_33) rfl (XS.sipush X0.here hx rfl (hb hby d15_34) k))) ?_
        by_cases hc4 : pi0 = (247 : Int32)
        · refine og s₁ (mkF m 46 #[vI pi0, vI pi0] [(.int pi0)]) (fun _ k => XS.icmpYes X0.here hx rfl (pc0 := 37) (pc' := 45) rfl (hb hby d15_37) rfl (teq hc4).1 (by decide) (by decide) (XS.iloadN X0.here hx rfl (hb hby d15_45) rfl k)) ?_
          exact own_leaveN X0 hlk (v := some (.int pi0)) (fun h => by rw [hret] at h; cases h) (lb rfl) (lb rfl) (by rw [e0]; exact ⟨(by first | (simp only [own_fold, *, if_true, if_false, ite_true, ite_false, not_false_eq_true]; done) | (simp [own_fold, *]; done) | (simp only [own_fold]; (repeat (first | rw [if_pos (by assumption)] | rw [if_neg (by assumption)])) <;> rfl)), N0, rfl⟩) (fun fs hr => retI X0 hx hret (hb hby d15_46) hr)
        · refine og s₁ (mkF m 44 #[vI pi0, vI pi0] [(.int (pi0 - (32 : Int32)))]) (fun _ k => XS.icmpNo X0.here hx rfl (hb hby d15_37) rfl (feq hc4).1 (XS.iloadN X0.here hx rfl (hb hby d15_40) rfl (XS.bipush X0.here hx rfl (hb hby d15_41) (XS.isub X0.here hx rfl (hb hby d15_43) rfl k)))) ?_
          exact own_leaveN X0 hlk (v := some (.int (pi0 - (32 : Int32)))) (fun h => by rw [hret] at h; cases h) (lb rfl) (lb rfl) (by rw [e0]; exact ⟨(by first | (simp only [own_fold, *, if_true, if_false, ite_true, ite_false, not_false_eq_true]; done) | (simp [own_fold, *]; done) | (simp only [own_fold]; (repeat (first | rw [if_pos (by assumption)] | rw [if_neg (by assumption)])) <;> rfl)), N0, rfl⟩) (fun fs hr => retI X0 hx hret (hb hby d15_44) hr)
  · refine og s₁ (mkF m 11 #[vI pi0, vI pi0] [(.int (122 : Int32)), (.int pi0)]) (fun _ k => XS.icmpNo X0.here hx rfl (hb hby d15_5) rfl (flt hc1).1 (XS.iloadN X0.here hx rfl (hb hby d15_8) rfl (XS.bipush X0.here hx rfl (hb hby d15_9) k))) ?_
    by_cases hc5 : (122 : Int32) < pi0
    · refine og s₁ (mkF m 23 #[vI pi0, vI pi0] [(.int (224 : Int32)), (.int pi0)]) (fun _ k => XS.icmpYes X0.here hx rfl (pc0 := 11) (pc' := 19) rfl (hb hby d15_11) rfl (tlt hc5).2.2.1 (by decide) (by decide) (XS.iloadN X0.here hx rfl (hb hby d15_19) rfl (XS.sipush X0.here hx rfl (hb hby d15_20) k))) ?_
      by_cases hc6 : pi0 < (224 : Int32)
      · refine og s₁ (mkF m 46 #[vI pi0, vI pi0] [(.int pi0)]) (fun _ k => XS.icmpYes X0.here hx rfl (pc0 := 23) (pc' := 45) rfl (hb hby d15_23) rfl (tlt hc6).1 (by decide) (by decide) (XS.iloadN X0.here hx rfl (hb hby d15_45) rfl k)) ?_
        exact own_leaveN X0 hlk (v := some (.int pi0)) (fun h => by rw [hret] at h; cases h) (lb rfl) (lb rfl) (by rw [e0]; exact ⟨(by first | (simp only [own_fold, *, if_true, if_false, ite_true, ite_false, not_false_eq_true]; done) | (simp [own_fold, *]; done) | (simp only [own_fold]; (repeat (first | rw [if_pos (by assumption)] | rw [if_neg (by assumption)])) <;> rfl)), N0, rfl⟩) (fun fs hr => retI X0 hx hret (hb hby d15_46) hr)
      · refine og s₁ (mkF m 30 #[vI pi0, vI pi0] [(.int (254 : Int32)), (.int pi0)]) (fun _ k => XS.icmpNo X0.here hx rfl (hb hby d15_23) rfl (flt hc6).1 (XS.iloadN X0.here hx rfl (hb hby d15_26) rfl (XS.sipush X0.here hx rfl (hb hby d15_27) k))) ?_
        by_cases hc7 : (254 : Int32) < pi0
        · refine og s₁ (mkF m 46 #[vI pi0, vI pi0] [(.int pi0)]) (fun _ k => XS.icmpYes X0.here hx rfl (pc0 := 30) (pc' := 45) rfl (hb hby d15_30) rfl (tlt hc7).2.2.1 (by decide) (by decide) (XS.iloadN X0.here hx rfl (hb hby d15_45) rfl k)) ?_
          exact own_leaveN X0 hlk (v := some (.int pi0)) (fun h => by rw [hret] at h; cases h) (lb rfl) (lb rfl) (by rw [e0]; exact ⟨(by first | (simp only [own_fold, *, if_true, if_false, ite_true, ite_false, not_false_eq_true]; done) | (simp [own_fold, *]; done) | (simp only [own_fold]; (repeat (first | rw [if_pos (by assumption)] | rw [if_neg (by assumption)])) <;> rfl)), N0, rfl⟩) (fun fs hr => retI X0 hx hret (hb hby d15_46) hr)
        · refine og s₁ (mkF m 37 #[vI pi0, vI pi0] [(.int (247 : Int32)), (.int pi0)]) (fun _ k => XS.icmpNo X0.here hx rfl (hb hby d15_30) rfl (flt hc7).2.2.1 (XS.iloadN X0.here hx rfl (hb hby d15_33) rfl (XS.sipush X0.here hx rfl (hb hby d15_34) k))) ?_
          by_cases hc8 : pi0 = (247 : Int32)
          · refine og s₁ (mkF m 46 #[vI pi0, vI pi0] [(.int pi0)]) (fun _ k => XS.icmpYes X0.here hx rfl (pc0 := 37) (pc' := 45) rfl (hb hby d15_37) rfl (teq hc8).1 (by decide) (by decide) (XS.iloadN X0.here hx rfl (hb hby d15_45) rfl k)) ?_
            exact own_leaveN X0 hlk (v := some (.int pi0)) (fun h => by rw [hret] at h; cases h) (lb rfl) (lb rfl) (by rw [e0]; exact ⟨(by first | (simp only [own_fold, *, if_true, if_false, ite_true, ite_false, not_false_eq_true]; done) | (simp [own_fold, *]; done) | (simp only [own_fold]; (repeat (first | rw [if_pos (by assumption)] | rw [if_neg (by assumption)])) <;> rfl)), N0, rfl⟩) (fun fs hr => retI X0 hx hret (hb hby d15_46) hr)
          · refine og s₁ (mkF m 44 #[vI pi0, vI pi0] [(.int (pi0 - (32 : Int32)))]) (fun _ k => XS.icmpNo X0.here hx rfl (hb hby d15_37) rfl (feq hc8).1 (XS.iloadN X0.here hx rfl (hb hby d15_40) rfl (XS.bipush X0.here hx rfl (hb hby d15_41) (XS.isub X0.here hx rfl (hb hby d15_43) rfl k)))) ?_
            exact own_leaveN X0 hlk (v := some (.int (pi0 - (32 : Int32)))) (fun h => by rw [hret] at h; cases h) (lb rfl) (lb rfl) (by rw [e0]; exact ⟨(by first | (simp only [own_fold, *, if_true, if_false, ite_true, ite_false, not_false_eq_true]; done) | (simp [own_fold, *]; done) | (simp only [own_fold]; (repeat (first | rw [if_pos (by assumption)] | rw [if_neg (by assumption)])) <;> rfl)), N0, rfl⟩) (fun fs hr => retI X0 hx hret (hb hby d15_44) hr)
    · refine og s₁ (mkF m 18 #[vI pi0, vI pi0] [(.int (pi0 - (32 : Int32)))]) (fun _ k => XS.icmpNo X0.here hx rfl (hb hby d15_11) rfl (flt hc5).2.2.1 (XS.iloadN X0.here hx rfl (hb hby d15_14) rfl (XS.bipush X0.here hx rfl (hb hby d15_15) (XS.isub X0.here hx rfl (hb hby d15_17) rfl k)))) ?_
      exact own_leaveN X0 hlk (v := some (.int (pi0 - (32 : Int32)))) (fun h => by rw [hret] at h; cases h) (lb rfl) (lb rfl) (by rw [e0]; exact ⟨(by first | (simp only [own_fold, *, if_true, if_false, ite_true, ite_false, not_false_eq_true]; done) | (simp [own_fold, *]; done) | (simp only [own_fold]; (repeat (first | rw [if_pos (by assumption)] | rw [if_neg (by assumption)])) <;> rfl)), N0, rfl⟩) (fun fs hr => retI X0 hx hret (hb hby d15_18) hr)
abbrev R14_54 : Room := { frames := 1, cells := 0, slots := 0, locals := 14 }
def Q14_54 (Z : State) (pi0 : Int32) (pi1 : Int32) (h0 : Heap) (n0 : Nat) (v : Option Value) (h : Heap) (L : List Loc) : Prop := (v = some (.int (own_eqv pi0 pi1)) ∧ Fr n0 L ∧ h = h0)
theorem rm14_54 (l : Launch) (Z : State) (a0 : Array Value) (hw : HW Z a0) (pi0 : Int32) (pi1 : Int32) (h0 : Heap) (n0 : Nat) (OLD : Old Z n0 h0) :
    own_CN l Z y13 method_6_code 2 (some .boolean) [] R14_54 #[(.int pi0), (.int pi1)] h0 (Q14_54 Z pi0 pi1 h0 n0) := by
  refine own_entryN (plainFor_of_name pn_4) fun p e s m below meth c s₁ hx hby hml hown hnm hret hlk hZ hh X0 e0 => ?_
  have N0 := Fr.nil n0
  rw [ef_14_54 m pi0 pi1]
  refine og s₁ (mkF m 1 #[vI pi0, vI pi1] [(.int pi0)]) (fun _ k => XS.iloadN X0.here hx rfl (hb hby d14_0) rfl k) ?_
  obtain ⟨_, _, ⟨T1, L1, k1, n1⟩, -, X1, ⟨Lc1, hQ1, l1, y1, z1⟩, st1⟩ := Jvm.LawKit.callS X0 hx (y := y12) hown (mvT hZ (own_w hw 92)) (mvT hZ (own_w hw 93)) (mvT hZ (own_w hw 3)) (mvT hZ (own_w hw 94)) (by decide) (backOf (W := 0) (rm15_55 l Z a0 hw pi0 h0 n0 OLD ) hZ (own_w hw 94) (own_w hw 3) (lb rfl) (lb rfl)) (g := (mkF m 1 #[vI pi0, vI pi1] [(.int pi0)])) rfl (by rw [hml]; rfl) (argsL := [(.int pi0)]) (rest := []) (lenOf pd_11 rfl) rfl (lb rfl) (hb hby d14_1) (fun _ _ => ⟨rfl, e0, (lb rfl), (lb rfl)⟩)
  dsimp only [Pt.U, Pt.locs, Pt.cells, Pt.slots] at X1 l1 y1 z1 st1 hQ1
  subst l1 y1 z1
  obtain ⟨rfl, Nq1, eq1⟩ := hQ1
  have N1 := Fr.app N0 Nq1
  refine og T1 (mkF m 4 #[vI pi0, vI pi1] [(.int (own_fold pi0))]) st1 ?_
  refine og T1 (mkF m 5 #[vI pi0, vI pi1] [(.int pi1), (.int (own_fold pi0))]) (fun _ k => XS.iloadN X1.here hx rfl (hb hby d14_4) rfl k) ?_
  obtain ⟨_, _, ⟨T2, L2, k2, n2⟩, -, X2, ⟨Lc2, hQ2, l2, y2, z2⟩, st2⟩ := Jvm.LawKit.callS X1 hx (y := y12) hown (mvT hZ (own_w hw 92)) (mvT hZ (own_w hw 93)) (mvT hZ (own_w hw 3)) (mvT hZ (own_w hw 94)) (by decide) (backOf (W := 1) (rm15_55 l Z a0 hw pi1 h0 n0 OLD ) hZ (own_w hw 94) (own_w hw 3) (lb rfl) (lb rfl)) (g := (mkF m 5 #[vI pi0, vI pi1] [(.int pi1), (.int (own_fold pi0))])) rfl (by rw [hml]; rfl) (argsL := [(.int pi1)]) (rest := [(.int (own_fold pi0))]) (lenOf pd_11 rfl) rfl (lb rfl) (hb hby d14_5) (fun _ _ => ⟨rfl, eq1, (lb rfl), (lb rfl)⟩)
  dsimp only [Pt.U, Pt.locs, Pt.cells, Pt.slots] at X2 l2 y2 z2 st2 hQ2
  subst l2 y2 z2
  obtain ⟨rfl, Nq2, eq2⟩ := hQ2
  have N2 := Fr.app N1 Nq2
  refine og T2 (mkF m 8 #[vI pi0, vI pi1] [(.int (own_fold pi1)), (.int (own_fold pi0))]) st2 ?_
  by_cases hc3 : (own_fold pi0) = (own_fold pi1)
  · refine og T2 (mkF m 16 #[vI pi0, vI pi1] [(.int (1 : Int32))]) (fun _ k => XS.icmpNo X2.here hx rfl (hb hby d14_8) rfl (teq hc3).2 (XS.iconst X2.here hx rfl (hb hby d14_11) (XS.goto X2.here hx rfl (pc0 := 12) (pc' := 16) rfl (hb hby d14_12) (by decide) (by decide) k))) ?_
    exact own_leaveN X2 hlk (v := some (.int (nar .boolean (1 : Int32)))) (fun h => by rw [hret] at h; cases h) (lb rfl) (lb rfl) (by rw [eq2]; exact ⟨(by show some (Value.int (1 : Int32)) = _; first | (simp only [own_eqv, *, if_true, if_false, ite_true, ite_false, not_false_eq_true]; done) | (simp [own_eqv, *]; done) | (simp only [own_eqv]; (repeat (first | rw [if_pos (by assumption)] | rw [if_neg (by assumption)])) <;> rfl)), N2, rfl⟩) (fun fs hr => retN X2 hx (t := .boolean) hret (by simp) (hb hby d14_16) hr)
  · refine og T2 (mkF m 16 #[vI pi0, vI pi1] [(.int (0 : Int32))]) (fun _ k => XS.icmpYes X2.here hx rfl (pc0 := 8) (pc' := 15) rfl (hb hby d14_8) rfl (feq hc3).2 (by decide) (by decide) (XS.iconst X2.here hx rfl (hb hby d14_15) k)) ?_
    exact own_leaveN X2 hlk (v := some (.int (nar .boolean (0 : Int32)))) (fun h => by rw [hret] at h; cases h) (lb rfl) (lb rfl) (by rw [eq2]; exact ⟨(by show some (Value.int (0 : Int32)) = _; first | (simp only [own_eqv, *, if_true, if_false, ite_true, ite_false, not_false_eq_true]; done) | (simp [own_eqv, *]; done) | (simp only [own_eqv]; (repeat (first | rw [if_pos (by assumption)] | rw [if_neg (by assumption)])) <;> rfl)), N2, rfl⟩) (fun fs hr => retN X2 hx (t := .boolean) hret (by simp) (hb hby d14_16) hr)
def own_QS (Z : State) (x : Addr) (N : Int32) (cs : List Int32) (h : Heap) (n0 : Nat) (v : Option Value) (h' : Heap) (L : List Loc) : Prop := v = none ∧ Fr n0 L ∧ Keep h h' [x] ∧ Exa Z h' x "java/lang/String" ∧ Fld Z h' x "java/lang/String" "coder" "B" (.int (0 : Int32)) ∧ ∃ (t : Addr) (kb : ClassId), t < h'.size ∧ Fld Z h' x "java/lang/String" "value" "[B" (.ref t) ∧ Arv Z h' t kb .byte N ((cs.map (fun c => c.toInt8.toInt32)).map Value.int) (.int (0 : Int32))
theorem own_monoS {l : Launch} {R : Room} {p : Program} {e : Env} {below : List Frame} {s : State} {sargs : Array Value} {y : MethodName} {len W : Nat} {Pre Pre' : Pt → Array Value → Prop} {Post Post' : Pt → Array Value → Option Value → Pt → Prop} (q : BackS l R p e below s sargs y len W Pre Post) (hpre : ∀ A a, Pre' A a → Pre A a)
    (hpost : ∀ A a v B, Pre' A a → Post A a v B → ∃ c n, B.cells ≤ c ∧ B.slots ≤ n ∧ Post' A a v (B.U, B.locs, c, n)) : BackS l R p e below s sargs y len W Pre' Post' := by
  intro m meth c A g ig mk a X hg hsize hdg hW hn hp
  obtain ⟨v, B, X', hS, hgr, hpo, st⟩ := q m meth c A g ig mk a X hg hsize hdg hW hn (hpre A a hp)
  obtain ⟨c', n', q1, q2, q3⟩ := hpost A a v B hp hpo
  exact ⟨v, (B.U, B.locs, c', n'), own_wk X' q1 q2, hS, hgr, q3, st⟩
theorem own_newS {l : Launch} {p : Program} {e : Env} {R : Room} {s : State} {vm0 : Vm} {args : Array Value} {below : List Frame} {W : Nat} {Z : State} {a0 : Array Value} {h : Heap} {x b : Addr} {kC : ClassId} {cs : List Int32} {G1 N : Int32} {n0 : Nat} (hZ : Z.Warmed39 vm0) (hw : HW Z a0) (OLD : Old Z n0 h) (gx : n0 ≤ x) (E : Exa Z h x "java/lang/String") (V : Fld Z h x "java/lang/String" "value" "[B" .null) (C : Fld Z h x "java/lang/String" "coder" "B" (.int (0 : Int32))) (K : Arv Z h b kC .char N (cs.map Value.int) (.int (0 : Int32)))
    (O2 : Sta Z Z.heap "java/lang/String" "COMPACT_STRINGS" "Z" (.int G1)) (P5 : ¬ (G1 = (0 : Int32))) (hN : N = Int32.ofNat cs.length) (l2 : cs.length ≤ 3) (hp : ∀ c ∈ cs, ¬ c < 0 ∧ ¬ (255 : Int32) < c) (ltx : x < h.size) (Sx : Safe Z own_EL vm0 h x) (H : CHv Z own_EL vm0 h) (hfr : 4 ≤ R.frames) (hlo : W + 65 ≤ R.locals) :
    BackS l R p e below (s.setVm vm0) args y1 3 W (fun A a => a = #[.ref x, .ref b] ∧ A.U.heap = h ∧ A.cells + 4 ≤ R.cells ∧ A.slots + 8 ≤ R.slots)
      (fun A _ v B => ∃ L, own_QS Z x N cs h n0 v B.U.heap L ∧ B.locs = A.locs ++ L ∧ B.cells = A.cells + 4 ∧ B.slots = A.slots + 8 ∧ CHr Z own_EL vm0 h B.U.vm B.U.heap) := by
  subst hN
  rcases cs with _ | ⟨c, cs⟩
  · refine own_monoS (own_backSH (kn := false) (W := W) (rm3_4 l Z a0 hw x b kC h n0 OLD E C V K gx) hZ (own_w hw 17) (own_w hw 14) (by show 2 + 1 ≤ _; omega) (by show W + (2 + 11) + 29 ≤ _; omega) (own_EW hw) H (allS ⟨ltx, Sx⟩ all0) Bool.noConfusion) ?_ ?_
    · intro A a ⟨q1, q2, q3, q4⟩
      exact ⟨q1, q2, by show _ + 4 ≤ _; omega, by show _ + 8 ≤ _; omega⟩
    · intro A a v B _ ⟨L, hQ, r1, r2, r3, r4⟩
      obtain ⟨o3, kc4, q1, q2, q3, q4_0, q4_1, q4_2, q4_3⟩ := hQ
      exact ⟨A.cells + 4, A.slots + 8, by rw [r2]; exact Nat.add_le_add_left (lb rfl) _, by rw [r3]; exact Nat.add_le_add_left (lb rfl) _, L, ⟨q1, q2, q3, E.keep q3, q4_1, o3, _, q4_0, q4_2, q4_3⟩, r1, rfl, rfl, r4⟩
  · intro m meth cc A g ig mk a X hg hsize hdg hW hn hp'
    obtain ⟨rfl, q2, q3, q4⟩ := hp'
    have l3 : (c :: cs).length ≤ 8 := Nat.le_trans l2 (lb rfl)
    obtain ⟨v, B, X', ⟨L, ⟨u1, u2, u3, u4, u5, t, kb, u6, u7, u8, u9, u10⟩, r1, r2, r3⟩, st⟩ := StrChars.Road.backV (s := s.setVm vm0) (len := 3) (W := W) hZ (own_hws hw) (kI := 4) (own_w hw 13) (cs := c :: cs) (bs := (c :: cs).map (fun c => c.toInt8.toInt32)) (n := (c :: cs).length) gx (own_osz OLD) E V C K (O2.ext OLD.2) P5 rfl rfl (Nat.succ_pos _) (Nat.le_trans l2 (lb rfl)) hp rfl (by omega) (by omega) m meth cc A g ig mk _ X hg hsize hdg hW hn ⟨rfl, q2, by omega, by omega⟩
    refine ⟨v, (B.U, B.locs, A.cells + 4, A.slots + 8), own_wk (X'.retabled X'.warmed.wide) (by rw [r2]; exact Nat.add_le_add_left (lb rfl) _) (by rw [r3]; exact Nat.add_le_add_left l3 _), X'.warmed.since _, by rw [q2]; exact u3.1, ⟨L, ⟨u1, u2, u3, u4, u5, t, kb, u10.lt, u9, u10⟩, r1, rfl, rfl, ?_⟩, st⟩
    have k1 := CHr.keep u3 (allS Sx all0) H
    exact CHr.trans k1 (CHv.at X' hZ (own_EW hw) k1.1)
def own_QisG (k a b : Addr) (ts ss : List Int32) (h0 : Heap) (n0 : Nat) (v : Option Value) (h : Heap) (L : List Loc) : Prop := v = some (.int (own_isv k a b (own_ica ts ss))) ∧ Fr n0 L ∧ h = h0
theorem own_isG (l : Launch) (Z : State) (a0 : Array Value) (hw : HW Z a0) (G1 : Int32) (kw0 : Addr) (kw5 : Addr) (ra0 ra1 ra2 rt2 ra3 rt3 : Addr) (kc2 kc3 : ClassId) (ts ss : List Int32) (lt : ts.length ≤ 3) (ls : ss.length ≤ 3) (h0 : Heap) (n0 : Nat) (OLD : Old Z n0 h0) (E_ra0 : Exa Z h0 ra0 "com/example/agave/agave/query/Tokens$Token") (F_kind_ra0 : Fld Z h0 ra0 "com/example/agave/agave/query/Tokens$Token" "kind" "Lcom/example/agave/agave/query/Tokens$Kind;" (.ref ra1)) (F_text_ra0 : Fld Z h0 ra0 "com/example/agave/agave/query/Tokens$Token" "text" "Ljava/lang/String;" (.ref ra2)) (E_ra2 : Exa Z h0 ra2 "java/lang/String") (F_coder_ra2 : Fld Z h0 ra2 "java/lang/String" "coder" "B" (.int (0 : Int32))) (F_value_ra2 : Fld Z h0 ra2 "java/lang/String" "value" "[B" (.ref rt2)) (V_rt2 : Arv Z h0 rt2 kc2 .byte (Int32.ofNat ts.length) ((ts.map (fun c => c.toInt8.toInt32)).map Value.int) (.int (0 : Int32))) (E_ra3 : Exa Z h0 ra3 "java/lang/String") (F_coder_ra3 : Fld Z h0 ra3 "java/lang/String" "coder" "B" (.int (0 : Int32))) (F_value_ra3 : Fld Z h0 ra3 "java/lang/String" "value" "[B" (.ref rt3)) (V_rt3 : Arv Z h0 rt3 kc3 .byte (Int32.ofNat ss.length) ((ss.map (fun c => c.toInt8.toInt32)).map Value.int) (.int (0 : Int32))) (hc : ∀ c ∈ ts, ¬ c < 0 ∧ ¬ (255 : Int32) < c) (hd : ∀ c ∈ ss, ¬ c < 0 ∧ ¬ (255 : Int32) < c) (hk0 : ¬ (ra2 = ra3)) (SK0 : Sta Z Z.heap "com/example/agave/agave/query/Tokens$Kind" "WORD" "Lcom/example/agave/agave/query/Tokens$Kind;" (.ref kw0)) (EK0 : Exa Z Z.heap kw0 "com/example/agave/agave/query/Tokens$Kind") (O2 : Sta Z Z.heap "java/lang/String" "COMPACT_STRINGS" "Z" (.int G1)) (P5 : ¬ (G1 = (0 : Int32))) (SK5 : Sta Z Z.heap "com/example/agave/agave/query/Tokens$Kind" "SYMBOL" "Lcom/example/agave/agave/query/Tokens$Kind;" (.ref kw5)) (EK5 : Exa Z Z.heap kw5 "com/example/agave/agave/query/Tokens$Kind") :
    own_CN l Z y7 prog_6_method_6_code 2 (some .boolean) [] R10_45 #[(.ref ra0), (.ref ra3)] h0 (own_QisG ra1 kw0 kw5 ts ss h0 n0) := by
  rcases ts with _ | ⟨ca0, _ | ⟨ca1, _ | ⟨ca2, _ | ⟨ca3, r⟩⟩⟩⟩
  · rcases ss with _ | ⟨cb0, _ | ⟨cb1, _ | ⟨cb2, _ | ⟨cb3, r⟩⟩⟩⟩
    · exact rm10_5 l Z a0 hw ra0 ra1 ra2 rt2 ra3 rt3 kc2 kc3 kw0 G1 kw5 h0 n0 OLD E_ra0 F_kind_ra0 F_text_ra0 E_ra2 F_coder_ra2 F_value_ra2 V_rt2 E_ra3 F_coder_ra3 F_value_ra3 V_rt3 hk0 SK0 EK0 O2 P5 SK5 EK5
    · exact rm10_10 l Z a0 hw ra0 ra1 ra2 rt2 ra3 rt3 kc2 kc3 cb0 kw0 G1 kw5 h0 n0 OLD E_ra0 F_kind_ra0 F_text_ra0 E_ra2 F_coder_ra2 F_value_ra2 V_rt2 E_ra3 F_coder_ra3 F_value_ra3 V_rt3 (hd _ (by simp)) hk0 SK0 EK0 O2 P5 SK5 EK5
    · exact rm10_12 l Z a0 hw ra0 ra1 ra2 rt2 ra3 rt3 kc2 kc3 cb0 cb1 kw0 G1 kw5 h0 n0 OLD E_ra0 F_kind_ra0 F_text_ra0 E_ra2 F_coder_ra2 F_value_ra2 V_rt2 E_ra3 F_coder_ra3 F_value_ra3 V_rt3 (hd _ (by simp)) (hd _ (by simp)) hk0 SK0 EK0 O2 P5 SK5 EK5
    · exact rm10_14 l Z a0 hw ra0 ra1 ra2 rt2 ra3 rt3 kc2 kc3 cb0 cb1 cb2 kw0 G1 kw5 h0 n0 OLD E_ra0 F_kind_ra0 F_text_ra0 E_ra2 F_coder_ra2 F_value_ra2 V_rt2 E_ra3 F_coder_ra3 F_value_ra3 V_rt3 (hd _ (by simp)) (hd _ (by simp)) (hd _ (by simp)) hk0 SK0 EK0 O2 P5 SK5 EK5
    · simp only [List.length_cons] at ls; omega
  · rcases ss with _ | ⟨cb0, _ | ⟨cb1, _ | ⟨cb2, _ | ⟨cb3, r⟩⟩⟩⟩
    · exact rm10_16 l Z a0 hw ra0 ra1 ra2 rt2 ra3 rt3 kc2 kc3 ca0 kw0 G1 kw5 h0 n0 OLD E_ra0 F_kind_ra0 F_text_ra0 E_ra2 F_coder_ra2 F_value_ra2 V_rt2 E_ra3 F_coder_ra3 F_value_ra3 V_rt3 (hc _ (by simp)) hk0 SK0 EK0 O2 P5 SK5 EK5
    · exact rm10_18 l Z a0 hw ra0 ra1 ra2 rt2 ra3 rt3 kc2 kc3 ca0 cb0 kw0 G1 kw5 h0 n0 OLD E_ra0 F_kind_ra0 F_text_ra0 E_ra2 F_coder_ra2 F_value_ra2 V_rt2 E_ra3 F_coder_ra3 F_value_ra3 V_rt3 (hc _ (by simp)) (hd _ (by simp)) hk0 SK0 EK0 O2 P5 SK5 EK5
    · exact rm10_24 l Z a0 hw ra0 ra1 ra2 rt2 ra3 rt3 kc2 kc3 ca0 cb0 cb1 kw0 G1 kw5 h0 n0 OLD E_ra0 F_kind_ra0 F_text_ra0 E_ra2 F_coder_ra2 F_value_ra2 V_rt2 E_ra3 F_coder_ra3 F_value_ra3 V_rt3 (hc _ (by simp)) (hd _ (by simp)) (hd _ (by simp)) hk0 SK0 EK0 O2 P5 SK5 EK5
    · exact rm10_26 l Z a0 hw ra0 ra1 ra2 rt2 ra3 rt3 kc2 kc3 ca0 cb0 cb1 cb2 kw0 G1 kw5 h0 n0 OLD E_ra0 F_kind_ra0 F_text_ra0 E_ra2 F_coder_ra2 F_value_ra2 V_rt2 E_ra3 F_coder_ra3 F_value_ra3 V_rt3 (hc _ (by simp)) (hd _ (by simp)) (hd _ (by simp)) (hd _ (by simp)) hk0 SK0 EK0 O2 P5 SK5 EK5
    · simp only [List.length_cons] at ls; omega
  · rcases ss with _ | ⟨cb0, _ | ⟨cb1, _ | ⟨cb2, _ | ⟨cb3, r⟩⟩⟩⟩
    · exact rm10_28 l Z a0 hw ra0 ra1 ra2 rt2 ra3 rt3 kc2 kc3 ca0 ca1 kw0 G1 kw5 h0 n0 OLD E_ra0 F_kind_ra0 F_text_ra0 E_ra2 F_coder_ra2 F_value_ra2 V_rt2 E_ra3 F_coder_ra3 F_value_ra3 V_rt3 (hc _ (by simp)) (hc _ (by simp)) hk0 SK0 EK0 O2 P5 SK5 EK5
    · exact rm10_30 l Z a0 hw ra0 ra1 ra2 rt2 ra3 rt3 kc2 kc3 ca0 ca1 cb0 kw0 G1 kw5 h0 n0 OLD E_ra0 F_kind_ra0 F_text_ra0 E_ra2 F_coder_ra2 F_value_ra2 V_rt2 E_ra3 F_coder_ra3 F_value_ra3 V_rt3 (hc _ (by simp)) (hc _ (by simp)) (hd _ (by simp)) hk0 SK0 EK0 O2 P5 SK5 EK5
    · exact rm10_32 l Z a0 hw ra0 ra1 ra2 rt2 ra3 rt3 kc2 kc3 ca0 ca1 cb0 cb1 kw0 G1 kw5 h0 n0 OLD E_ra0 F_kind_ra0 F_text_ra0 E_ra2 F_coder_ra2 F_value_ra2 V_rt2 E_ra3 F_coder_ra3 F_value_ra3 V_rt3 (hc _ (by simp)) (hc _ (by simp)) (hd _ (by simp)) (hd _ (by simp)) hk0 SK0 EK0 O2 P5 SK5 EK5
    · exact rm10_37 l Z a0 hw ra0 ra1 ra2 rt2 ra3 rt3 kc2 kc3 ca0 ca1 cb0 cb1 cb2 kw0 G1 kw5 h0 n0 OLD E_ra0 F_kind_ra0 F_text_ra0 E_ra2 F_coder_ra2 F_value_ra2 V_rt2 E_ra3 F_coder_ra3 F_value_ra3 V_rt3 (hc _ (by simp)) (hc _ (by simp)) (hd _ (by simp)) (hd _ (by simp)) (hd _ (by simp)) hk0 SK0 EK0 O2 P5 SK5 EK5
    · simp only [List.length_cons] at ls; omega
  · rcases ss with _ | ⟨cb0, _ | ⟨cb1, _ | ⟨cb2, _ | ⟨cb3, r⟩⟩⟩⟩
    · exact rm10_39 l Z a0 hw ra0 ra1 ra2 rt2 ra3 rt3 kc2 kc3 ca0 ca1 ca2 kw0 G1 kw5 h0 n0 OLD E_ra0 F_kind_ra0 F_text_ra0 E_ra2 F_coder_ra2 F_value_ra2 V_rt2 E_ra3 F_coder_ra3 F_value_ra3 V_rt3 (hc _ (by simp)) (hc _ (by simp)) (hc _ (by simp)) hk0 SK0 EK0 O2 P5 SK5 EK5
    · exact rm10_41 l Z a0 hw ra0 ra1 ra2 rt2 ra3 rt3 kc2 kc3 ca0 ca1 ca2 cb0 kw0 G1 kw5 h0 n0 OLD E_ra0 F_kind_ra0 F_text_ra0 E_ra2 F_coder_ra2 F_value_ra2 V_rt2 E_ra3 F_coder_ra3 F_value_ra3 V_rt3 (hc _ (by simp)) (hc _ (by simp)) (hc _ (by simp)) (hd _ (by simp)) hk0 SK0 EK0 O2 P5 SK5 EK5
    · exact rm10_43 l Z a0 hw ra0 ra1 ra2 rt2 ra3 rt3 kc2 kc3 ca0 ca1 ca2 cb0 cb1 kw0 G1 kw5 h0 n0 OLD E_ra0 F_kind_ra0 F_text_ra0 E_ra2 F_coder_ra2 F_value_ra2 V_rt2 E_ra3 F_coder_ra3 F_value_ra3 V_rt3 (hc _ (by simp)) (hc _ (by simp)) (hc _ (by simp)) (hd _ (by simp)) (hd _ (by simp)) hk0 SK0 EK0 O2 P5 SK5 EK5
    · exact rm10_45 l Z a0 hw ra0 ra1 ra2 rt2 ra3 rt3 kc2 kc3 ca0 ca1 ca2 cb0 cb1 cb2 kw0 G1 kw5 h0 n0 OLD E_ra0 F_kind_ra0 F_text_ra0 E_ra2 F_coder_ra2 F_value_ra2 V_rt2 E_ra3 F_coder_ra3 F_value_ra3 V_rt3 (hc _ (by simp)) (hc _ (by simp)) (hc _ (by simp)) (hd _ (by simp)) (hd _ (by simp)) (hd _ (by simp)) hk0 SK0 EK0 O2 P5 SK5 EK5
    · simp only [List.length_cons] at ls; omega
  · simp only [List.length_cons] at lt; omega
def Qlaw (Z : State) (pi0 : Int32) (pi1 : Int32) (pi2 : Int32) (pi3 : Int32) (pi4 : Int32) (pi5 : Int32) (kw0 : Addr) (kw1 : Addr) (kw2 : Addr) (kw3 : Addr) (kw4 : Addr) (kw5 : Addr) (kw6 : Addr) (G1 : Int32) (h0 : Heap) (n0 : Nat) (v : Option Value) (h : Heap) (L : List Loc) : Prop := (v = some (.int (1 : Int32)) ∧ Fr n0 L)
theorem rmlaw (l : Launch) (Z : State) (a0 : Array Value) (hw : HW Z a0) (pi0 : Int32) (pi1 : Int32) (pi2 : Int32) (pi3 : Int32) (pi4 : Int32) (pi5 : Int32) (kw0 : Addr) (kw1 : Addr) (kw2 : Addr) (kw3 : Addr) (kw4 : Addr) (kw5 : Addr) (kw6 : Addr) (G1 : Int32) (h0 : Heap) (n0 : Nat) (OLD : Old Z n0 h0) (SK0 : Sta Z Z.heap "com/example/agave/agave/query/Tokens$Kind" "WORD" "Lcom/example/agave/agave/query/Tokens$Kind;" (.ref kw0)) (EK0 : Exa Z Z.heap kw0 "com/example/agave/agave/query/Tokens$Kind") (SK1 : Sta Z Z.heap "com/example/agave/agave/query/Tokens$Kind" "STRING" "Lcom/example/agave/agave/query/Tokens$Kind;" (.ref kw1)) (EK1 : Exa Z Z.heap kw1 "com/example/agave/agave/query/Tokens$Kind") (SK2 : Sta Z Z.heap "com/example/agave/agave/query/Tokens$Kind" "NUMBER" "Lcom/example/agave/agave/query/Tokens$Kind;" (.ref kw2)) (EK2 : Exa Z Z.heap kw2 "com/example/agave/agave/query/Tokens$Kind") (SK3 : Sta Z Z.heap "com/example/agave/agave/query/Tokens$Kind" "NAMED_PARAMETER" "Lcom/example/agave/agave/query/Tokens$Kind;" (.ref kw3)) (EK3 : Exa Z Z.heap kw3 "com/example/agave/agave/query/Tokens$Kind") (SK4 : Sta Z Z.heap "com/example/agave/agave/query/Tokens$Kind" "POSITIONAL_PARAMETER" "Lcom/example/agave/agave/query/Tokens$Kind;" (.ref kw4)) (EK4 : Exa Z Z.heap kw4 "com/example/agave/agave/query/Tokens$Kind") (SK5 : Sta Z Z.heap "com/example/agave/agave/query/Tokens$Kind" "SYMBOL" "Lcom/example/agave/agave/query/Tokens$Kind;" (.ref kw5)) (EK5 : Exa Z Z.heap kw5 "com/example/agave/agave/query/Tokens$Kind") (SK6 : Sta Z Z.heap "com/example/agave/agave/query/Tokens$Kind" "END" "Lcom/example/agave/agave/query/Tokens$Kind;" (.ref kw6)) (EK6 : Exa Z Z.heap kw6 "com/example/agave/agave/query/Tokens$Kind") (O2 : Sta Z Z.heap "java/lang/String" "COMPACT_STRINGS" "Z" (.int G1)) (P5 : ¬ (G1 = (0 : Int32))) :
    own_CW l Z false x code maxLocals ret tables_1 room_1 #[(.int pi0), (.int pi1), (.int pi2), (.int pi3), (.int pi4), (.int pi5)] h0 [] (Qlaw Z pi0 pi1 pi2 pi3 pi4 pi5 kw0 kw1 kw2 kw3 kw4 kw5 kw6 G1 h0 n0) := by
  refine own_entryW (plainFor_of_name pn_4) fun p e s m below meth c s₁ hx hby hml hown hnm hret hlk hZ hh hCH hSf hKn X0 e0 => ?_
  have N0 := Fr.nil n0
  have hS0 : s.Since s.vm h0.size := own_since s _
  have hk0 : h0.size ≤ h0.size := Nat.le_refl _
  have CH0 : CHr Z own_EL s.vm h0 s.vm h0 := CHr.refl hCH
  rw [ef_law m pi0 pi1 pi2 pi3 pi4 pi5]
  refine og s₁ (mkF m 1 #[vI pi0, vI pi1, vI pi2, vI pi3, vI pi4, vI pi5, vU, vU, vU, vU, vU, vU, vU, vU, vU, vU, vU, vU, vU, vU, vU, vU, vU, vU] [(.int pi0)]) (fun _ k => XS.iloadN X0.here hx rfl (hb hby at_0) rfl k) ?_
  refine og s₁ (mkF m 3 #[vI pi0, vI pi1, vI pi2, vI pi3, vI pi4, vI pi5, vU, vU, vU, vU, vU, vU, vU, vU, vU, vU, vU, vU, vU, vU, vU, vU, vU, vU] [(.int (2147483647 : Int32)), (.int pi0)]) (fun t k => X0.ldcInt hx hown (mvT hZ (own_w hw 0)) (g := (mkF m 1 #[vI pi0, vI pi1, vI pi2, vI pi3, vI pi4, vI pi5, vU, vU, vU, vU, vU, vU, vU, vU, vU, vU, vU, vU, vU, vU, vU, vU, vU, vU] [(.int pi0)])) rfl (hb hby at_1) t k) ?_
  refine og s₁ (mkF m 7 #[vI pi0, vI pi1, vI pi2, vI pi3, vI pi4, vI pi5, vU, vU, vU, vU, vU, vU, vU, vU, vU, vU, vU, vU, vU, vU, vU, vU, vU, vU] [(.int ((pi0 &&& (2147483647 : Int32)) % (7 : Int32)))]) (fun _ k => XS.iand X0.here hx rfl (hb hby at_3) rfl (XS.bipush X0.here hx rfl (hb hby at_4) (Jvm.RoadKit.iremM X0 hx rfl (hb hby at_6) rfl (by decide) k))) ?_
  obtain ⟨_, _, ⟨T1, L1, k1, n1⟩, -, X1, ⟨Lc1, hQ1, l1, y1, z1⟩, st1⟩ := Jvm.LawKit.callS X0 hx (y := y9) hown (mvT hZ (own_w hw 1)) (mvT hZ (own_w hw 2)) (mvT hZ (own_w hw 3)) (mvT hZ (own_w hw 4)) (by decide) (backOf (W := 0) (rm1_51 l Z a0 hw (((pi0 &&& (2147483647 : Int32)) % (7 : Int32))) kw0 kw1 kw2 kw3 kw4 kw5 kw6 h0 n0 OLD SK0 EK0 SK1 EK1 SK2 EK2 SK3 EK3 SK4 EK4 SK5 EK5 SK6 EK6) hZ (own_w hw 4) (own_w hw 3) (lb rfl) (lb rfl)) (g := (mkF m 7 #[vI pi0, vI pi1, vI pi2, vI pi3, vI pi4, vI pi5, vU, vU, vU, vU, vU, vU, vU, vU, vU, vU, vU, vU, vU, vU, vU, vU, vU, vU] [(.int ((pi0 &&& (2147483647 : Int32)) % (7 : Int32)))])) rfl (by rw [hml]; rfl) (argsL := [(.int ((pi0 &&& (2147483647 : Int32)) % (7 : Int32)))]) (rest := []) (lenOf pd_7 rfl) rfl (lb rfl) (hb hby at_7) (fun _ _ => ⟨rfl, e0, (lb rfl), (lb rfl)⟩)
  dsimp only [Pt.U, Pt.locs, Pt.cells, Pt.slots] at X1 l1 y1 z1 st1 hQ1
  subst l1 y1 z1
  obtain ⟨rfl, Nq1, eq1⟩ := hQ1
  have N1 := Fr.app N0 Nq1
  refine og T1 (mkF m 10 #[vI pi0, vI pi1, vI pi2, vI pi3, vI pi4, vI pi5, vU, vU, vU, vU, vU, vU, vU, vU, vU, vU, vU, vU, vU, vU, vU, vU, vU, vU] [(.ref (own_kd ((pi0 &&& (2147483647 : Int32)) % (7 : Int32)) kw0 kw1 kw2 kw3 kw4 kw5 kw6))]) st1 ?_
  obtain ⟨kd, ekd⟩ : ∃ z, z = (own_kd ((pi0 &&& (2147483647 : Int32)) % (7 : Int32)) kw0 kw1 kw2 kw3 kw4 kw5 kw6) := ⟨_, rfl⟩
  have Ekd : Exa Z Z.heap kd "com/example/agave/agave/query/Tokens$Kind" := ekd ▸ own_kdE EK0 EK1 EK2 EK3 EK4 EK5 EK6
  rw [← ekd]
  refine og T1 (mkF m 24 #[vI pi0, vI pi1, vI pi2, vI pi3, vI pi4, vI pi5, vR kd, vI (pi5 &&& (3 : Int32)), vU, vU, vU, vU, vU, vU, vU, vU, vU, vU, vU, vU, vU, vU, vU, vU] [(.int (((pi5.toUInt32 >>> ((2 : Int32) &&& 31).toUInt32).toInt32) &&& (3 : Int32)))]) (fun _ k => XS.astore X1.here hx rfl (hb hby at_10) rfl rfl (l' := #[vI pi0, vI pi1, vI pi2, vI pi3, vI pi4, vI pi5, vR kd, vU, vU, vU, vU, vU, vU, vU, vU, vU, vU, vU, vU, vU, vU, vU, vU, vU]) rfl (XS.iload X1.here hx rfl (hb hby at_12) rfl (XS.iconst X1.here hx rfl (hb hby at_14) (XS.iand X1.here hx rfl (hb hby at_15) rfl (XS.istore X1.here hx rfl (hb hby at_16) rfl (l' := #[vI pi0, vI pi1, vI pi2, vI pi3, vI pi4, vI pi5, vR kd, vI (pi5 &&& (3 : Int32)), vU, vU, vU, vU, vU, vU, vU, vU, vU, vU, vU, vU, vU, vU, vU, vU]) rfl (XS.iload X1.here hx rfl (hb hby at_18) rfl (XS.iconst X1.here hx rfl (hb hby at_20) (XS.iushr X1.here hx rfl (hb hby at_21) rfl (XS.iconst X1.here hx rfl (hb hby at_22) (XS.iand X1.here hx rfl (hb hby at_23) rfl k)))))))))) ?_
  refine og T1 (mkF m 31 #[vI pi0, vI pi1, vI pi2, vI pi3, vI pi4, vI pi5, vR kd, vI (pi5 &&& (3 : Int32)), vI (((pi5.toUInt32 >>> ((2 : Int32) &&& 31).toUInt32).toInt32) &&& (3 : Int32)), vU, vU, vU, vU, vU, vU, vU, vU, vU, vU, vU, vU, vU, vU, vU] [(.int (pi1 &&& (255 : Int32)))]) (fun _ k => XS.istore X1.here hx rfl (hb hby at_24) rfl (l' := #[vI pi0, vI pi1, vI pi2, vI pi3, vI pi4, vI pi5, vR kd, vI (pi5 &&& (3 : Int32)), vI (((pi5.toUInt32 >>> ((2 : Int32) &&& 31).toUInt32).toInt32) &&& (3 : Int32)), vU, vU, vU, vU, vU, vU, vU, vU, vU, vU, vU, vU, vU, vU, vU]) rfl (XS.iloadN X1.here hx rfl (hb hby at_26) rfl (XS.sipush X1.here hx rfl (hb hby at_27) (XS.iand X1.here hx rfl (hb hby at_30) rfl k)))) ?_
  refine og T1 (mkF m 32 #[vI pi0, vI pi1, vI pi2, vI pi3, vI pi4, vI pi5, vR kd, vI (pi5 &&& (3 : Int32)), vI (((pi5.toUInt32 >>> ((2 : Int32) &&& 31).toUInt32).toInt32) &&& (3 : Int32)), vU, vU, vU, vU, vU, vU, vU, vU, vU, vU, vU, vU, vU, vU, vU] [(.int (pi1 &&& (255 : Int32)))]) (fun _ k => XS.i2c X1.here hx rfl (hb hby at_31) rfl (by rw [i2c_mask]; exact k)) ?_
  obtain ⟨t0, et0⟩ : ∃ z, z = (pi1 &&& (255 : Int32)) := ⟨_, rfl⟩
  have hlt0 : ¬ t0 < 0 ∧ ¬ (255 : Int32) < t0 := et0 ▸ own_m255 _
  rw [← et0]
  refine og T1 (mkF m 42 #[vI pi0, vI pi1, vI pi2, vI pi3, vI pi4, vI pi5, vR kd, vI (pi5 &&& (3 : Int32)), vI (((pi5.toUInt32 >>> ((2 : Int32) &&& 31).toUInt32).toInt32) &&& (3 : Int32)), vI t0, vU, vU, vU, vU, vU, vU, vU, vU, vU, vU, vU, vU, vU, vU] [(.int (((pi1.toUInt32 >>> ((8 : Int32) &&& 31).toUInt32).toInt32) &&& (255 : Int32)))]) (fun _ k => XS.istore X1.here hx rfl (hb hby at_32) rfl (l' := #[vI pi0, vI pi1, vI pi2, vI pi3, vI pi4, vI pi5, vR kd, vI (pi5 &&& (3 : Int32)), vI (((pi5.toUInt32 >>> ((2 : Int32) &&& 31).toUInt32).toInt32) &&& (3 : Int32)), vI t0, vU, vU, vU, vU, vU, vU, vU, vU, vU, vU, vU, vU, vU, vU]) rfl (XS.iloadN X1.here hx rfl (hb hby at_34) rfl (XS.bipush X1.here hx rfl (hb hby at_35) (XS.iushr X1.here hx rfl (hb hby at_37) rfl (XS.sipush X1.here hx rfl (hb hby at_38) (XS.iand X1.here hx rfl (hb hby at_41) rfl k)))))) ?_
  refine og T1 (mkF m 43 #[vI pi0, vI pi1, vI pi2, vI pi3, vI pi4, vI pi5, vR kd, vI (pi5 &&& (3 : Int32)), vI (((pi5.toUInt32 >>> ((2 : Int32) &&& 31).toUInt32).toInt32) &&& (3 : Int32)), vI t0, vU, vU, vU, vU, vU, vU, vU, vU, vU, vU, vU, vU, vU, vU] [(.int (((pi1.toUInt32 >>> ((8 : Int32) &&& 31).toUInt32).toInt32) &&& (255 : Int32)))]) (fun _ k => XS.i2c X1.here hx rfl (hb hby at_42) rfl (by rw [i2c_mask]; exact k)) ?_
  obtain ⟨t1, et1⟩ : ∃ z, z = (((pi1.toUInt32 >>> ((8 : Int32) &&& 31).toUInt32).toInt32) &&& (255 : Int32)) := ⟨_, rfl⟩
  have hlt1 : ¬ t1 < 0 ∧ ¬ (255 : Int32) < t1 := et1 ▸ own_m255 _
  rw [← et1]
  refine og T1 (mkF m 53 #[vI pi0, vI pi1, vI pi2, vI pi3, vI pi4, vI pi5, vR kd, vI (pi5 &&& (3 : Int32)), vI (((pi5.toUInt32 >>> ((2 : Int32) &&& 31).toUInt32).toInt32) &&& (3 : Int32)), vI t0, vI t1, vU, vU, vU, vU, vU, vU, vU, vU, vU, vU, vU, vU, vU] [(.int (((pi1.toUInt32 >>> ((16 : Int32) &&& 31).toUInt32).toInt32) &&& (255 : Int32)))]) (fun _ k => XS.istore X1.here hx rfl (hb hby at_43) rfl (l' := #[vI pi0, vI pi1, vI pi2, vI pi3, vI pi4, vI pi5, vR kd, vI (pi5 &&& (3 : Int32)), vI (((pi5.toUInt32 >>> ((2 : Int32) &&& 31).toUInt32).toInt32) &&& (3 : Int32)), vI t0, vI t1, vU, vU, vU, vU, vU, vU, vU, vU, vU, vU, vU, vU, vU]) rfl (XS.iloadN X1.here hx rfl (hb hby at_45) rfl (XS.bipush X1.here hx rfl (hb hby at_46) (XS.iushr X1.here hx rfl (hb hby at_48) rfl (XS.sipush X1.here hx rfl (hb hby at_49) (XS.iand X1.here hx rfl (hb hby at_52) rfl k)))))) ?_
  refine og T1 (mkF m 54 #[vI pi0, vI pi1, vI pi2, vI pi3, vI pi4, vI pi5, vR kd, vI (pi5 &&& (3 : Int32)), vI (((pi5.toUInt32 >>> ((2 : Int32) &&& 31).toUInt32).toInt32) &&& (3 : Int32)), vI t0, vI t1, vU, vU, vU, vU, vU, vU, vU, vU, vU, vU, vU, vU, vU] [(.int (((pi1.toUInt32 >>> ((16 : Int32) &&& 31).toUInt32).toInt32) &&& (255 : Int32)))]) (fun _ k => XS.i2c X1.here hx rfl (hb hby at_53) rfl (by rw [i2c_mask]; exact k)) ?_
  obtain ⟨t2, et2⟩ : ∃ z, z = (((pi1.toUInt32 >>> ((16 : Int32) &&& 31).toUInt32).toInt32) &&& (255 : Int32)) := ⟨_, rfl⟩
  have hlt2 : ¬ t2 < 0 ∧ ¬ (255 : Int32) < t2 := et2 ▸ own_m255 _
  rw [← et2]
  refine og T1 (mkF m 69 #[vI pi0, vI pi1, vI pi2, vI pi3, vI pi4, vI pi5, vR kd, vI (pi5 &&& (3 : Int32)), vI (((pi5.toUInt32 >>> ((2 : Int32) &&& 31).toUInt32).toInt32) &&& (3 : Int32)), vI t0, vI t1, vI t2, vU, vU, vU, vU, vU, vU, vU, vU, vU, vU, vU, vU] [(.int (((pi5.toUInt32 >>> ((4 : Int32) &&& 31).toUInt32).toInt32) &&& (3 : Int32))), (.int (pi2 &&& (255 : Int32))), (.int t0)]) (fun _ k => XS.istore X1.here hx rfl (hb hby at_54) rfl (l' := #[vI pi0, vI pi1, vI pi2, vI pi3, vI pi4, vI pi5, vR kd, vI (pi5 &&& (3 : Int32)), vI (((pi5.toUInt32 >>> ((2 : Int32) &&& 31).toUInt32).toInt32) &&& (3 : Int32)), vI t0, vI t1, vI t2, vU, vU, vU, vU, vU, vU, vU, vU, vU, vU, vU, vU]) rfl (XS.iload X1.here hx rfl (hb hby at_56) rfl (XS.iloadN X1.here hx rfl (hb hby at_58) rfl (XS.sipush X1.here hx rfl (hb hby at_59) (XS.iand X1.here hx rfl (hb hby at_62) rfl (XS.iload X1.here hx rfl (hb hby at_63) rfl (XS.iconst X1.here hx rfl (hb hby at_65) (XS.iushr X1.here hx rfl (hb hby at_66) rfl (XS.iconst X1.here hx rfl (hb hby at_67) (XS.iand X1.here hx rfl (hb hby at_68) rfl k)))))))))) ?_
  obtain ⟨_, _, ⟨T2, L2, k2, n2⟩, -, X2, ⟨Lc2, hQ2, l2, y2, z2⟩, st2⟩ := Jvm.LawKit.callS X1 hx (y := y10) hown (mvT hZ (own_w hw 8)) (mvT hZ (own_w hw 9)) (mvT hZ (own_w hw 3)) (mvT hZ (own_w hw 10)) (by decide) (backOf (W := 0) (rm2_52 l Z a0 hw t0 ((pi2 &&& (255 : Int32))) ((((pi5.toUInt32 >>> ((4 : Int32) &&& 31).toUInt32).toInt32) &&& (3 : Int32))) h0 n0 OLD hlt0 (own_m255 _)) hZ (own_w hw 10) (own_w hw 3) (lb rfl) (lb rfl)) (g := (mkF m 69 #[vI pi0, vI pi1, vI pi2, vI pi3, vI pi4, vI pi5, vR kd, vI (pi5 &&& (3 : Int32)), vI (((pi5.toUInt32 >>> ((2 : Int32) &&& 31).toUInt32).toInt32) &&& (3 : Int32)), vI t0, vI t1, vI t2, vU, vU, vU, vU, vU, vU, vU, vU, vU, vU, vU, vU] [(.int (((pi5.toUInt32 >>> ((4 : Int32) &&& 31).toUInt32).toInt32) &&& (3 : Int32))), (.int (pi2 &&& (255 : Int32))), (.int t0)])) rfl (by rw [hml]; rfl) (argsL := [(.int t0), (.int (pi2 &&& (255 : Int32))), (.int (((pi5.toUInt32 >>> ((4 : Int32) &&& 31).toUInt32).toInt32) &&& (3 : Int32)))]) (rest := []) (lenOf pd_8 rfl) rfl (lb rfl) (hb hby at_69) (fun _ _ => ⟨rfl, eq1, (lb rfl), (lb rfl)⟩)
  dsimp only [Pt.U, Pt.locs, Pt.cells, Pt.slots] at X2 l2 y2 z2 st2 hQ2
  subst l2 y2 z2
  obtain ⟨rfl, Nq2, eq2⟩ := hQ2
  have N2 := Fr.app N1 Nq2
  refine og T2 (mkF m 72 #[vI pi0, vI pi1, vI pi2, vI pi3, vI pi4, vI pi5, vR kd, vI (pi5 &&& (3 : Int32)), vI (((pi5.toUInt32 >>> ((2 : Int32) &&& 31).toUInt32).toInt32) &&& (3 : Int32)), vI t0, vI t1, vI t2, vU, vU, vU, vU, vU, vU, vU, vU, vU, vU, vU, vU] [(.int (own_ac t0 (pi2 &&& (255 : Int32)) (((pi5.toUInt32 >>> ((4 : Int32) &&& 31).toUInt32).toInt32) &&& (3 : Int32))))]) st2 ?_
  obtain ⟨s0, es0⟩ : ∃ z, z = (own_ac t0 (pi2 &&& (255 : Int32)) (((pi5.toUInt32 >>> ((4 : Int32) &&& 31).toUInt32).toInt32) &&& (3 : Int32))) := ⟨_, rfl⟩
  have hls0 : ¬ s0 < 0 ∧ ¬ (255 : Int32) < s0 := es0 ▸ own_acl hlt0 (own_m255 _)
  rw [← es0]
  refine og T2 (mkF m 89 #[vI pi0, vI pi1, vI pi2, vI pi3, vI pi4, vI pi5, vR kd, vI (pi5 &&& (3 : Int32)), vI (((pi5.toUInt32 >>> ((2 : Int32) &&& 31).toUInt32).toInt32) &&& (3 : Int32)), vI t0, vI t1, vI t2, vI s0, vU, vU, vU, vU, vU, vU, vU, vU, vU, vU, vU] [(.int ((pi5.toUInt32 >>> ((6 : Int32) &&& 31).toUInt32).toInt32)), (.int (((pi2.toUInt32 >>> ((8 : Int32) &&& 31).toUInt32).toInt32) &&& (255 : Int32))), (.int t1)]) (fun _ k => XS.istore X2.here hx rfl (hb hby at_72) rfl (l' := #[vI pi0, vI pi1, vI pi2, vI pi3, vI pi4, vI pi5, vR kd, vI (pi5 &&& (3 : Int32)), vI (((pi5.toUInt32 >>> ((2 : Int32) &&& 31).toUInt32).toInt32) &&& (3 : Int32)), vI t0, vI t1, vI t2, vI s0, vU, vU, vU, vU, vU, vU, vU, vU, vU, vU, vU]) rfl (XS.iload X2.here hx rfl (hb hby at_74) rfl (XS.iloadN X2.here hx rfl (hb hby at_76) rfl (XS.bipush X2.here hx rfl (hb hby at_77) (XS.iushr X2.here hx rfl (hb hby at_79) rfl (XS.sipush X2.here hx rfl (hb hby at_80) (XS.iand X2.here hx rfl (hb hby at_83) rfl (XS.iload X2.here hx rfl (hb hby at_84) rfl (XS.bipush X2.here hx rfl (hb hby at_86) (XS.iushr X2.here hx rfl (hb hby at_88) rfl k)))))))))) ?_
  refine og T2 (mkF m 91 #[vI pi0, vI pi1, vI pi2, vI pi3, vI pi4, vI pi5, vR kd, vI (pi5 &&& (3 : Int32)), vI (((pi5.toUInt32 >>> ((2 : Int32) &&& 31).toUInt32).toInt32) &&& (3 : Int32)), vI t0, vI t1, vI t2, vI s0, vU, vU, vU, vU, vU, vU, vU, vU, vU, vU, vU] [(.int (((pi5.toUInt32 >>> ((6 : Int32) &&& 31).toUInt32).toInt32) &&& (3 : Int32))), (.int (((pi2.toUInt32 >>> ((8 : Int32) &&& 31).toUInt32).toInt32) &&& (255 : Int32))), (.int t1)]) (fun _ k => XS.iconst X2.here hx rfl (hb hby at_89) (XS.iand X2.here hx rfl (hb hby at_90) rfl k)) ?_
  obtain ⟨_, _, ⟨T3, L3, k3, n3⟩, -, X3, ⟨Lc3, hQ3, l3, y3, z3⟩, st3⟩ := Jvm.LawKit.callS X2 hx (y := y10) hown (mvT hZ (own_w hw 8)) (mvT hZ (own_w hw 9)) (mvT hZ (own_w hw 3)) (mvT hZ (own_w hw 10)) (by decide) (backOf (W := 0) (rm2_52 l Z a0 hw t1 ((((pi2.toUInt32 >>> ((8 : Int32) &&& 31).toUInt32).toInt32) &&& (255 : Int32))) ((((pi5.toUInt32 >>> ((6 : Int32) &&& 31).toUInt32).toInt32) &&& (3 : Int32))) h0 n0 OLD hlt1 (own_m255 _)) hZ (own_w hw 10) (own_w hw 3) (lb rfl) (lb rfl)) (g := (mkF m 91 #[vI pi0, vI pi1, vI pi2, vI pi3, vI pi4, vI pi5, vR kd, vI (pi5 &&& (3 : Int32)), vI (((pi5.toUInt32 >>> ((2 : Int32) &&& 31).toUInt32).toInt32) &&& (3 : Int32)), vI t0, vI t1, vI t2, vI s0, vU, vU, vU, vU, vU, vU, vU, vU, vU, vU, vU] [(.int (((pi5.toUInt32 >>> ((6 : Int32) &&& 31).toUInt32).toInt32) &&& (3 : Int32))), (.int (((pi2.toUInt32 >>> ((8 : Int32) &&& 31).toUInt32).toInt32) &&& (255 : Int32))), (.int t1)])) rfl (by rw [hml]; rfl) (argsL := [(.int t1), (.int (((pi2.toUInt32 >>> ((8 : Int32) &&& 31).toUInt32).toInt32) &&& (255 : Int32))), (.int (((pi5.toUInt32 >>> ((6 : Int32) &&& 31).toUInt32).toInt32) &&& (3 : Int32)))]) (rest := []) (lenOf pd_8 rfl) rfl (lb rfl) (hb hby at_91) (fun _ _ => ⟨rfl, eq2, (lb rfl), (lb rfl)⟩)
  dsimp only [Pt.U, Pt.locs, Pt.cells, Pt.slots] at X3 l3 y3 z3 st3 hQ3
  subst l3 y3 z3
  obtain ⟨rfl, Nq3, eq3⟩ := hQ3
  have N3 := Fr.app N2 Nq3
  refine og T3 (mkF m 94 #[vI pi0, vI pi1, vI pi2, vI pi3, vI pi4, vI pi5, vR kd, vI (pi5 &&& (3 : Int32)), vI (((pi5.toUInt32 >>> ((2 : Int32) &&& 31).toUInt32).toInt32) &&& (3 : Int32)), vI t0, vI t1, vI t2, vI s0, vU, vU, vU, vU, vU, vU, vU, vU, vU, vU, vU] [(.int (own_ac t1 (((pi2.toUInt32 >>> ((8 : Int32) &&& 31).toUInt32).toInt32) &&& (255 : Int32)) (((pi5.toUInt32 >>> ((6 : Int32) &&& 31).toUInt32).toInt32) &&& (3 : Int32))))]) st3 ?_
  obtain ⟨s1, es1⟩ : ∃ z, z = (own_ac t1 (((pi2.toUInt32 >>> ((8 : Int32) &&& 31).toUInt32).toInt32) &&& (255 : Int32)) (((pi5.toUInt32 >>> ((6 : Int32) &&& 31).toUInt32).toInt32) &&& (3 : Int32))) := ⟨_, rfl⟩
  have hls1 : ¬ s1 < 0 ∧ ¬ (255 : Int32) < s1 := es1 ▸ own_acl hlt1 (own_m255 _)
  rw [← es1]
  refine og T3 (mkF m 111 #[vI pi0, vI pi1, vI pi2, vI pi3, vI pi4, vI pi5, vR kd, vI (pi5 &&& (3 : Int32)), vI (((pi5.toUInt32 >>> ((2 : Int32) &&& 31).toUInt32).toInt32) &&& (3 : Int32)), vI t0, vI t1, vI t2, vI s0, vI s1, vU, vU, vU, vU, vU, vU, vU, vU, vU, vU] [(.int ((pi5.toUInt32 >>> ((8 : Int32) &&& 31).toUInt32).toInt32)), (.int (((pi2.toUInt32 >>> ((16 : Int32) &&& 31).toUInt32).toInt32) &&& (255 : Int32))), (.int t2)]) (fun _ k => XS.istore X3.here hx rfl (hb hby at_94) rfl (l' := #[vI pi0, vI pi1, vI pi2, vI pi3, vI pi4, vI pi5, vR kd, vI (pi5 &&& (3 : Int32)), vI (((pi5.toUInt32 >>> ((2 : Int32) &&& 31).toUInt32).toInt32) &&& (3 : Int32)), vI t0, vI t1, vI t2, vI s0, vI s1, vU, vU, vU, vU, vU, vU, vU, vU, vU, vU]) rfl (XS.iload X3.here hx rfl (hb hby at_96) rfl (XS.iloadN X3.here hx rfl (hb hby at_98) rfl (XS.bipush X3.here hx rfl (hb hby at_99) (XS.iushr X3.here hx rfl (hb hby at_101) rfl (XS.sipush X3.here hx rfl (hb hby at_102) (XS.iand X3.here hx rfl (hb hby at_105) rfl (XS.iload X3.here hx rfl (hb hby at_106) rfl (XS.bipush X3.here hx rfl (hb hby at_108) (XS.iushr X3.here hx rfl (hb hby at_110) rfl k)))))))))) ?_
  refine og T3 (mkF m 113 #[vI pi0, vI pi1, vI pi2, vI pi3, vI pi4, vI pi5, vR kd, vI (pi5 &&& (3 : Int32)), vI (((pi5.toUInt32 >>> ((2 : Int32) &&& 31).toUInt32).toInt32) &&& (3 : Int32)), vI t0, vI t1, vI t2, vI s0, vI s1, vU, vU, vU, vU, vU, vU, vU, vU, vU, vU] [(.int (((pi5.toUInt32 >>> ((8 : Int32) &&& 31).toUInt32).toInt32) &&& (3 : Int32))), (.int (((pi2.toUInt32 >>> ((16 : Int32) &&& 31).toUInt32).toInt32) &&& (255 : Int32))), (.int t2)]) (fun _ k => XS.iconst X3.here hx rfl (hb hby at_111) (XS.iand X3.here hx rfl (hb hby at_112) rfl k)) ?_
  obtain ⟨_, _, ⟨T4, L4, k4, n4⟩, -, X4, ⟨Lc4, hQ4, l4, y4, z4⟩, st4⟩ := Jvm.LawKit.callS X3 hx (y := y10) hown (mvT hZ (own_w hw 8)) (mvT hZ (own_w hw 9)) (mvT hZ (own_w hw 3)) (mvT hZ (own_w hw 10)) (by decide) (backOf (W := 0) (rm2_52 l Z a0 hw t2 ((((pi2.toUInt32 >>> ((16 : Int32) &&& 31).toUInt32).toInt32) &&& (255 : Int32))) ((((pi5.toUInt32 >>> ((8 : Int32) &&& 31).toUInt32).toInt32) &&& (3 : Int32))) h0 n0 OLD hlt2 (own_m255 _)) hZ (own_w hw 10) (own_w hw 3) (lb rfl) (lb rfl)) (g := (mkF m 113 #[vI pi0, vI pi1, vI pi2, vI pi3, vI pi4, vI pi5, vR kd, vI (pi5 &&& (3 : Int32)), vI (((pi5.toUInt32 >>> ((2 : Int32) &&& 31).toUInt32).toInt32) &&& (3 : Int32)), vI t0, vI t1, vI t2, vI s0, vI s1, vU, vU, vU, vU, vU, vU, vU, vU, vU, vU] [(.int (((pi5.toUInt32 >>> ((8 : Int32) &&& 31).toUInt32).toInt32) &&& (3 : Int32))), (.int (((pi2.toUInt32 >>> ((16 : Int32) &&& 31).toUInt32).toInt32) &&& (255 : Int32))), (.int t2)])) rfl (by rw [hml]; rfl) (argsL := [(.int t2), (.int (((pi2.toUInt32 >>> ((16 : Int32) &&& 31).toUInt32).toInt32) &&& (255 : Int32))), (.int (((pi5.toUInt32 >>> ((8 : Int32) &&& 31).toUInt32).toInt32) &&& (3 : Int32)))]) (rest := []) (lenOf pd_8 rfl) rfl (lb rfl) (hb hby at_113) (fun _ _ => ⟨rfl, eq3, (lb rfl), (lb rfl)⟩)
  dsimp only [Pt.U, Pt.locs, Pt.cells, Pt.slots] at X4 l4 y4 z4 st4 hQ4
  subst l4 y4 z4
  obtain ⟨rfl, Nq4, eq4⟩ := hQ4
  have N4 := Fr.app N3 Nq4
  refine og T4 (mkF m 116 #[vI pi0, vI pi1, vI pi2, vI pi3, vI pi4, vI pi5, vR kd, vI (pi5 &&& (3 : Int32)), vI (((pi5.toUInt32 >>> ((2 : Int32) &&& 31).toUInt32).toInt32) &&& (3 : Int32)), vI t0, vI t1, vI t2, vI s0, vI s1, vU, vU, vU, vU, vU, vU, vU, vU, vU, vU] [(.int (own_ac t2 (((pi2.toUInt32 >>> ((16 : Int32) &&& 31).toUInt32).toInt32) &&& (255 : Int32)) (((pi5.toUInt32 >>> ((8 : Int32) &&& 31).toUInt32).toInt32) &&& (3 : Int32))))]) st4 ?_
  obtain ⟨s2, es2⟩ : ∃ z, z = (own_ac t2 (((pi2.toUInt32 >>> ((16 : Int32) &&& 31).toUInt32).toInt32) &&& (255 : Int32)) (((pi5.toUInt32 >>> ((8 : Int32) &&& 31).toUInt32).toInt32) &&& (3 : Int32))) := ⟨_, rfl⟩
  have hls2 : ¬ s2 < 0 ∧ ¬ (255 : Int32) < s2 := es2 ▸ own_acl hlt2 (own_m255 _)
  rw [← es2]
  refine og T4 (mkF m 118 #[vI pi0, vI pi1, vI pi2, vI pi3, vI pi4, vI pi5, vR kd, vI (pi5 &&& (3 : Int32)), vI (((pi5.toUInt32 >>> ((2 : Int32) &&& 31).toUInt32).toInt32) &&& (3 : Int32)), vI t0, vI t1, vI t2, vI s0, vI s1, vI s2, vU, vU, vU, vU, vU, vU, vU, vU, vU] []) (fun _ k => XS.istore X4.here hx rfl (hb hby at_116) rfl (l' := #[vI pi0, vI pi1, vI pi2, vI pi3, vI pi4, vI pi5, vR kd, vI (pi5 &&& (3 : Int32)), vI (((pi5.toUInt32 >>> ((2 : Int32) &&& 31).toUInt32).toInt32) &&& (3 : Int32)), vI t0, vI t1, vI t2, vI s0, vI s1, vI s2, vU, vU, vU, vU, vU, vU, vU, vU, vU]) rfl k) ?_
  have J5 : ∀ (T6 : State) (L6 : List Loc) (h6 : Heap) (bT : Addr) (kcT : ClassId) (zT : Int32) (csT : List Int32), own_at2 X4 T6 L6 1 3 → T6.heap = h6 → Fr n0 L6 → Keep h0 h6 [] → h0.size ≤ bT → Arv Z h6 bT kcT .char zT (csT.map Value.int) (.int (0 : Int32)) → own_pre zT csT t0 t1 t2 → own_Fin p.tables e below (own_PW s Z own_EL (Qlaw Z pi0 pi1 pi2 pi3 pi4 pi5 kw0 kw1 kw2 kw3 kw4 kw5 kw6 G1 h0 n0) room_1.cells room_1.slots) T6 (mkF m 159 #[vI pi0, vI pi1, vI pi2, vI pi3, vI pi4, vI pi5, vR kd, vI zT, vI (((pi5.toUInt32 >>> ((2 : Int32) &&& 31).toUInt32).toInt32) &&& (3 : Int32)), vI t0, vI t1, vI t2, vI s0, vI s1, vI s2, vR bT, vU, vU, vU, vU, vU, vU, vU, vU] []) := by
    intro T6 L6 h6 bT kcT zT csT X6 e6 N6 K6 lo6 V6 hvT
    unfold own_at2 at X6
    have g7 : n0 ≤ bT := Nat.le_trans (own_osz OLD) lo6
    have z8 : h0.size ≤ bT := Nat.le_trans (Nat.le_refl _) lo6
    have ch9 := CHr.keep K6 all0 CH0.1
    have CH10 := CHr.trans CH0 ch9
    have hpT := own_pre_lat hvT hlt0 hlt1 hlt2
    have hnT := own_pre_len hvT
    have hNT := own_pre_n hvT
    have J11 : ∀ (T12 : State) (L12 : List Loc) (h12 : Heap) (bS : Addr) (kcS : ClassId) (zS : Int32) (csS : List Int32), own_at2 X6 T12 L12 2 6 → T12.heap = h12 → Fr n0 L12 → Keep h6 h12 [] → h6.size ≤ bS → Arv Z h12 bS kcS .char zS (csS.map Value.int) (.int (0 : Int32)) → own_pre zS csS s0 s1 s2 → own_Fin p.tables e below (own_PW s Z own_EL (Qlaw Z pi0 pi1 pi2 pi3 pi4 pi5 kw0 kw1 kw2 kw3 kw4 kw5 kw6 G1 h0 n0) room_1.cells room_1.slots) T12 (mkF m 200 #[vI pi0, vI pi1, vI pi2, vI pi3, vI pi4, vI pi5, vR kd, vI zT, vI zS, vI t0, vI t1, vI t2, vI s0, vI s1, vI s2, vR bT, vR bS, vU, vU, vU, vU, vU, vU, vU] []) := by
      intro T12 L12 h12 bS kcS zS csS X12 e12 N12 K12 lo12 V12 hvS
      unfold own_at2 at X12
      have F14 := (OLD.keep K6 all0)
      have g13 : n0 ≤ bS := Nat.le_trans (own_osz F14) lo12
      have F16 := (Nat.le_trans (Nat.le_refl _) K6.1)
      have z15 : h0.size ≤ bS := Nat.le_trans F16 lo12
      have ch17 := CHr.keep K12 all0 CH10.1
      have CH18 := CHr.trans CH10 ch17
      have hpS := own_pre_lat hvS hls0 hls1 hls2
      have hnS := own_pre_len hvS
      have hNS := own_pre_n hvS
      obtain ⟨T19, h19, X19, e19, E19, A19, D19, U19, st19⟩ := newO X12 hx hZ hown (own_w hw 12) (own_w hw 13) (own_w hw 14) e12 (g := (mkF m 200 #[vI pi0, vI pi1, vI pi2, vI pi3, vI pi4, vI pi5, vR kd, vI zT, vI zS, vI t0, vI t1, vI t2, vI s0, vI s1, vI s2, vR bT, vR bS, vU, vU, vU, vU, vU, vU, vU] [])) rfl (hb hby at_200) (lb rfl) (lb rfl)
      obtain ⟨b19, gb19⟩ : ∃ z, z = h12.size := ⟨_, rfl⟩
      rw [← gb19] at A19 D19 U19 st19
      have F21 := (F14.keep K12 all0)
      have g20 : n0 ≤ b19 := Nat.le_trans (own_osz F21) (Nat.le_of_eq gb19.symm)
      have F23 := (Nat.le_trans F16 K12.1)
      have z22 : h0.size ≤ b19 := Nat.le_trans F23 (Nat.le_of_eq gb19.symm)
      have ch24 := CHr.ext E19 CH18.1
      have CH25 := CHr.trans CH18 ch24
      have sf26 := own_safe_new CH18.1 E19 (Nat.le_of_eq gb19.symm)
      refine og T19 (mkF m 203 #[vI pi0, vI pi1, vI pi2, vI pi3, vI pi4, vI pi5, vR kd, vI zT, vI zS, vI t0, vI t1, vI t2, vI s0, vI s1, vI s2, vR bT, vR bS, vU, vU, vU, vU, vU, vU, vU] [(.ref b19)]) st19 ?_
      refine og T19 (mkF m 206 #[vI pi0, vI pi1, vI pi2, vI pi3, vI pi4, vI pi5, vR kd, vI zT, vI zS, vI t0, vI t1, vI t2, vI s0, vI s1, vI s2, vR bT, vR bS, vU, vU, vU, vU, vU, vU, vU] [(.ref bT), (.ref b19), (.ref b19)]) (fun _ k => XS.dup X19.here hx rfl (hb hby at_203) rfl rfl (XS.aload X19.here hx rfl (hb hby at_204) rfl rfl k)) ?_
      have F27 := ((V6.keep K12 nin0).ext E19)
      have F28 := (F21.ext E19)
      obtain ⟨_, _, ⟨T29, L29, k29, n29⟩, -, X29, hs29, hg29, ⟨Lc29, hQ29, l29, y29, z29, ch29⟩, st29⟩ := X19.specialBackS hx (y := y1) rfl hown (mvT hZ (own_w hw 15)) (mvT hZ (own_w hw 16)) (mvT hZ (own_w hw 17)) (by decide) (own_newS (W := 1) hZ hw F28 g20 A19 (D19 (Or.inr (own_w hw 40)) (ty := (.array .byte)) (by decide)) (D19 (Or.inr (own_w hw 38)) (ty := .byte) (by decide)) F27 O2 P5 hNT hnT hpT A19.lt sf26 CH25.1 (lb rfl) (lb rfl)) (g := (mkF m 206 #[vI pi0, vI pi1, vI pi2, vI pi3, vI pi4, vI pi5, vR kd, vI zT, vI zS, vI t0, vI t1, vI t2, vI s0, vI s1, vI s2, vR bT, vR bS, vU, vU, vU, vU, vU, vU, vU] [(.ref bT), (.ref b19), (.ref b19)])) rfl (by rw [hml]; rfl) (Steps.refl _) (a := b19) (argsL := [(.ref bT)]) (rest := [(.ref b19)]) (lenOf pd_9 rfl) rfl (lb rfl) (hb hby at_206) (fun _ _ => ⟨rfl, e19, (lb rfl), (lb rfl)⟩)
      dsimp only [Pt.U, Pt.locs, Pt.cells, Pt.slots] at X29 l29 y29 z29 st29 hQ29 hs29 hg29 ch29
      subst l29 y29 z29
      replace X29 := own_reb X29
      have F30 := (Nat.le_trans (Nat.le_trans (Nat.le_trans hk0 K6.1) K12.1) E19.1)
      obtain ⟨hZ29, hS29, hown29⟩ := own_after hZ hS0 e19 F30 hs29 hg29 hown
      obtain ⟨rfl, Nq29, K29, Ex29, Fc29, t29, kb29, lt29, Fv29, Av29⟩ := hQ29
      have N29 := Fr.app N12 Nq29
      have CH31 := CHr.trans CH25 ch29
      refine ot T29 (mkF m 209 #[vI pi0, vI pi1, vI pi2, vI pi3, vI pi4, vI pi5, vR kd, vI zT, vI zS, vI t0, vI t1, vI t2, vI s0, vI s1, vI s2, vR bT, vR bS, vU, vU, vU, vU, vU, vU, vU] [(.ref b19)]) st29 ?_
      refine og T29 (mkF m 211 #[vI pi0, vI pi1, vI pi2, vI pi3, vI pi4, vI pi5, vR kd, vI zT, vI zS, vI t0, vI t1, vI t2, vI s0, vI s1, vI s2, vR bT, vR bS, vR b19, vU, vU, vU, vU, vU, vU] []) (fun _ k => XS.astore X29.here hx rfl (hb hby at_209) rfl rfl (l' := #[vI pi0, vI pi1, vI pi2, vI pi3, vI pi4, vI pi5, vR kd, vI zT, vI zS, vI t0, vI t1, vI t2, vI s0, vI s1, vI s2, vR bT, vR bS, vR b19, vU, vU, vU, vU, vU, vU]) rfl k) ?_
      obtain ⟨T32, h32, X32, e32, E32, A32, D32, U32, st32⟩ := newO X29 hx hZ29 hown29 (own_w hw 12) (own_w hw 13) (own_w hw 14) rfl (g := (mkF m 211 #[vI pi0, vI pi1, vI pi2, vI pi3, vI pi4, vI pi5, vR kd, vI zT, vI zS, vI t0, vI t1, vI t2, vI s0, vI s1, vI s2, vR bT, vR bS, vR b19, vU, vU, vU, vU, vU, vU] [])) rfl (hb hby at_211) (lb rfl) (lb rfl)
      obtain ⟨b32, gb32⟩ : ∃ z, z = T29.heap.size := ⟨_, rfl⟩
      rw [← gb32] at A32 D32 U32 st32
      have F34 := (F28.keep K29 (allS g20 all0))
      have g33 : n0 ≤ b32 := Nat.le_trans (own_osz F34) (Nat.le_of_eq gb32.symm)
      have F36 := (Nat.le_trans (Nat.le_trans F23 E19.1) K29.1)
      have z35 : h0.size ≤ b32 := Nat.le_trans F36 (Nat.le_of_eq gb32.symm)
      have ch37 := CHr.ext E32 CH31.1
      have CH38 := CHr.trans CH31 ch37
      have sf39 := own_safe_new CH31.1 E32 (Nat.le_of_eq gb32.symm)
      refine og T32 (mkF m 214 #[vI pi0, vI pi1, vI pi2, vI pi3, vI pi4, vI pi5, vR kd, vI zT, vI zS, vI t0, vI t1, vI t2, vI s0, vI s1, vI s2, vR bT, vR bS, vR b19, vU, vU, vU, vU, vU, vU] [(.ref b32)]) st32 ?_
      refine og T32 (mkF m 217 #[vI pi0, vI pi1, vI pi2, vI pi3, vI pi4, vI pi5, vR kd, vI zT, vI zS, vI t0, vI t1, vI t2, vI s0, vI s1, vI s2, vR bT, vR bS, vR b19, vU, vU, vU, vU, vU, vU] [(.ref bS), (.ref b32), (.ref b32)]) (fun _ k => XS.dup X32.here hx rfl (hb hby at_214) rfl rfl (XS.aload X32.here hx rfl (hb hby at_215) rfl rfl k)) ?_
      have F40 := (((V12.ext E19).keep K29 (ninS (own_ne_lo V12.lt (Nat.le_of_eq gb19.symm)) nin0)).ext E32)
      have F41 := (F34.ext E32)
      obtain ⟨_, _, ⟨T42, L42, k42, n42⟩, -, X42, hs42, hg42, ⟨Lc42, hQ42, l42, y42, z42, ch42⟩, st42⟩ := X32.specialBackS hx (y := y1) rfl hown29 (mvT hZ29 (own_w hw 15)) (mvT hZ29 (own_w hw 16)) (mvT hZ29 (own_w hw 17)) (by decide) (own_newS (W := 1) hZ29 hw F41 g33 A32 (D32 (Or.inr (own_w hw 40)) (ty := (.array .byte)) (by decide)) (D32 (Or.inr (own_w hw 38)) (ty := .byte) (by decide)) F40 O2 P5 hNS hnS hpS A32.lt sf39 CH38.1 (lb rfl) (lb rfl)) (g := (mkF m 217 #[vI pi0, vI pi1, vI pi2, vI pi3, vI pi4, vI pi5, vR kd, vI zT, vI zS, vI t0, vI t1, vI t2, vI s0, vI s1, vI s2, vR bT, vR bS, vR b19, vU, vU, vU, vU, vU, vU] [(.ref bS), (.ref b32), (.ref b32)])) rfl (by rw [hml]; rfl) (Steps.refl _) (a := b32) (argsL := [(.ref bS)]) (rest := [(.ref b32)]) (lenOf pd_9 rfl) rfl (lb rfl) (hb hby at_217) (fun _ _ => ⟨rfl, e32, (lb rfl), (lb rfl)⟩)
      dsimp only [Pt.U, Pt.locs, Pt.cells, Pt.slots] at X42 l42 y42 z42 st42 hQ42 hs42 hg42 ch42
      subst l42 y42 z42
      replace X42 := own_reb X42
      have F43 := (Nat.le_trans (Nat.le_refl _) E32.1)
      obtain ⟨hZ42, hS42, hown42⟩ := own_after hZ29 hS29 e32 F43 hs42 hg42 hown29
      obtain ⟨rfl, Nq42, K42, Ex42, Fc42, t42, kb42, lt42, Fv42, Av42⟩ := hQ42
      have N42 := Fr.app N29 Nq42
      have CH44 := CHr.trans CH38 ch42
      refine ot T42 (mkF m 220 #[vI pi0, vI pi1, vI pi2, vI pi3, vI pi4, vI pi5, vR kd, vI zT, vI zS, vI t0, vI t1, vI t2, vI s0, vI s1, vI s2, vR bT, vR bS, vR b19, vU, vU, vU, vU, vU, vU] [(.ref b32)]) st42 ?_
      refine og T42 (mkF m 225 #[vI pi0, vI pi1, vI pi2, vI pi3, vI pi4, vI pi5, vR kd, vI zT, vI zS, vI t0, vI t1, vI t2, vI s0, vI s1, vI s2, vR bT, vR bS, vR b19, vR b32, vU, vU, vU, vU, vU] [(.int (pi3 &&& (1 : Int32)))]) (fun _ k => XS.astore X42.here hx rfl (hb hby at_220) rfl rfl (l' := #[vI pi0, vI pi1, vI pi2, vI pi3, vI pi4, vI pi5, vR kd, vI zT, vI zS, vI t0, vI t1, vI t2, vI s0, vI s1, vI s2, vR bT, vR bS, vR b19, vR b32, vU, vU, vU, vU, vU]) rfl (XS.iloadN X42.here hx rfl (hb hby at_222) rfl (XS.iconst X42.here hx rfl (hb hby at_223) (XS.iand X42.here hx rfl (hb hby at_224) rfl k)))) ?_
      have J45 : ∀ (T46 : State), own_at X42 T46 → T46.heap = T42.heap → ∀ (vv : Value), vv.isRef = true → own_Fin p.tables e below (own_PW s Z own_EL (Qlaw Z pi0 pi1 pi2 pi3 pi4 pi5 kw0 kw1 kw2 kw3 kw4 kw5 kw6 G1 h0 n0) room_1.cells room_1.slots) T46 (mkF m 234 #[vI pi0, vI pi1, vI pi2, vI pi3, vI pi4, vI pi5, vR kd, vI zT, vI zS, vI t0, vI t1, vI t2, vI s0, vI s1, vI s2, vR bT, vR bS, vR b19, vR b32, vU, vU, vU, vU, vU] [vv]) := by
        intro T46 X46 e46 vv hv46
        unfold own_at at X46
        refine og T46 (mkF m 236 #[vI pi0, vI pi1, vI pi2, vI pi3, vI pi4, vI pi5, vR kd, vI zT, vI zS, vI t0, vI t1, vI t2, vI s0, vI s1, vI s2, vR bT, vR bS, vR b19, vR b32, .val vv, vU, vU, vU, vU] []) (fun _ k => XS.astore X46.here hx rfl (hb hby at_234) rfl hv46 (l' := #[vI pi0, vI pi1, vI pi2, vI pi3, vI pi4, vI pi5, vR kd, vI zT, vI zS, vI t0, vI t1, vI t2, vI s0, vI s1, vI s2, vR bT, vR bS, vR b19, vR b32, .val vv, vU, vU, vU, vU]) (XS.store1 rfl (Or.inl rfl) (own_cat hv46)) k) ?_
        obtain ⟨T47, h47, X47, e47, E47, A47, D47, U47, st47⟩ := newO X46 hx hZ42 hown42 (own_w hw 44) (own_w hw 45) (own_w hw 46) e46 (g := (mkF m 236 #[vI pi0, vI pi1, vI pi2, vI pi3, vI pi4, vI pi5, vR kd, vI zT, vI zS, vI t0, vI t1, vI t2, vI s0, vI s1, vI s2, vR bT, vR bS, vR b19, vR b32, .val vv, vU, vU, vU, vU] [])) rfl (hb hby at_236) (lb rfl) (lb rfl)
        obtain ⟨b47, gb47⟩ : ∃ z, z = T42.heap.size := ⟨_, rfl⟩
        rw [← gb47] at A47 D47 U47 st47
        have F49 := (F41.keep K42 (allS g33 all0))
        have g48 : n0 ≤ b47 := Nat.le_trans (own_osz F49) (Nat.le_of_eq gb47.symm)
        have F51 := (Nat.le_trans (Nat.le_trans F36 E32.1) K42.1)
        have z50 : h0.size ≤ b47 := Nat.le_trans F51 (Nat.le_of_eq gb47.symm)
        have ch52 := CHr.ext E47 CH44.1
        have CH53 := CHr.trans CH44 ch52
        refine og T47 (mkF m 239 #[vI pi0, vI pi1, vI pi2, vI pi3, vI pi4, vI pi5, vR kd, vI zT, vI zS, vI t0, vI t1, vI t2, vI s0, vI s1, vI s2, vR bT, vR bS, vR b19, vR b32, .val vv, vU, vU, vU, vU] [(.ref b47)]) st47 ?_
        refine og T47 (mkF m 248 #[vI pi0, vI pi1, vI pi2, vI pi3, vI pi4, vI pi5, vR kd, vI zT, vI zS, vI t0, vI t1, vI t2, vI s0, vI s1, vI s2, vR bT, vR bS, vR b19, vR b32, .val vv, vU, vU, vU, vU] [(.int pi4), vv, (.ref b19), (.ref kd), (.ref b47), (.ref b47)]) (fun _ k => XS.dup X47.here hx rfl (hb hby at_239) rfl rfl (XS.aload X47.here hx rfl (hb hby at_240) rfl rfl (XS.aload X47.here hx rfl (hb hby at_242) rfl rfl (XS.aload X47.here hx rfl (hb hby at_244) rfl hv46 (XS.iload X47.here hx rfl (hb hby at_246) rfl k))))) ?_
        have F54 := (F49.ext E47)
        have F55 := (((Ex29.ext E32).keep K42).ext E47)
        have F56 := (((Fc29.ext E32).keep K42 (ninS (own_ne_lo (Nat.lt_of_lt_of_le A19.lt K29.1) (Nat.le_of_eq gb32.symm)) nin0)).ext E47)
        have F57 := (((Fv29.ext E32).keep K42 (ninS (own_ne_lo (Nat.lt_of_lt_of_le A19.lt K29.1) (Nat.le_of_eq gb32.symm)) nin0)).ext E47)
        have F58 := (((Av29.ext E32).keep K42 (ninS (own_ne_lo lt29 (Nat.le_of_eq gb32.symm)) nin0)).ext E47)
        obtain ⟨_, _, ⟨T59, L59, k59, n59⟩, -, X59, ⟨Lc59, hQ59, l59, y59, z59⟩, st59⟩ := X47.specialBack hx (y := y11) rfl hown42 (mvT hZ42 (own_w hw 47)) (mvT hZ42 (own_w hw 48)) (mvT hZ42 (own_w hw 49)) (by decide) (backOf (W := 1) (rm9_53 l Z a0 hw b47 kd b19 t29 kb29 (((csT.map (fun c => c.toInt8.toInt32)).map Value.int)) zT vv pi4 h47 n0 F54 A47 (D47 (Or.inr (own_w hw 52)) (ty := (.object "com/example/agave/agave/query/Tokens$Kind")) (by decide)) (D47 (Or.inr (own_w hw 58)) (ty := .int) (by decide)) (D47 (Or.inr (own_w hw 54)) (ty := (.object "java/lang/String")) (by decide)) (D47 (Or.inr (own_w hw 56)) (ty := (.object "java/lang/Object")) (by decide)) (Ekd.ext F54.2) F55 F56 F57 F58 g48 hv46) hZ42 (own_w hw 49) (own_w hw 46) (lb rfl) (lb rfl)) (g := (mkF m 248 #[vI pi0, vI pi1, vI pi2, vI pi3, vI pi4, vI pi5, vR kd, vI zT, vI zS, vI t0, vI t1, vI t2, vI s0, vI s1, vI s2, vR bT, vR bS, vR b19, vR b32, .val vv, vU, vU, vU, vU] [(.int pi4), vv, (.ref b19), (.ref kd), (.ref b47), (.ref b47)])) rfl (by rw [hml]; rfl) (Steps.refl _) (a := b47) (argsL := [(.ref kd), (.ref b19), vv, (.int pi4)]) (rest := [(.ref b47)]) (lenOf pd_10 rfl) rfl (lb rfl) (hb hby at_248) (fun _ _ => ⟨rfl, e47, (lb rfl), (lb rfl)⟩)
        dsimp only [Pt.U, Pt.locs, Pt.cells, Pt.slots] at X59 l59 y59 z59 st59 hQ59
        subst l59 y59 z59
        obtain ⟨rfl, Nq59, K59, f60, f61, f62, f63⟩ := hQ59
        have N59 := Fr.app N42 Nq59
        have ch64 := CHr.keep K59 (allS (Safe.exa hZ42.alike A47 (by decide) (by decide)) all0) CH53.1
        have CH65 := CHr.trans CH53 ch64
        refine ot T59 (mkF m 251 #[vI pi0, vI pi1, vI pi2, vI pi3, vI pi4, vI pi5, vR kd, vI zT, vI zS, vI t0, vI t1, vI t2, vI s0, vI s1, vI s2, vR bT, vR bS, vR b19, vR b32, .val vv, vU, vU, vU, vU] [(.ref b47)]) st59 ?_
        refine og T59 (mkF m 257 #[vI pi0, vI pi1, vI pi2, vI pi3, vI pi4, vI pi5, vR kd, vI zT, vI zS, vI t0, vI t1, vI t2, vI s0, vI s1, vI s2, vR bT, vR bS, vR b19, vR b32, .val vv, vR b47, vU, vU, vU] [(.ref b32), (.ref b47)]) (fun _ k => XS.astore X59.here hx rfl (hb hby at_251) rfl rfl (l' := #[vI pi0, vI pi1, vI pi2, vI pi3, vI pi4, vI pi5, vR kd, vI zT, vI zS, vI t0, vI t1, vI t2, vI s0, vI s1, vI s2, vR bT, vR bS, vR b19, vR b32, .val vv, vR b47, vU, vU, vU]) rfl (XS.aload X59.here hx rfl (hb hby at_253) rfl rfl (XS.aload X59.here hx rfl (hb hby at_255) rfl rfl k))) ?_
        have F66 := (A47.keep K59)
        have F67 := (F55.keep K59)
        have F68 := (F56.keep K59 (ninS (own_ne_lo (Nat.lt_of_lt_of_le (Nat.lt_of_lt_of_le (Nat.lt_of_lt_of_le A19.lt K29.1) E32.1) K42.1) (Nat.le_of_eq gb47.symm)) nin0))
        have F69 := (F57.keep K59 (ninS (own_ne_lo (Nat.lt_of_lt_of_le (Nat.lt_of_lt_of_le (Nat.lt_of_lt_of_le A19.lt K29.1) E32.1) K42.1) (Nat.le_of_eq gb47.symm)) nin0))
        have F70 := (F58.keep K59 (ninS (own_ne_lo (Nat.lt_of_lt_of_le (Nat.lt_of_lt_of_le lt29 E32.1) K42.1) (Nat.le_of_eq gb47.symm)) nin0))
        have F71 := ((Ex42.ext E47).keep K59)
        have F72 := ((Fc42.ext E47).keep K59 (ninS (own_ne_lo (Nat.lt_of_lt_of_le A32.lt K42.1) (Nat.le_of_eq gb47.symm)) nin0))
        have F73 := ((Fv42.ext E47).keep K59 (ninS (own_ne_lo (Nat.lt_of_lt_of_le A32.lt K42.1) (Nat.le_of_eq gb47.symm)) nin0))
        have F74 := ((Av42.ext E47).keep K59 (ninS (own_ne_lo lt42 (Nat.le_of_eq gb47.symm)) nin0))
        have F75 := (F54.keep K59 (allS g48 all0))
        obtain ⟨cq76, kq76, q76a, q76b, q76c⟩ := isOf hZ42 rfl F66
        obtain ⟨_, _, ⟨T76, L76, k76, n76⟩, -, X76, ⟨Lc76, hQ76, l76, y76, z76⟩, st76⟩ := X59.virtualBack hx (y := y7) (z := y7) hown42 (mvT hZ42 (own_w hw 59)) (mvT hZ42 (own_w hw 60)) (notFace_of_selects (args := #[]) (mvT hZ42 (own_w hw 62))) (mvT hZ42 (own_w hw 62)) (mvT hZ42 (own_w hw 61)) (by decide) (backOf (W := 0) (own_isG l Z a0 hw G1 kw0 kw5 b47 kd b19 t29 b32 t42 kb29 kb42 csT csS hnT hnS T59.heap n0 F75 F66 f60 f62 F67 F68 F69 (own_castz hNT F70) F71 F72 F73 (own_castz hNS F74) hpT hpS (own_ne_lo (Nat.lt_of_lt_of_le A19.lt K29.1) (Nat.le_of_eq gb32.symm)) SK0 EK0 O2 P5 SK5 EK5) hZ42 (own_w hw 63) (own_w hw 46) (lb rfl) (lb rfl)) q76a q76c (g := (mkF m 257 #[vI pi0, vI pi1, vI pi2, vI pi3, vI pi4, vI pi5, vR kd, vI zT, vI zS, vI t0, vI t1, vI t2, vI s0, vI s1, vI s2, vR bT, vR bS, vR b19, vR b32, .val vv, vR b47, vU, vU, vU] [(.ref b32), (.ref b47)])) rfl (by rw [hml]; rfl) (Steps.refl _) (argsL := [(.ref b32)]) (rest := []) (lenOf pd_5 rfl) rfl (lb rfl) (hb hby at_257) (fun _ _ => ⟨rfl, rfl, (lb rfl), (lb rfl)⟩)
        dsimp only [Pt.U, Pt.locs, Pt.cells, Pt.slots] at X76 l76 y76 z76 st76 hQ76
        subst l76 y76 z76
        obtain ⟨rfl, Nq76, eq76⟩ := hQ76
        have N76 := Fr.app N59 Nq76
        refine ot T76 (mkF m 260 #[vI pi0, vI pi1, vI pi2, vI pi3, vI pi4, vI pi5, vR kd, vI zT, vI zS, vI t0, vI t1, vI t2, vI s0, vI s1, vI s2, vR bT, vR bS, vR b19, vR b32, .val vv, vR b47, vU, vU, vU] [(.int (own_isv kd kw0 kw5 (own_ica csT csS)))]) st76 ?_
        refine og T76 (mkF m 264 #[vI pi0, vI pi1, vI pi2, vI pi3, vI pi4, vI pi5, vR kd, vI zT, vI zS, vI t0, vI t1, vI t2, vI s0, vI s1, vI s2, vR bT, vR bS, vR b19, vR b32, .val vv, vR b47, vI (own_isv kd kw0 kw5 (own_ica csT csS)), vU, vU] [(.ref kd)]) (fun _ k => XS.istore X76.here hx rfl (hb hby at_260) rfl (l' := #[vI pi0, vI pi1, vI pi2, vI pi3, vI pi4, vI pi5, vR kd, vI zT, vI zS, vI t0, vI t1, vI t2, vI s0, vI s1, vI s2, vR bT, vR bS, vR b19, vR b32, .val vv, vR b47, vI (own_isv kd kw0 kw5 (own_ica csT csS)), vU, vU]) rfl (XS.aload X76.here hx rfl (hb hby at_262) rfl rfl k)) ?_
        obtain ⟨T77, X77, e77, st77⟩ := getS2 X76 hx hZ42 hown42 (host := "") (Or.inl (own_w hw 5)) Via.refl eq76 (SK0.ext F75.2) (g := (mkF m 264 #[vI pi0, vI pi1, vI pi2, vI pi3, vI pi4, vI pi5, vR kd, vI zT, vI zS, vI t0, vI t1, vI t2, vI s0, vI s1, vI s2, vR bT, vR bS, vR b19, vR b32, .val vv, vR b47, vI (own_isv kd kw0 kw5 (own_ica csT csS)), vU, vU] [(.ref kd)])) rfl (hb hby at_264)
        refine og T77 (mkF m 267 #[vI pi0, vI pi1, vI pi2, vI pi3, vI pi4, vI pi5, vR kd, vI zT, vI zS, vI t0, vI t1, vI t2, vI s0, vI s1, vI s2, vR bT, vR bS, vR b19, vR b32, .val vv, vR b47, vI (own_isv kd kw0 kw5 (own_ica csT csS)), vU, vU] [(.ref kw0), (.ref kd)]) st77 ?_
        have J78 : ∀ (T79 : State), own_at X77 T79 → T79.heap = T59.heap → ∀ (ko : Int32), ko = own_ko kd kw0 kw5 → own_Fin p.tables e below (own_PW s Z own_EL (Qlaw Z pi0 pi1 pi2 pi3 pi4 pi5 kw0 kw1 kw2 kw3 kw4 kw5 kw6 G1 h0 n0) room_1.cells room_1.slots) T79 (mkF m 283 #[vI pi0, vI pi1, vI pi2, vI pi3, vI pi4, vI pi5, vR kd, vI zT, vI zS, vI t0, vI t1, vI t2, vI s0, vI s1, vI s2, vR bT, vR bS, vR b19, vR b32, .val vv, vR b47, vI (own_isv kd kw0 kw5 (own_ica csT csS)), vU, vU] [(.int ko)]) := by
          intro T79 X79 e79 ko hv79
          unfold own_at at X79
          refine og T79 (mkF m 289 #[vI pi0, vI pi1, vI pi2, vI pi3, vI pi4, vI pi5, vR kd, vI zT, vI zS, vI t0, vI t1, vI t2, vI s0, vI s1, vI s2, vR bT, vR bS, vR b19, vR b32, .val vv, vR b47, vI (own_isv kd kw0 kw5 (own_ica csT csS)), vI ko, vU] [(.int zS), (.int zT)]) (fun _ k => XS.istore X79.here hx rfl (hb hby at_283) rfl (l' := #[vI pi0, vI pi1, vI pi2, vI pi3, vI pi4, vI pi5, vR kd, vI zT, vI zS, vI t0, vI t1, vI t2, vI s0, vI s1, vI s2, vR bT, vR bS, vR b19, vR b32, .val vv, vR b47, vI (own_isv kd kw0 kw5 (own_ica csT csS)), vI ko, vU]) rfl (XS.iload X79.here hx rfl (hb hby at_285) rfl (XS.iload X79.here hx rfl (hb hby at_287) rfl k))) ?_
          have J80 : ∀ (T81 : State) (L81 : List Loc), own_at2 X79 T81 L81 13 34 → Fr n0 L81 → T81.heap = T59.heap → ∀ (sm : Int32), sm = own_ica csT csS → own_Fin p.tables e below (own_PW s Z own_EL (Qlaw Z pi0 pi1 pi2 pi3 pi4 pi5 kw0 kw1 kw2 kw3 kw4 kw5 kw6 G1 h0 n0) room_1.cells room_1.slots) T81 (mkF m 345 #[vI pi0, vI pi1, vI pi2, vI pi3, vI pi4, vI pi5, vR kd, vI zT, vI zS, vI t0, vI t1, vI t2, vI s0, vI s1, vI s2, vR bT, vR bS, vR b19, vR b32, .val vv, vR b47, vI (own_isv kd kw0 kw5 (own_ica csT csS)), vI ko, vU] [(.int sm)]) := by
            intro T81 L81 X81 NL81 e81 sm hv81
            unfold own_at2 at X81
            refine og T81 (mkF m 351 #[vI pi0, vI pi1, vI pi2, vI pi3, vI pi4, vI pi5, vR kd, vI zT, vI zS, vI t0, vI t1, vI t2, vI s0, vI s1, vI s2, vR bT, vR bS, vR b19, vR b32, .val vv, vR b47, vI (own_isv kd kw0 kw5 (own_ica csT csS)), vI ko, vI sm] [(.int ko), (.int (own_isv kd kw0 kw5 (own_ica csT csS)))]) (fun _ k => XS.istore X81.here hx rfl (hb hby at_345) rfl (l' := #[vI pi0, vI pi1, vI pi2, vI pi3, vI pi4, vI pi5, vR kd, vI zT, vI zS, vI t0, vI t1, vI t2, vI s0, vI s1, vI s2, vR bT, vR bS, vR b19, vR b32, .val vv, vR b47, vI (own_isv kd kw0 kw5 (own_ica csT csS)), vI ko, vI sm]) rfl (XS.iload X81.here hx rfl (hb hby at_347) rfl (XS.iload X81.here hx rfl (hb hby at_349) rfl k))) ?_
            by_cases hc82 : ko = (0 : Int32)
            · refine og T81 (mkF m 364 #[vI pi0, vI pi1, vI pi2, vI pi3, vI pi4, vI pi5, vR kd, vI zT, vI zS, vI t0, vI t1, vI t2, vI s0, vI s1, vI s2, vR bT, vR bS, vR b19, vR b32, .val vv, vR b47, vI (own_isv kd kw0 kw5 (own_ica csT csS)), vI ko, vI sm] [(.int (0 : Int32)), (.int (own_isv kd kw0 kw5 (own_ica csT csS)))]) (fun _ k => XS.ifYes X81.here hx rfl (pc0 := 351) (pc' := 363) rfl (hb hby at_351) rfl ((if0 _ _).trans (teq hc82).1) (by decide) (by decide) (XS.iconst X81.here hx rfl (hb hby at_363) k)) ?_
              refine og T81 (mkF m 372 #[vI pi0, vI pi1, vI pi2, vI pi3, vI pi4, vI pi5, vR kd, vI zT, vI zS, vI t0, vI t1, vI t2, vI s0, vI s1, vI s2, vR bT, vR bS, vR b19, vR b32, .val vv, vR b47, vI (own_isv kd kw0 kw5 (own_ica csT csS)), vI ko, vI sm] [(.int (1 : Int32))]) (fun _ k => XS.icmpNo X81.here hx rfl (hb hby at_364) rfl (teq (own_l0 (by assumption) (by assumption) (by first | exact Or.inl (by assumption) | exact Or.inr (by assumption)))).2 (XS.iconst X81.here hx rfl (hb hby at_367) (XS.goto X81.here hx rfl (pc0 := 368) (pc' := 372) rfl (hb hby at_368) (by decide) (by decide) k))) ?_
              have F83 := (Nat.le_trans (Nat.le_trans (Nat.le_refl _) E47.1) K59.1)
              exact own_leaveW (s := s) (vm0 := T42.vm) X81 hS42 F83 hZ42 (own_EW hw) e81 CH65 hh hlk (v := some (.int (nar .boolean (1 : Int32)))) (fun h => by rw [hret] at h; cases h) (lb rfl) (lb rfl) (by rw [e81]; exact ⟨rfl, NL81⟩) (fun fs hr => retN X81 hx (t := .boolean) hret (by simp) (hb hby at_372) hr)
            · refine og T81 (mkF m 356 #[vI pi0, vI pi1, vI pi2, vI pi3, vI pi4, vI pi5, vR kd, vI zT, vI zS, vI t0, vI t1, vI t2, vI s0, vI s1, vI s2, vR bT, vR bS, vR b19, vR b32, .val vv, vR b47, vI (own_isv kd kw0 kw5 (own_ica csT csS)), vI ko, vI sm] [(.int sm), (.int (own_isv kd kw0 kw5 (own_ica csT csS)))]) (fun _ k => XS.ifNo X81.here hx rfl (hb hby at_351) rfl ((if0 _ _).trans (feq hc82).1) (XS.iload X81.here hx rfl (hb hby at_354) rfl k)) ?_
              by_cases hc84 : sm = (0 : Int32)
              · refine og T81 (mkF m 364 #[vI pi0, vI pi1, vI pi2, vI pi3, vI pi4, vI pi5, vR kd, vI zT, vI zS, vI t0, vI t1, vI t2, vI s0, vI s1, vI s2, vR bT, vR bS, vR b19, vR b32, .val vv, vR b47, vI (own_isv kd kw0 kw5 (own_ica csT csS)), vI ko, vI sm] [(.int (0 : Int32)), (.int (own_isv kd kw0 kw5 (own_ica csT csS)))]) (fun _ k => XS.ifYes X81.here hx rfl (pc0 := 356) (pc' := 363) rfl (hb hby at_356) rfl ((if0 _ _).trans (teq hc84).1) (by decide) (by decide) (XS.iconst X81.here hx rfl (hb hby at_363) k)) ?_
                refine og T81 (mkF m 372 #[vI pi0, vI pi1, vI pi2, vI pi3, vI pi4, vI pi5, vR kd, vI zT, vI zS, vI t0, vI t1, vI t2, vI s0, vI s1, vI s2, vR bT, vR bS, vR b19, vR b32, .val vv, vR b47, vI (own_isv kd kw0 kw5 (own_ica csT csS)), vI ko, vI sm] [(.int (1 : Int32))]) (fun _ k => XS.icmpNo X81.here hx rfl (hb hby at_364) rfl (teq (own_l0 (by assumption) (by assumption) (by first | exact Or.inl (by assumption) | exact Or.inr (by assumption)))).2 (XS.iconst X81.here hx rfl (hb hby at_367) (XS.goto X81.here hx rfl (pc0 := 368) (pc' := 372) rfl (hb hby at_368) (by decide) (by decide) k))) ?_
                have F85 := (Nat.le_trans (Nat.le_trans (Nat.le_refl _) E47.1) K59.1)
                exact own_leaveW (s := s) (vm0 := T42.vm) X81 hS42 F85 hZ42 (own_EW hw) e81 CH65 hh hlk (v := some (.int (nar .boolean (1 : Int32)))) (fun h => by rw [hret] at h; cases h) (lb rfl) (lb rfl) (by rw [e81]; exact ⟨rfl, NL81⟩) (fun fs hr => retN X81 hx (t := .boolean) hret (by simp) (hb hby at_372) hr)
              · refine og T81 (mkF m 364 #[vI pi0, vI pi1, vI pi2, vI pi3, vI pi4, vI pi5, vR kd, vI zT, vI zS, vI t0, vI t1, vI t2, vI s0, vI s1, vI s2, vR bT, vR bS, vR b19, vR b32, .val vv, vR b47, vI (own_isv kd kw0 kw5 (own_ica csT csS)), vI ko, vI sm] [(.int (1 : Int32)), (.int (own_isv kd kw0 kw5 (own_ica csT csS)))]) (fun _ k => XS.ifNo X81.here hx rfl (hb hby at_356) rfl ((if0 _ _).trans (feq hc84).1) (XS.iconst X81.here hx rfl (hb hby at_359) (XS.goto X81.here hx rfl (pc0 := 360) (pc' := 364) rfl (hb hby at_360) (by decide) (by decide) k))) ?_
                refine og T81 (mkF m 372 #[vI pi0, vI pi1, vI pi2, vI pi3, vI pi4, vI pi5, vR kd, vI zT, vI zS, vI t0, vI t1, vI t2, vI s0, vI s1, vI s2, vR bT, vR bS, vR b19, vR b32, .val vv, vR b47, vI (own_isv kd kw0 kw5 (own_ica csT csS)), vI ko, vI sm] [(.int (1 : Int32))]) (fun _ k => XS.icmpNo X81.here hx rfl (hb hby at_364) rfl (teq (own_l1 (by assumption) (by assumption) (by assumption) (by assumption))).2 (XS.iconst X81.here hx rfl (hb hby at_367) (XS.goto X81.here hx rfl (pc0 := 368) (pc' := 372) rfl (hb hby at_368) (by decide) (by decide) k))) ?_
                have F86 := (Nat.le_trans (Nat.le_trans (Nat.le_refl _) E47.1) K59.1)
                exact own_leaveW (s := s) (vm0 := T42.vm) X81 hS42 F86 hZ42 (own_EW hw) e81 CH65 hh hlk (v := some (.int (nar .boolean (1 : Int32)))) (fun h => by rw [hret] at h; cases h) (lb rfl) (lb rfl) (by rw [e81]; exact ⟨rfl, NL81⟩) (fun fs hr => retN X81 hx (t := .boolean) hret (by simp) (hb hby at_372) hr)
          by_cases hc87 : zT = zS
          · refine og T79 (mkF m 295 #[vI pi0, vI pi1, vI pi2, vI pi3, vI pi4, vI pi5, vR kd, vI zT, vI zS, vI t0, vI t1, vI t2, vI s0, vI s1, vI s2, vR bT, vR bS, vR b19, vR b32, .val vv, vR b47, vI (own_isv kd kw0 kw5 (own_ica csT csS)), vI ko, vU] [(.int (1 : Int32)), (.int zT)]) (fun _ k => XS.icmpNo X79.here hx rfl (hb hby at_289) rfl (teq hc87).2 (XS.iload X79.here hx rfl (hb hby at_292) rfl (XS.iconst X79.here hx rfl (hb hby at_294) k))) ?_
            by_cases hc88 : zT < (1 : Int32)
            · refine og T79 (mkF m 345 #[vI pi0, vI pi1, vI pi2, vI pi3, vI pi4, vI pi5, vR kd, vI zT, vI zS, vI t0, vI t1, vI t2, vI s0, vI s1, vI s2, vR bT, vR bS, vR b19, vR b32, .val vv, vR b47, vI (own_isv kd kw0 kw5 (own_ica csT csS)), vI ko, vU] [(.int (1 : Int32))]) (fun _ k => XS.icmpYes X79.here hx rfl (pc0 := 295) (pc' := 308) rfl (hb hby at_295) rfl (tlt hc88).1 (by decide) (by decide) (XS.iload X79.here hx rfl (hb hby at_308) rfl (XS.iconst X79.here hx rfl (hb hby at_310) (XS.icmpYes X79.here hx rfl (pc0 := 311) (pc' := 324) rfl (hb hby at_311) rfl (tlt (own_lt12 hc88)).1 (by decide) (by decide) (XS.iload X79.here hx rfl (hb hby at_324) rfl (XS.iconst X79.here hx rfl (hb hby at_326) (XS.icmpYes X79.here hx rfl (pc0 := 327) (pc' := 340) rfl (hb hby at_327) rfl (tlt (own_lt23 (own_lt12 hc88))).1 (by decide) (by decide) (XS.iconst X79.here hx rfl (hb hby at_340) (XS.goto X79.here hx rfl (pc0 := 341) (pc' := 345) rfl (hb hby at_341) (by decide) (by decide) k))))))))) ?_
              exact J80 _ _ X79 N76 e79 (1 : Int32) (own_sameG hvT hvS (by rw [own_sm, if_pos hc87, if_pos hc88]))
            · refine og T79 (mkF m 302 #[vI pi0, vI pi1, vI pi2, vI pi3, vI pi4, vI pi5, vR kd, vI zT, vI zS, vI t0, vI t1, vI t2, vI s0, vI s1, vI s2, vR bT, vR bS, vR b19, vR b32, .val vv, vR b47, vI (own_isv kd kw0 kw5 (own_ica csT csS)), vI ko, vU] [(.int s0), (.int t0)]) (fun _ k => XS.icmpNo X79.here hx rfl (hb hby at_295) rfl (flt hc88).1 (XS.iload X79.here hx rfl (hb hby at_298) rfl (XS.iload X79.here hx rfl (hb hby at_300) rfl k))) ?_
              obtain ⟨_, _, ⟨T89, L89, k89, n89⟩, -, X89, ⟨Lc89, hQ89, l89, y89, z89⟩, st89⟩ := Jvm.LawKit.callS X79 hx (y := y13) hown42 (mvT hZ42 (own_w hw 89)) (mvT hZ42 (own_w hw 90)) (mvT hZ42 (own_w hw 3)) (mvT hZ42 (own_w hw 91)) (by decide) (backOf (W := 0) (rm14_54 l Z a0 hw t0 s0 T59.heap n0 F75 ) hZ42 (own_w hw 91) (own_w hw 3) (lb rfl) (lb rfl)) (g := (mkF m 302 #[vI pi0, vI pi1, vI pi2, vI pi3, vI pi4, vI pi5, vR kd, vI zT, vI zS, vI t0, vI t1, vI t2, vI s0, vI s1, vI s2, vR bT, vR bS, vR b19, vR b32, .val vv, vR b47, vI (own_isv kd kw0 kw5 (own_ica csT csS)), vI ko, vU] [(.int s0), (.int t0)])) rfl (by rw [hml]; rfl) (argsL := [(.int t0), (.int s0)]) (rest := []) (lenOf pd_12 rfl) rfl (lb rfl) (hb hby at_302) (fun _ _ => ⟨rfl, e79, (lb rfl), (lb rfl)⟩)
              dsimp only [Pt.U, Pt.locs, Pt.cells, Pt.slots] at X89 l89 y89 z89 st89 hQ89
              subst l89 y89 z89
              obtain ⟨rfl, Nq89, eq89⟩ := hQ89
              have N89 := Fr.app N76 Nq89
              refine og T89 (mkF m 305 #[vI pi0, vI pi1, vI pi2, vI pi3, vI pi4, vI pi5, vR kd, vI zT, vI zS, vI t0, vI t1, vI t2, vI s0, vI s1, vI s2, vR bT, vR bS, vR b19, vR b32, .val vv, vR b47, vI (own_isv kd kw0 kw5 (own_ica csT csS)), vI ko, vU] [(.int (own_eqv t0 s0))]) st89 ?_
              by_cases hc90 : (own_eqv t0 s0) = (0 : Int32)
              · refine og T89 (mkF m 345 #[vI pi0, vI pi1, vI pi2, vI pi3, vI pi4, vI pi5, vR kd, vI zT, vI zS, vI t0, vI t1, vI t2, vI s0, vI s1, vI s2, vR bT, vR bS, vR b19, vR b32, .val vv, vR b47, vI (own_isv kd kw0 kw5 (own_ica csT csS)), vI ko, vU] [(.int (0 : Int32))]) (fun _ k => XS.ifYes X89.here hx rfl (pc0 := 305) (pc' := 344) rfl (hb hby at_305) rfl ((if0 _ _).trans (teq hc90).1) (by decide) (by decide) (XS.iconst X89.here hx rfl (hb hby at_344) k)) ?_
                exact J80 _ _ X89 N89 eq89 (0 : Int32) (own_sameG hvT hvS (by rw [own_sm, if_pos hc87, if_neg hc88, if_pos hc90]))
              · refine og T89 (mkF m 311 #[vI pi0, vI pi1, vI pi2, vI pi3, vI pi4, vI pi5, vR kd, vI zT, vI zS, vI t0, vI t1, vI t2, vI s0, vI s1, vI s2, vR bT, vR bS, vR b19, vR b32, .val vv, vR b47, vI (own_isv kd kw0 kw5 (own_ica csT csS)), vI ko, vU] [(.int (2 : Int32)), (.int zT)]) (fun _ k => XS.ifNo X89.here hx rfl (hb hby at_305) rfl ((if0 _ _).trans (feq hc90).1) (XS.iload X89.here hx rfl (hb hby at_308) rfl (XS.iconst X89.here hx rfl (hb hby at_310) k))) ?_
                by_cases hc91 : zT < (2 : Int32)
                · refine og T89 (mkF m 345 #[vI pi0, vI pi1, vI pi2, vI pi3, vI pi4, vI pi5, vR kd, vI zT, vI zS, vI t0, vI t1, vI t2, vI s0, vI s1, vI s2, vR bT, vR bS, vR b19, vR b32, .val vv, vR b47, vI (own_isv kd kw0 kw5 (own_ica csT csS)), vI ko, vU] [(.int (1 : Int32))]) (fun _ k => XS.icmpYes X89.here hx rfl (pc0 := 311) (pc' := 324) rfl (hb hby at_311) rfl (tlt hc91).1 (by decide) (by decide) (XS.iload X89.here hx rfl (hb hby at_324) rfl (XS.iconst X89.here hx rfl (hb hby at_326) (XS.icmpYes X89.here hx rfl (pc0 := 327) (pc' := 340) rfl (hb hby at_327) rfl (tlt (own_lt23 hc91)).1 (by decide) (by decide) (XS.iconst X89.here hx rfl (hb hby at_340) (XS.goto X89.here hx rfl (pc0 := 341) (pc' := 345) rfl (hb hby at_341) (by decide) (by decide) k)))))) ?_
                  exact J80 _ _ X89 N89 eq89 (1 : Int32) (own_sameG hvT hvS (by rw [own_sm, if_pos hc87, if_neg hc88, if_neg hc90, if_pos hc91]))
                · refine og T89 (mkF m 318 #[vI pi0, vI pi1, vI pi2, vI pi3, vI pi4, vI pi5, vR kd, vI zT, vI zS, vI t0, vI t1, vI t2, vI s0, vI s1, vI s2, vR bT, vR bS, vR b19, vR b32, .val vv, vR b47, vI (own_isv kd kw0 kw5 (own_ica csT csS)), vI ko, vU] [(.int s1), (.int t1)]) (fun _ k => XS.icmpNo X89.here hx rfl (hb hby at_311) rfl (flt hc91).1 (XS.iload X89.here hx rfl (hb hby at_314) rfl (XS.iload X89.here hx rfl (hb hby at_316) rfl k))) ?_
                  obtain ⟨_, _, ⟨T92, L92, k92, n92⟩, -, X92, ⟨Lc92, hQ92, l92, y92, z92⟩, st92⟩ := Jvm.LawKit.callS X89 hx (y := y13) hown42 (mvT hZ42 (own_w hw 89)) (mvT hZ42 (own_w hw 90)) (mvT hZ42 (own_w hw 3)) (mvT hZ42 (own_w hw 91)) (by decide) (backOf (W := 0) (rm14_54 l Z a0 hw t1 s1 T59.heap n0 F75 ) hZ42 (own_w hw 91) (own_w hw 3) (lb rfl) (lb rfl)) (g := (mkF m 318 #[vI pi0, vI pi1, vI pi2, vI pi3, vI pi4, vI pi5, vR kd, vI zT, vI zS, vI t0, vI t1, vI t2, vI s0, vI s1, vI s2, vR bT, vR bS, vR b19, vR b32, .val vv, vR b47, vI (own_isv kd kw0 kw5 (own_ica csT csS)), vI ko, vU] [(.int s1), (.int t1)])) rfl (by rw [hml]; rfl) (argsL := [(.int t1), (.int s1)]) (rest := []) (lenOf pd_12 rfl) rfl (lb rfl) (hb hby at_318) (fun _ _ => ⟨rfl, eq89, (lb rfl), (lb rfl)⟩)
                  dsimp only [Pt.U, Pt.locs, Pt.cells, Pt.slots] at X92 l92 y92 z92 st92 hQ92
                  subst l92 y92 z92
                  obtain ⟨rfl, Nq92, eq92⟩ := hQ92
                  have N92 := Fr.app N89 Nq92
                  refine og T92 (mkF m 321 #[vI pi0, vI pi1, vI pi2, vI pi3, vI pi4, vI pi5, vR kd, vI zT, vI zS, vI t0, vI t1, vI t2, vI s0, vI s1, vI s2, vR bT, vR bS, vR b19, vR b32, .val vv, vR b47, vI (own_isv kd kw0 kw5 (own_ica csT csS)), vI ko, vU] [(.int (own_eqv t1 s1))]) st92 ?_
                  by_cases hc93 : (own_eqv t1 s1) = (0 : Int32)
                  · refine og T92 (mkF m 345 #[vI pi0, vI pi1, vI pi2, vI pi3, vI pi4, vI pi5, vR kd, vI zT, vI zS, vI t0, vI t1, vI t2, vI s0, vI s1, vI s2, vR bT, vR bS, vR b19, vR b32, .val vv, vR b47, vI (own_isv kd kw0 kw5 (own_ica csT csS)), vI ko, vU] [(.int (0 : Int32))]) (fun _ k => XS.ifYes X92.here hx rfl (pc0 := 321) (pc' := 344) rfl (hb hby at_321) rfl ((if0 _ _).trans (teq hc93).1) (by decide) (by decide) (XS.iconst X92.here hx rfl (hb hby at_344) k)) ?_
                    exact J80 _ _ X92 N92 eq92 (0 : Int32) (own_sameG hvT hvS (by rw [own_sm, if_pos hc87, if_neg hc88, if_neg hc90, if_neg hc91, if_pos hc93]))
                  · refine og T92 (mkF m 327 #[vI pi0, vI pi1, vI pi2, vI pi3, vI pi4, vI pi5, vR kd, vI zT, vI zS, vI t0, vI t1, vI t2, vI s0, vI s1, vI s2, vR bT, vR bS, vR b19, vR b32, .val vv, vR b47, vI (own_isv kd kw0 kw5 (own_ica csT csS)), vI ko, vU] [(.int (3 : Int32)), (.int zT)]) (fun _ k => XS.ifNo X92.here hx rfl (hb hby at_321) rfl ((if0 _ _).trans (feq hc93).1) (XS.iload X92.here hx rfl (hb hby at_324) rfl (XS.iconst X92.here hx rfl (hb hby at_326) k))) ?_
                    by_cases hc94 : zT < (3 : Int32)
                    · refine og T92 (mkF m 345 #[vI pi0, vI pi1, vI pi2, vI pi3, vI pi4, vI pi5, vR kd, vI zT, vI zS, vI t0, vI t1, vI t2, vI s0, vI s1, vI s2, vR bT, vR bS, vR b19, vR b32, .val vv, vR b47, vI (own_isv kd kw0 kw5 (own_ica csT csS)), vI ko, vU] [(.int (1 : Int32))]) (fun _ k => XS.icmpYes X92.here hx rfl (pc0 := 327) (pc' := 340) rfl (hb hby at_327) rfl (tlt hc94).1 (by decide) (by decide) (XS.iconst X92.here hx rfl (hb hby at_340) (XS.goto X92.here hx rfl (pc0 := 341) (pc' := 345) rfl (hb hby at_341) (by decide) (by decide) k))) ?_
                      exact J80 _ _ X92 N92 eq92 (1 : Int32) (own_sameG hvT hvS (by rw [own_sm, if_pos hc87, if_neg hc88, if_neg hc90, if_neg hc91, if_neg hc93, if_pos hc94]))
                    · refine og T92 (mkF m 334 #[vI pi0, vI pi1, vI pi2, vI pi3, vI pi4, vI pi5, vR kd, vI zT, vI zS, vI t0, vI t1, vI t2, vI s0, vI s1, vI s2, vR bT, vR bS, vR b19, vR b32, .val vv, vR b47, vI (own_isv kd kw0 kw5 (own_ica csT csS)), vI ko, vU] [(.int s2), (.int t2)]) (fun _ k => XS.icmpNo X92.here hx rfl (hb hby at_327) rfl (flt hc94).1 (XS.iload X92.here hx rfl (hb hby at_330) rfl (XS.iload X92.here hx rfl (hb hby at_332) rfl k))) ?_
                      obtain ⟨_, _, ⟨T95, L95, k95, n95⟩, -, X95, ⟨Lc95, hQ95, l95, y95, z95⟩, st95⟩ := Jvm.LawKit.callS X92 hx (y := y13) hown42 (mvT hZ42 (own_w hw 89)) (mvT hZ42 (own_w hw 90)) (mvT hZ42 (own_w hw 3)) (mvT hZ42 (own_w hw 91)) (by decide) (backOf (W := 0) (rm14_54 l Z a0 hw t2 s2 T59.heap n0 F75 ) hZ42 (own_w hw 91) (own_w hw 3) (lb rfl) (lb rfl)) (g := (mkF m 334 #[vI pi0, vI pi1, vI pi2, vI pi3, vI pi4, vI pi5, vR kd, vI zT, vI zS, vI t0, vI t1, vI t2, vI s0, vI s1, vI s2, vR bT, vR bS, vR b19, vR b32, .val vv, vR b47, vI (own_isv kd kw0 kw5 (own_ica csT csS)), vI ko, vU] [(.int s2), (.int t2)])) rfl (by rw [hml]; rfl) (argsL := [(.int t2), (.int s2)]) (rest := []) (lenOf pd_12 rfl) rfl (lb rfl) (hb hby at_334) (fun _ _ => ⟨rfl, eq92, (lb rfl), (lb rfl)⟩)
                      dsimp only [Pt.U, Pt.locs, Pt.cells, Pt.slots] at X95 l95 y95 z95 st95 hQ95
                      subst l95 y95 z95
                      obtain ⟨rfl, Nq95, eq95⟩ := hQ95
                      have N95 := Fr.app N92 Nq95
                      refine og T95 (mkF m 337 #[vI pi0, vI pi1, vI pi2, vI pi3, vI pi4, vI pi5, vR kd, vI zT, vI zS, vI t0, vI t1, vI t2, vI s0, vI s1, vI s2, vR bT, vR bS, vR b19, vR b32, .val vv, vR b47, vI (own_isv kd kw0 kw5 (own_ica csT csS)), vI ko, vU] [(.int (own_eqv t2 s2))]) st95 ?_
                      by_cases hc96 : (own_eqv t2 s2) = (0 : Int32)
                      · refine og T95 (mkF m 345 #[vI pi0, vI pi1, vI pi2, vI pi3, vI pi4, vI pi5, vR kd, vI zT, vI zS, vI t0, vI t1, vI t2, vI s0, vI s1, vI s2, vR bT, vR bS, vR b19, vR b32, .val vv, vR b47, vI (own_isv kd kw0 kw5 (own_ica csT csS)), vI ko, vU] [(.int (0 : Int32))]) (fun _ k => XS.ifYes X95.here hx rfl (pc0 := 337) (pc' := 344) rfl (hb hby at_337) rfl ((if0 _ _).trans (teq hc96).1) (by decide) (by decide) (XS.iconst X95.here hx rfl (hb hby at_344) k)) ?_
                        exact J80 _ _ X95 N95 eq95 (0 : Int32) (own_sameG hvT hvS (by rw [own_sm, if_pos hc87, if_neg hc88, if_neg hc90, if_neg hc91, if_neg hc93, if_neg hc94, if_pos hc96]))
                      · refine og T95 (mkF m 345 #[vI pi0, vI pi1, vI pi2, vI pi3, vI pi4, vI pi5, vR kd, vI zT, vI zS, vI t0, vI t1, vI t2, vI s0, vI s1, vI s2, vR bT, vR bS, vR b19, vR b32, .val vv, vR b47, vI (own_isv kd kw0 kw5 (own_ica csT csS)), vI ko, vU] [(.int (1 : Int32))]) (fun _ k => XS.ifNo X95.here hx rfl (hb hby at_337) rfl ((if0 _ _).trans (feq hc96).1) (XS.iconst X95.here hx rfl (hb hby at_340) (XS.goto X95.here hx rfl (pc0 := 341) (pc' := 345) rfl (hb hby at_341) (by decide) (by decide) k))) ?_
                        exact J80 _ _ X95 N95 eq95 (1 : Int32) (own_sameG hvT hvS (by rw [own_sm, if_pos hc87, if_neg hc88, if_neg hc90, if_neg hc91, if_neg hc93, if_neg hc94, if_neg hc96]))
          · refine og T79 (mkF m 345 #[vI pi0, vI pi1, vI pi2, vI pi3, vI pi4, vI pi5, vR kd, vI zT, vI zS, vI t0, vI t1, vI t2, vI s0, vI s1, vI s2, vR bT, vR bS, vR b19, vR b32, .val vv, vR b47, vI (own_isv kd kw0 kw5 (own_ica csT csS)), vI ko, vU] [(.int (0 : Int32))]) (fun _ k => XS.icmpYes X79.here hx rfl (pc0 := 289) (pc' := 344) rfl (hb hby at_289) rfl (feq hc87).2 (by decide) (by decide) (XS.iconst X79.here hx rfl (hb hby at_344) k)) ?_
            exact J80 _ _ X79 N76 e79 (0 : Int32) (own_sameG hvT hvS (by rw [own_sm, if_neg hc87]))
        by_cases hc97 : kd = kw0
        · refine og T77 (mkF m 283 #[vI pi0, vI pi1, vI pi2, vI pi3, vI pi4, vI pi5, vR kd, vI zT, vI zS, vI t0, vI t1, vI t2, vI s0, vI s1, vI s2, vR bT, vR bS, vR b19, vR b32, .val vv, vR b47, vI (own_isv kd kw0 kw5 (own_ica csT csS)), vU, vU] [(.int (1 : Int32))]) (fun _ k => Jvm.RoadKit.acmp (g := (mkF m 267 #[vI pi0, vI pi1, vI pi2, vI pi3, vI pi4, vI pi5, vR kd, vI zT, vI zS, vI t0, vI t1, vI t2, vI s0, vI s1, vI s2, vR bT, vR bS, vR b19, vR b32, .val vv, vR b47, vI (own_isv kd kw0 kw5 (own_ica csT csS)), vU, vU] [(.ref kw0), (.ref kd)])) X77 hx rfl rfl rfl (pc0 := 267) (pc' := 278) (same := true) rfl (hb hby at_267) rfl (decide_eq_true (congrArg Value.ref hc97)) (by decide) (by decide) (XS.iconst X77.here hx rfl (hb hby at_278) (XS.goto X77.here hx rfl (pc0 := 279) (pc' := 283) rfl (hb hby at_279) (by decide) (by decide) k))) ?_
          exact J78 _ X77 e77 (1 : Int32) ((show own_ko kd kw0 kw5 = 1 from if_pos hc97).symm)
        · refine og T77 (mkF m 272 #[vI pi0, vI pi1, vI pi2, vI pi3, vI pi4, vI pi5, vR kd, vI zT, vI zS, vI t0, vI t1, vI t2, vI s0, vI s1, vI s2, vR bT, vR bS, vR b19, vR b32, .val vv, vR b47, vI (own_isv kd kw0 kw5 (own_ica csT csS)), vU, vU] [(.ref kd)]) (fun _ k => Jvm.RoadKit.acmp (g := (mkF m 267 #[vI pi0, vI pi1, vI pi2, vI pi3, vI pi4, vI pi5, vR kd, vI zT, vI zS, vI t0, vI t1, vI t2, vI s0, vI s1, vI s2, vR bT, vR bS, vR b19, vR b32, .val vv, vR b47, vI (own_isv kd kw0 kw5 (own_ica csT csS)), vU, vU] [(.ref kw0), (.ref kd)])) X77 hx rfl rfl rfl (pc0 := 267) (pc' := 270) (same := false) rfl (hb hby at_267) rfl (decide_eq_false fun q => hc97 (Value.ref.inj q)) (by decide) (by decide) (XS.aload X77.here hx rfl (hb hby at_270) rfl rfl k)) ?_
          obtain ⟨T98, X98, e98, st98⟩ := getS2 X77 hx hZ42 hown42 (host := "") (Or.inl (own_w hw 84)) Via.refl e77 (SK5.ext F75.2) (g := (mkF m 272 #[vI pi0, vI pi1, vI pi2, vI pi3, vI pi4, vI pi5, vR kd, vI zT, vI zS, vI t0, vI t1, vI t2, vI s0, vI s1, vI s2, vR bT, vR bS, vR b19, vR b32, .val vv, vR b47, vI (own_isv kd kw0 kw5 (own_ica csT csS)), vU, vU] [(.ref kd)])) rfl (hb hby at_272)
          refine og T98 (mkF m 275 #[vI pi0, vI pi1, vI pi2, vI pi3, vI pi4, vI pi5, vR kd, vI zT, vI zS, vI t0, vI t1, vI t2, vI s0, vI s1, vI s2, vR bT, vR bS, vR b19, vR b32, .val vv, vR b47, vI (own_isv kd kw0 kw5 (own_ica csT csS)), vU, vU] [(.ref kw5), (.ref kd)]) st98 ?_
          by_cases hc99 : kd = kw5
          · refine og T98 (mkF m 283 #[vI pi0, vI pi1, vI pi2, vI pi3, vI pi4, vI pi5, vR kd, vI zT, vI zS, vI t0, vI t1, vI t2, vI s0, vI s1, vI s2, vR bT, vR bS, vR b19, vR b32, .val vv, vR b47, vI (own_isv kd kw0 kw5 (own_ica csT csS)), vU, vU] [(.int (1 : Int32))]) (fun _ k => Jvm.RoadKit.acmp (g := (mkF m 275 #[vI pi0, vI pi1, vI pi2, vI pi3, vI pi4, vI pi5, vR kd, vI zT, vI zS, vI t0, vI t1, vI t2, vI s0, vI s1, vI s2, vR bT, vR bS, vR b19, vR b32, .val vv, vR b47, vI (own_isv kd kw0 kw5 (own_ica csT csS)), vU, vU] [(.ref kw5), (.ref kd)])) X98 hx rfl rfl rfl (pc0 := 275) (pc' := 278) (same := true) rfl (hb hby at_275) rfl (decide_eq_true (congrArg Value.ref hc99)) (by decide) (by decide) (XS.iconst X98.here hx rfl (hb hby at_278) (XS.goto X98.here hx rfl (pc0 := 279) (pc' := 283) rfl (hb hby at_279) (by decide) (by decide) k))) ?_
            exact J78 _ X98 e98 (1 : Int32) ((show own_ko kd kw0 kw5 = 1 from (if_neg hc97).trans (if_pos hc99)).symm)
          · refine og T98 (mkF m 283 #[vI pi0, vI pi1, vI pi2, vI pi3, vI pi4, vI pi5, vR kd, vI zT, vI zS, vI t0, vI t1, vI t2, vI s0, vI s1, vI s2, vR bT, vR bS, vR b19, vR b32, .val vv, vR b47, vI (own_isv kd kw0 kw5 (own_ica csT csS)), vU, vU] [(.int (0 : Int32))]) (fun _ k => Jvm.RoadKit.acmp (g := (mkF m 275 #[vI pi0, vI pi1, vI pi2, vI pi3, vI pi4, vI pi5, vR kd, vI zT, vI zS, vI t0, vI t1, vI t2, vI s0, vI s1, vI s2, vR bT, vR bS, vR b19, vR b32, .val vv, vR b47, vI (own_isv kd kw0 kw5 (own_ica csT csS)), vU, vU] [(.ref kw5), (.ref kd)])) X98 hx rfl rfl rfl (pc0 := 275) (pc' := 282) (same := false) rfl (hb hby at_275) rfl (decide_eq_false fun q => hc99 (Value.ref.inj q)) (by decide) (by decide) (XS.iconst X98.here hx rfl (hb hby at_282) k)) ?_
            exact J78 _ X98 e98 (0 : Int32) ((show own_ko kd kw0 kw5 = 0 from (if_neg hc97).trans (if_neg hc99)).symm)
      by_cases hc100 : (pi3 &&& (1 : Int32)) = (0 : Int32)
      · refine og T42 (mkF m 234 #[vI pi0, vI pi1, vI pi2, vI pi3, vI pi4, vI pi5, vR kd, vI zT, vI zS, vI t0, vI t1, vI t2, vI s0, vI s1, vI s2, vR bT, vR bS, vR b19, vR b32, vU, vU, vU, vU, vU] [(.ref b19)]) (fun _ k => XS.ifYes X42.here hx rfl (pc0 := 225) (pc' := 232) rfl (hb hby at_225) rfl ((if0 _ _).trans (teq hc100).1) (by decide) (by decide) (XS.aload X42.here hx rfl (hb hby at_232) rfl rfl k)) ?_
        exact J45 _ X42 rfl (.ref b19) (rfl)
      · refine og T42 (mkF m 234 #[vI pi0, vI pi1, vI pi2, vI pi3, vI pi4, vI pi5, vR kd, vI zT, vI zS, vI t0, vI t1, vI t2, vI s0, vI s1, vI s2, vR bT, vR bS, vR b19, vR b32, vU, vU, vU, vU, vU] [.null]) (fun _ k => XS.ifNo X42.here hx rfl (hb hby at_225) rfl ((if0 _ _).trans (feq hc100).1) (XS.aconstNull X42.here hx rfl (hb hby at_228) (XS.goto X42.here hx rfl (pc0 := 229) (pc' := 234) rfl (hb hby at_229) (by decide) (by decide) k))) ?_
        exact J45 _ X42 rfl .null (rfl)
    rcases own_and3 (((pi5.toUInt32 >>> ((2 : Int32) &&& 31).toUInt32).toInt32)) with hm | hm | hm | hm
    · rw [hm]
      refine og T6 (mkF m 161 #[vI pi0, vI pi1, vI pi2, vI pi3, vI pi4, vI pi5, vR kd, vI zT, vI (0 : Int32), vI t0, vI t1, vI t2, vI s0, vI s1, vI s2, vR bT, vU, vU, vU, vU, vU, vU, vU, vU] [(.int (0 : Int32))]) (fun _ k => XS.iload X6.here hx rfl (hb hby at_159) rfl k) ?_
      obtain ⟨T101, h101, k101, X101, e101, E101, A101, st101⟩ := newP X6 hx hZ (own_w hw 11) e6 (g := (mkF m 161 #[vI pi0, vI pi1, vI pi2, vI pi3, vI pi4, vI pi5, vR kd, vI zT, vI (0 : Int32), vI t0, vI t1, vI t2, vI s0, vI s1, vI s2, vR bT, vU, vU, vU, vU, vU, vU, vU, vU] [(.int (0 : Int32))])) rfl (hb hby at_161) rfl (by decide) (cap := 0) (by decide) (lb rfl) (lb rfl) (lb rfl)
      obtain ⟨b101, gb101⟩ : ∃ z, z = h6.size := ⟨_, rfl⟩
      rw [← gb101] at A101 st101
      have F103 := (OLD.keep K6 all0)
      have g102 : n0 ≤ b101 := Nat.le_trans (own_osz F103) (Nat.le_of_eq gb101.symm)
      have F105 := (Nat.le_trans (Nat.le_refl _) K6.1)
      have z104 : h0.size ≤ b101 := Nat.le_trans F105 (Nat.le_of_eq gb101.symm)
      have ch106 := CHr.ext E101 CH10.1
      have CH107 := CHr.trans CH10 ch106
      have V101 : Arv Z h101 b101 k101 .char (0 : Int32) [] (.int (0 : Int32)) := (Arv.new A101 (by decide)).pad (pad_rep [] (.int (0 : Int32)) 0)
      refine og T101 (mkF m 163 #[vI pi0, vI pi1, vI pi2, vI pi3, vI pi4, vI pi5, vR kd, vI zT, vI (0 : Int32), vI t0, vI t1, vI t2, vI s0, vI s1, vI s2, vR bT, vU, vU, vU, vU, vU, vU, vU, vU] [(.ref b101)]) st101 ?_
      refine og T101 (mkF m 200 #[vI pi0, vI pi1, vI pi2, vI pi3, vI pi4, vI pi5, vR kd, vI zT, vI (0 : Int32), vI t0, vI t1, vI t2, vI s0, vI s1, vI s2, vR bT, vR b101, vU, vU, vU, vU, vU, vU, vU] []) (fun _ k => XS.astore X101.here hx rfl (hb hby at_163) rfl rfl (l' := #[vI pi0, vI pi1, vI pi2, vI pi3, vI pi4, vI pi5, vR kd, vI zT, vI (0 : Int32), vI t0, vI t1, vI t2, vI s0, vI s1, vI s2, vR bT, vR b101, vU, vU, vU, vU, vU, vU, vU]) rfl (XS.iload X101.here hx rfl (hb hby at_165) rfl (XS.ifYes X101.here hx rfl (pc0 := 167) (pc' := 176) rfl (hb hby at_167) rfl ((if0 _ _).trans (flt (by decide : ¬ ((0 : Int32) < (0 : Int32)))).2.2.2) (by decide) (by decide) (XS.iload X101.here hx rfl (hb hby at_176) rfl (XS.iconst X101.here hx rfl (hb hby at_178) (XS.icmpYes X101.here hx rfl (pc0 := 179) (pc' := 188) rfl (hb hby at_179) rfl (flt (by decide : ¬ ((1 : Int32) < (0 : Int32)))).2.2.2 (by decide) (by decide) (XS.iload X101.here hx rfl (hb hby at_188) rfl (XS.iconst X101.here hx rfl (hb hby at_190) (XS.icmpYes X101.here hx rfl (pc0 := 191) (pc' := 200) rfl (hb hby at_191) rfl (flt (by decide : ¬ ((2 : Int32) < (0 : Int32)))).2.2.2 (by decide) (by decide) k))))))))) ?_
      exact J11 _ _ _ _ _ _ [] (own_wk X101 (lb rfl) (lb rfl)) e101 N6 ((Keep.refl h6 []).ext E101) (Nat.le_of_eq gb101.symm) V101 (Or.inl ⟨rfl, rfl⟩)
    · rw [hm]
      refine og T6 (mkF m 161 #[vI pi0, vI pi1, vI pi2, vI pi3, vI pi4, vI pi5, vR kd, vI zT, vI (1 : Int32), vI t0, vI t1, vI t2, vI s0, vI s1, vI s2, vR bT, vU, vU, vU, vU, vU, vU, vU, vU] [(.int (1 : Int32))]) (fun _ k => XS.iload X6.here hx rfl (hb hby at_159) rfl k) ?_
      obtain ⟨T108, h108, k108, X108, e108, E108, A108, st108⟩ := newP X6 hx hZ (own_w hw 11) e6 (g := (mkF m 161 #[vI pi0, vI pi1, vI pi2, vI pi3, vI pi4, vI pi5, vR kd, vI zT, vI (1 : Int32), vI t0, vI t1, vI t2, vI s0, vI s1, vI s2, vR bT, vU, vU, vU, vU, vU, vU, vU, vU] [(.int (1 : Int32))])) rfl (hb hby at_161) rfl (by decide) (cap := 1) (by decide) (lb rfl) (lb rfl) (lb rfl)
      obtain ⟨b108, gb108⟩ : ∃ z, z = h6.size := ⟨_, rfl⟩
      rw [← gb108] at A108 st108
      have F110 := (OLD.keep K6 all0)
      have g109 : n0 ≤ b108 := Nat.le_trans (own_osz F110) (Nat.le_of_eq gb108.symm)
      have F112 := (Nat.le_trans (Nat.le_refl _) K6.1)
      have z111 : h0.size ≤ b108 := Nat.le_trans F112 (Nat.le_of_eq gb108.symm)
      have ch113 := CHr.ext E108 CH10.1
      have CH114 := CHr.trans CH10 ch113
      have V108 : Arv Z h108 b108 k108 .char (1 : Int32) [(.int (0 : Int32))] (.int (0 : Int32)) := (Arv.new A108 (by decide)).pad (pad_rep [] (.int (0 : Int32)) 1)
      refine og T108 (mkF m 163 #[vI pi0, vI pi1, vI pi2, vI pi3, vI pi4, vI pi5, vR kd, vI zT, vI (1 : Int32), vI t0, vI t1, vI t2, vI s0, vI s1, vI s2, vR bT, vU, vU, vU, vU, vU, vU, vU, vU] [(.ref b108)]) st108 ?_
      refine og T108 (mkF m 175 #[vI pi0, vI pi1, vI pi2, vI pi3, vI pi4, vI pi5, vR kd, vI zT, vI (1 : Int32), vI t0, vI t1, vI t2, vI s0, vI s1, vI s2, vR bT, vR b108, vU, vU, vU, vU, vU, vU, vU] [(.int s0), (.int (0 : Int32)), (.ref b108)]) (fun _ k => XS.astore X108.here hx rfl (hb hby at_163) rfl rfl (l' := #[vI pi0, vI pi1, vI pi2, vI pi3, vI pi4, vI pi5, vR kd, vI zT, vI (1 : Int32), vI t0, vI t1, vI t2, vI s0, vI s1, vI s2, vR bT, vR b108, vU, vU, vU, vU, vU, vU, vU]) rfl (XS.iload X108.here hx rfl (hb hby at_165) rfl (XS.ifNo X108.here hx rfl (hb hby at_167) rfl ((if0 _ _).trans (tlt (by decide : (0 : Int32) < (1 : Int32))).2.2.2) (XS.aload X108.here hx rfl (hb hby at_170) rfl rfl (XS.iconst X108.here hx rfl (hb hby at_172) (XS.iload X108.here hx rfl (hb hby at_173) rfl k)))))) ?_
      obtain ⟨cl115, Ar115, qr115, Sr115, Nr115, Hr115, Gr115⟩ := id V108
      obtain ⟨T115, h115, X115, e115, W115, st115⟩ := stC X108 hx hZ e108 Ar115 (j := (0 : Int32)) (inb_of Sr115 ⟨by decide, by decide⟩) (g := (mkF m 175 #[vI pi0, vI pi1, vI pi2, vI pi3, vI pi4, vI pi5, vR kd, vI zT, vI (1 : Int32), vI t0, vI t1, vI t2, vI s0, vI s1, vI s2, vR bT, vR b108, vU, vU, vU, vU, vU, vU, vU] [(.int s0), (.int (0 : Int32)), (.ref b108)])) rfl rfl (hb hby at_175)
      have V115 : Arv Z h115 b108 k108 .char (1 : Int32) [(.int (nar .char s0))] (.int (0 : Int32)) := Arv.set Ar115 qr115 Sr115 Nr115 Hr115 Gr115 (fits_nar_char _) W115 0 rfl (lb rfl)
      rw [show nar .char s0 = s0 from (own_ncl hls0)] at V115
      obtain ⟨_, q117, -⟩ := id V108
      have ch116 := CHr.wr W115 (Safe.arr hZ.alike q117 nofun) CH114.1
      have CH118 := CHr.trans CH114 ch116
      have N115 := Fr.snoc X115 N6 g109
      refine og T115 (mkF m 176 #[vI pi0, vI pi1, vI pi2, vI pi3, vI pi4, vI pi5, vR kd, vI zT, vI (1 : Int32), vI t0, vI t1, vI t2, vI s0, vI s1, vI s2, vR bT, vR b108, vU, vU, vU, vU, vU, vU, vU] []) st115 ?_
      refine og T115 (mkF m 200 #[vI pi0, vI pi1, vI pi2, vI pi3, vI pi4, vI pi5, vR kd, vI zT, vI (1 : Int32), vI t0, vI t1, vI t2, vI s0, vI s1, vI s2, vR bT, vR b108, vU, vU, vU, vU, vU, vU, vU] []) (fun _ k => XS.iload X115.here hx rfl (hb hby at_176) rfl (XS.iconst X115.here hx rfl (hb hby at_178) (XS.icmpYes X115.here hx rfl (pc0 := 179) (pc' := 188) rfl (hb hby at_179) rfl (flt (by decide : ¬ ((1 : Int32) < (1 : Int32)))).2.2.2 (by decide) (by decide) (XS.iload X115.here hx rfl (hb hby at_188) rfl (XS.iconst X115.here hx rfl (hb hby at_190) (XS.icmpYes X115.here hx rfl (pc0 := 191) (pc' := 200) rfl (hb hby at_191) rfl (flt (by decide : ¬ ((2 : Int32) < (1 : Int32)))).2.2.2 (by decide) (by decide) k)))))) ?_
      exact J11 _ _ _ _ _ _ [s0] (own_wk X115 (lb rfl) (lb rfl)) e115 N115 (((Keep.refl h6 []).ext E108).wr W115 (Or.inr (Nat.le_of_eq gb108.symm))) (Nat.le_of_eq gb108.symm) V115 (Or.inr (Or.inl ⟨rfl, rfl⟩))
    · rw [hm]
      refine og T6 (mkF m 161 #[vI pi0, vI pi1, vI pi2, vI pi3, vI pi4, vI pi5, vR kd, vI zT, vI (2 : Int32), vI t0, vI t1, vI t2, vI s0, vI s1, vI s2, vR bT, vU, vU, vU, vU, vU, vU, vU, vU] [(.int (2 : Int32))]) (fun _ k => XS.iload X6.here hx rfl (hb hby at_159) rfl k) ?_
      obtain ⟨T119, h119, k119, X119, e119, E119, A119, st119⟩ := newP X6 hx hZ (own_w hw 11) e6 (g := (mkF m 161 #[vI pi0, vI pi1, vI pi2, vI pi3, vI pi4, vI pi5, vR kd, vI zT, vI (2 : Int32), vI t0, vI t1, vI t2, vI s0, vI s1, vI s2, vR bT, vU, vU, vU, vU, vU, vU, vU, vU] [(.int (2 : Int32))])) rfl (hb hby at_161) rfl (by decide) (cap := 2) (by decide) (lb rfl) (lb rfl) (lb rfl)
      obtain ⟨b119, gb119⟩ : ∃ z, z = h6.size := ⟨_, rfl⟩
      rw [← gb119] at A119 st119
      have F121 := (OLD.keep K6 all0)
      have g120 : n0 ≤ b119 := Nat.le_trans (own_osz F121) (Nat.le_of_eq gb119.symm)
      have F123 := (Nat.le_trans (Nat.le_refl _) K6.1)
      have z122 : h0.size ≤ b119 := Nat.le_trans F123 (Nat.le_of_eq gb119.symm)
      have ch124 := CHr.ext E119 CH10.1
      have CH125 := CHr.trans CH10 ch124
      have V119 : Arv Z h119 b119 k119 .char (2 : Int32) [(.int (0 : Int32)), (.int (0 : Int32))] (.int (0 : Int32)) := (Arv.new A119 (by decide)).pad (pad_rep [] (.int (0 : Int32)) 2)
      refine og T119 (mkF m 163 #[vI pi0, vI pi1, vI pi2, vI pi3, vI pi4, vI pi5, vR kd, vI zT, vI (2 : Int32), vI t0, vI t1, vI t2, vI s0, vI s1, vI s2, vR bT, vU, vU, vU, vU, vU, vU, vU, vU] [(.ref b119)]) st119 ?_
      refine og T119 (mkF m 175 #[vI pi0, vI pi1, vI pi2, vI pi3, vI pi4, vI pi5, vR kd, vI zT, vI (2 : Int32), vI t0, vI t1, vI t2, vI s0, vI s1, vI s2, vR bT, vR b119, vU, vU, vU, vU, vU, vU, vU] [(.int s0), (.int (0 : Int32)), (.ref b119)]) (fun _ k => XS.astore X119.here hx rfl (hb hby at_163) rfl rfl (l' := #[vI pi0, vI pi1, vI pi2, vI pi3, vI pi4, vI pi5, vR kd, vI zT, vI (2 : Int32), vI t0, vI t1, vI t2, vI s0, vI s1, vI s2, vR bT, vR b119, vU, vU, vU, vU, vU, vU, vU]) rfl (XS.iload X119.here hx rfl (hb hby at_165) rfl (XS.ifNo X119.here hx rfl (hb hby at_167) rfl ((if0 _ _).trans (tlt (by decide : (0 : Int32) < (2 : Int32))).2.2.2) (XS.aload X119.here hx rfl (hb hby at_170) rfl rfl (XS.iconst X119.here hx rfl (hb hby at_172) (XS.iload X119.here hx rfl (hb hby at_173) rfl k)))))) ?_
      obtain ⟨cl126, Ar126, qr126, Sr126, Nr126, Hr126, Gr126⟩ := id V119
      obtain ⟨T126, h126, X126, e126, W126, st126⟩ := stC X119 hx hZ e119 Ar126 (j := (0 : Int32)) (inb_of Sr126 ⟨by decide, by decide⟩) (g := (mkF m 175 #[vI pi0, vI pi1, vI pi2, vI pi3, vI pi4, vI pi5, vR kd, vI zT, vI (2 : Int32), vI t0, vI t1, vI t2, vI s0, vI s1, vI s2, vR bT, vR b119, vU, vU, vU, vU, vU, vU, vU] [(.int s0), (.int (0 : Int32)), (.ref b119)])) rfl rfl (hb hby at_175)
      have V126 : Arv Z h126 b119 k119 .char (2 : Int32) [(.int (nar .char s0)), (.int (0 : Int32))] (.int (0 : Int32)) := Arv.set Ar126 qr126 Sr126 Nr126 Hr126 Gr126 (fits_nar_char _) W126 0 rfl (lb rfl)
      rw [show nar .char s0 = s0 from (own_ncl hls0)] at V126
      obtain ⟨_, q128, -⟩ := id V119
      have ch127 := CHr.wr W126 (Safe.arr hZ.alike q128 nofun) CH125.1
      have CH129 := CHr.trans CH125 ch127
      have N126 := Fr.snoc X126 N6 g120
      refine og T126 (mkF m 176 #[vI pi0, vI pi1, vI pi2, vI pi3, vI pi4, vI pi5, vR kd, vI zT, vI (2 : Int32), vI t0, vI t1, vI t2, vI s0, vI s1, vI s2, vR bT, vR b119, vU, vU, vU, vU, vU, vU, vU] []) st126 ?_
      refine og T126 (mkF m 187 #[vI pi0, vI pi1, vI pi2, vI pi3, vI pi4, vI pi5, vR kd, vI zT, vI (2 : Int32), vI t0, vI t1, vI t2, vI s0, vI s1, vI s2, vR bT, vR b119, vU, vU, vU, vU, vU, vU, vU] [(.int s1), (.int (1 : Int32)), (.ref b119)]) (fun _ k => XS.iload X126.here hx rfl (hb hby at_176) rfl (XS.iconst X126.here hx rfl (hb hby at_178) (XS.icmpNo X126.here hx rfl (hb hby at_179) rfl (tlt (by decide : (1 : Int32) < (2 : Int32))).2.2.2 (XS.aload X126.here hx rfl (hb hby at_182) rfl rfl (XS.iconst X126.here hx rfl (hb hby at_184) (XS.iload X126.here hx rfl (hb hby at_185) rfl k)))))) ?_
      obtain ⟨cl130, Ar130, qr130, Sr130, Nr130, Hr130, Gr130⟩ := id V126
      obtain ⟨T130, h130, X130, e130, W130, st130⟩ := stC X126 hx hZ e126 Ar130 (j := (1 : Int32)) (inb_of Sr130 ⟨by decide, by decide⟩) (g := (mkF m 187 #[vI pi0, vI pi1, vI pi2, vI pi3, vI pi4, vI pi5, vR kd, vI zT, vI (2 : Int32), vI t0, vI t1, vI t2, vI s0, vI s1, vI s2, vR bT, vR b119, vU, vU, vU, vU, vU, vU, vU] [(.int s1), (.int (1 : Int32)), (.ref b119)])) rfl rfl (hb hby at_187)
      have V130 : Arv Z h130 b119 k119 .char (2 : Int32) [(.int s0), (.int (nar .char s1))] (.int (0 : Int32)) := Arv.set Ar130 qr130 Sr130 Nr130 Hr130 Gr130 (fits_nar_char _) W130 1 rfl (lb rfl)
      rw [show nar .char s1 = s1 from (own_ncl hls1)] at V130
      obtain ⟨_, q132, -⟩ := id V126
      have ch131 := CHr.wr W130 (Safe.arr hZ.alike q132 nofun) CH129.1
      have CH133 := CHr.trans CH129 ch131
      have N130 := Fr.snoc X130 N126 g120
      refine og T130 (mkF m 188 #[vI pi0, vI pi1, vI pi2, vI pi3, vI pi4, vI pi5, vR kd, vI zT, vI (2 : Int32), vI t0, vI t1, vI t2, vI s0, vI s1, vI s2, vR bT, vR b119, vU, vU, vU, vU, vU, vU, vU] []) st130 ?_
      refine og T130 (mkF m 200 #[vI pi0, vI pi1, vI pi2, vI pi3, vI pi4, vI pi5, vR kd, vI zT, vI (2 : Int32), vI t0, vI t1, vI t2, vI s0, vI s1, vI s2, vR bT, vR b119, vU, vU, vU, vU, vU, vU, vU] []) (fun _ k => XS.iload X130.here hx rfl (hb hby at_188) rfl (XS.iconst X130.here hx rfl (hb hby at_190) (XS.icmpYes X130.here hx rfl (pc0 := 191) (pc' := 200) rfl (hb hby at_191) rfl (flt (by decide : ¬ ((2 : Int32) < (2 : Int32)))).2.2.2 (by decide) (by decide) k))) ?_
      exact J11 _ _ _ _ _ _ [s0, s1] (own_wk X130 (lb rfl) (lb rfl)) e130 N130 ((((Keep.refl h6 []).ext E119).wr W126 (Or.inr (Nat.le_of_eq gb119.symm))).wr W130 (Or.inr (Nat.le_of_eq gb119.symm))) (Nat.le_of_eq gb119.symm) V130 (Or.inr (Or.inr (Or.inl ⟨rfl, rfl⟩)))
    · rw [hm]
      refine og T6 (mkF m 161 #[vI pi0, vI pi1, vI pi2, vI pi3, vI pi4, vI pi5, vR kd, vI zT, vI (3 : Int32), vI t0, vI t1, vI t2, vI s0, vI s1, vI s2, vR bT, vU, vU, vU, vU, vU, vU, vU, vU] [(.int (3 : Int32))]) (fun _ k => XS.iload X6.here hx rfl (hb hby at_159) rfl k) ?_
      obtain ⟨T134, h134, k134, X134, e134, E134, A134, st134⟩ := newP X6 hx hZ (own_w hw 11) e6 (g := (mkF m 161 #[vI pi0, vI pi1, vI pi2, vI pi3, vI pi4, vI pi5, vR kd, vI zT, vI (3 : Int32), vI t0, vI t1, vI t2, vI s0, vI s1, vI s2, vR bT, vU, vU, vU, vU, vU, vU, vU, vU] [(.int (3 : Int32))])) rfl (hb hby at_161) rfl (by decide) (cap := 3) (by decide) (lb rfl) (lb rfl) (lb rfl)
      obtain ⟨b134, gb134⟩ : ∃ z, z = h6.size := ⟨_, rfl⟩
      rw [← gb134] at A134 st134
      have F136 := (OLD.keep K6 all0)
      have g135 : n0 ≤ b134 := Nat.le_trans (own_osz F136) (Nat.le_of_eq gb134.symm)
      have F138 := (Nat.le_trans (Nat.le_refl _) K6.1)
      have z137 : h0.size ≤ b134 := Nat.le_trans F138 (Nat.le_of_eq gb134.symm)
      have ch139 := CHr.ext E134 CH10.1
      have CH140 := CHr.trans CH10 ch139
      have V134 : Arv Z h134 b134 k134 .char (3 : Int32) [(.int (0 : Int32)), (.int (0 : Int32)), (.int (0 : Int32))] (.int (0 : Int32)) := (Arv.new A134 (by decide)).pad (pad_rep [] (.int (0 : Int32)) 3)
      refine og T134 (mkF m 163 #[vI pi0, vI pi1, vI pi2, vI pi3, vI pi4, vI pi5, vR kd, vI zT, vI (3 : Int32), vI t0, vI t1, vI t2, vI s0, vI s1, vI s2, vR bT, vU, vU, vU, vU, vU, vU, vU, vU] [(.ref b134)]) st134 ?_
      refine og T134 (mkF m 175 #[vI pi0, vI pi1, vI pi2, vI pi3, vI pi4, vI pi5, vR kd, vI zT, vI (3 : Int32), vI t0, vI t1, vI t2, vI s0, vI s1, vI s2, vR bT, vR b134, vU, vU, vU, vU, vU, vU, vU] [(.int s0), (.int (0 : Int32)), (.ref b134)]) (fun _ k => XS.astore X134.here hx rfl (hb hby at_163) rfl rfl (l' := #[vI pi0, vI pi1, vI pi2, vI pi3, vI pi4, vI pi5, vR kd, vI zT, vI (3 : Int32), vI t0, vI t1, vI t2, vI s0, vI s1, vI s2, vR bT, vR b134, vU, vU, vU, vU, vU, vU, vU]) rfl (XS.iload X134.here hx rfl (hb hby at_165) rfl (XS.ifNo X134.here hx rfl (hb hby at_167) rfl ((if0 _ _).trans (tlt (by decide : (0 : Int32) < (3 : Int32))).2.2.2) (XS.aload X134.here hx rfl (hb hby at_170) rfl rfl (XS.iconst X134.here hx rfl (hb hby at_172) (XS.iload X134.here hx rfl (hb hby at_173) rfl k)))))) ?_
      obtain ⟨cl141, Ar141, qr141, Sr141, Nr141, Hr141, Gr141⟩ := id V134
      obtain ⟨T141, h141, X141, e141, W141, st141⟩ := stC X134 hx hZ e134 Ar141 (j := (0 : Int32)) (inb_of Sr141 ⟨by decide, by decide⟩) (g := (mkF m 175 #[vI pi0, vI pi1, vI pi2, vI pi3, vI pi4, vI pi5, vR kd, vI zT, vI (3 : Int32), vI t0, vI t1, vI t2, vI s0, vI s1, vI s2, vR bT, vR b134, vU, vU, vU, vU, vU, vU, vU] [(.int s0), (.int (0 : Int32)), (.ref b134)])) rfl rfl (hb hby at_175)
      have V141 : Arv Z h141 b134 k134 .char (3 : Int32) [(.int (nar .char s0)), (.int (0 : Int32)), (.int (0 : Int32))] (.int (0 : Int32)) := Arv.set Ar141 qr141 Sr141 Nr141 Hr141 Gr141 (fits_nar_char _) W141 0 rfl (lb rfl)
      rw [show nar .char s0 = s0 from (own_ncl hls0)] at V141
      obtain ⟨_, q143, -⟩ := id V134
      have ch142 := CHr.wr W141 (Safe.arr hZ.alike q143 nofun) CH140.1
      have CH144 := CHr.trans CH140 ch142
      have N141 := Fr.snoc X141 N6 g135
      refine og T141 (mkF m 176 #[vI pi0, vI pi1, vI pi2, vI pi3, vI pi4, vI pi5, vR kd, vI zT, vI (3 : Int32), vI t0, vI t1, vI t2, vI s0, vI s1, vI s2, vR bT, vR b134, vU, vU, vU, vU, vU, vU, vU] []) st141 ?_
      refine og T141 (mkF m 187 #[vI pi0, vI pi1, vI pi2, vI pi3, vI pi4, vI pi5, vR kd, vI zT, vI (3 : Int32), vI t0, vI t1, vI t2, vI s0, vI s1, vI s2, vR bT, vR b134, vU, vU, vU, vU, vU, vU, vU] [(.int s1), (.int (1 : Int32)), (.ref b134)]) (fun _ k => XS.iload X141.here hx rfl (hb hby at_176) rfl (XS.iconst X141.here hx rfl (hb hby at_178) (XS.icmpNo X141.here hx rfl (hb hby at_179) rfl (tlt (by decide : (1 : Int32) < (3 : Int32))).2.2.2 (XS.aload X141.here hx rfl (hb hby at_182) rfl rfl (XS.iconst X141.here hx rfl (hb hby at_184) (XS.iload X141.here hx rfl (hb hby at_185) rfl k)))))) ?_
      obtain ⟨cl145, Ar145, qr145, Sr145, Nr145, Hr145, Gr145⟩ := id V141
      obtain ⟨T145, h145, X145, e145, W145, st145⟩ := stC X141 hx hZ e141 Ar145 (j := (1 : Int32)) (inb_of Sr145 ⟨by decide, by decide⟩) (g := (mkF m 187 #[vI pi0, vI pi1, vI pi2, vI pi3, vI pi4, vI pi5, vR kd, vI zT, vI (3 : Int32), vI t0, vI t1, vI t2, vI s0, vI s1, vI s2, vR bT, vR b134, vU, vU, vU, vU, vU, vU, vU] [(.int s1), (.int (1 : Int32)), (.ref b134)])) rfl rfl (hb hby at_187)
      have V145 : Arv Z h145 b134 k134 .char (3 : Int32) [(.int s0), (.int (nar .char s1)), (.int (0 : Int32))] (.int (0 : Int32)) := Arv.set Ar145 qr145 Sr145 Nr145 Hr145 Gr145 (fits_nar_char _) W145 1 rfl (lb rfl)
      rw [show nar .char s1 = s1 from (own_ncl hls1)] at V145
      obtain ⟨_, q147, -⟩ := id V141
      have ch146 := CHr.wr W145 (Safe.arr hZ.alike q147 nofun) CH144.1
      have CH148 := CHr.trans CH144 ch146
      have N145 := Fr.snoc X145 N141 g135
      refine og T145 (mkF m 188 #[vI pi0, vI pi1, vI pi2, vI pi3, vI pi4, vI pi5, vR kd, vI zT, vI (3 : Int32), vI t0, vI t1, vI t2, vI s0, vI s1, vI s2, vR bT, vR b134, vU, vU, vU, vU, vU, vU, vU] []) st145 ?_
      refine og T145 (mkF m 199 #[vI pi0, vI pi1, vI pi2, vI pi3, vI pi4, vI pi5, vR kd, vI zT, vI (3 : Int32), vI t0, vI t1, vI t2, vI s0, vI s1, vI s2, vR bT, vR b134, vU, vU, vU, vU, vU, vU, vU] [(.int s2), (.int (2 : Int32)), (.ref b134)]) (fun _ k => XS.iload X145.here hx rfl (hb hby at_188) rfl (XS.iconst X145.here hx rfl (hb hby at_190) (XS.icmpNo X145.here hx rfl (hb hby at_191) rfl (tlt (by decide : (2 : Int32) < (3 : Int32))).2.2.2 (XS.aload X145.here hx rfl (hb hby at_194) rfl rfl (XS.iconst X145.here hx rfl (hb hby at_196) (XS.iload X145.here hx rfl (hb hby at_197) rfl k)))))) ?_
      obtain ⟨cl149, Ar149, qr149, Sr149, Nr149, Hr149, Gr149⟩ := id V145
      obtain ⟨T149, h149, X149, e149, W149, st149⟩ := stC X145 hx hZ e145 Ar149 (j := (2 : Int32)) (inb_of Sr149 ⟨by decide, by decide⟩) (g := (mkF m 199 #[vI pi0, vI pi1, vI pi2, vI pi3, vI pi4, vI pi5, vR kd, vI zT, vI (3 : Int32), vI t0, vI t1, vI t2, vI s0, vI s1, vI s2, vR bT, vR b134, vU, vU, vU, vU, vU, vU, vU] [(.int s2), (.int (2 : Int32)), (.ref b134)])) rfl rfl (hb hby at_199)
      have V149 : Arv Z h149 b134 k134 .char (3 : Int32) [(.int s0), (.int s1), (.int (nar .char s2))] (.int (0 : Int32)) := Arv.set Ar149 qr149 Sr149 Nr149 Hr149 Gr149 (fits_nar_char _) W149 2 rfl (lb rfl)
      rw [show nar .char s2 = s2 from (own_ncl hls2)] at V149
      obtain ⟨_, q151, -⟩ := id V145
      have ch150 := CHr.wr W149 (Safe.arr hZ.alike q151 nofun) CH148.1
      have CH152 := CHr.trans CH148 ch150
      have N149 := Fr.snoc X149 N145 g135
      refine og T149 (mkF m 200 #[vI pi0, vI pi1, vI pi2, vI pi3, vI pi4, vI pi5, vR kd, vI zT, vI (3 : Int32), vI t0, vI t1, vI t2, vI s0, vI s1, vI s2, vR bT, vR b134, vU, vU, vU, vU, vU, vU, vU] []) st149 ?_
      exact J11 _ _ _ _ _ _ [s0, s1, s2] (own_wk X149 (lb rfl) (lb rfl)) e149 N149 (((((Keep.refl h6 []).ext E134).wr W141 (Or.inr (Nat.le_of_eq gb134.symm))).wr W145 (Or.inr (Nat.le_of_eq gb134.symm))).wr W149 (Or.inr (Nat.le_of_eq gb134.symm))) (Nat.le_of_eq gb134.symm) V149 (Or.inr (Or.inr (Or.inr ⟨rfl, rfl⟩)))
  rcases own_and3 (pi5) with hm | hm | hm | hm
  · rw [hm]
    refine og T4 (mkF m 120 #[vI pi0, vI pi1, vI pi2, vI pi3, vI pi4, vI pi5, vR kd, vI (0 : Int32), vI (((pi5.toUInt32 >>> ((2 : Int32) &&& 31).toUInt32).toInt32) &&& (3 : Int32)), vI t0, vI t1, vI t2, vI s0, vI s1, vI s2, vU, vU, vU, vU, vU, vU, vU, vU, vU] [(.int (0 : Int32))]) (fun _ k => XS.iload X4.here hx rfl (hb hby at_118) rfl k) ?_
    obtain ⟨T153, h153, k153, X153, e153, E153, A153, st153⟩ := newP X4 hx hZ (own_w hw 11) eq4 (g := (mkF m 120 #[vI pi0, vI pi1, vI pi2, vI pi3, vI pi4, vI pi5, vR kd, vI (0 : Int32), vI (((pi5.toUInt32 >>> ((2 : Int32) &&& 31).toUInt32).toInt32) &&& (3 : Int32)), vI t0, vI t1, vI t2, vI s0, vI s1, vI s2, vU, vU, vU, vU, vU, vU, vU, vU, vU] [(.int (0 : Int32))])) rfl (hb hby at_120) rfl (by decide) (cap := 0) (by decide) (lb rfl) (lb rfl) (lb rfl)
    obtain ⟨b153, gb153⟩ : ∃ z, z = h0.size := ⟨_, rfl⟩
    rw [← gb153] at A153 st153
    have g154 : n0 ≤ b153 := Nat.le_trans (own_osz OLD) (Nat.le_of_eq gb153.symm)
    have z155 : h0.size ≤ b153 := Nat.le_trans (Nat.le_refl _) (Nat.le_of_eq gb153.symm)
    have ch156 := CHr.ext E153 CH0.1
    have CH157 := CHr.trans CH0 ch156
    have V153 : Arv Z h153 b153 k153 .char (0 : Int32) [] (.int (0 : Int32)) := (Arv.new A153 (by decide)).pad (pad_rep [] (.int (0 : Int32)) 0)
    refine og T153 (mkF m 122 #[vI pi0, vI pi1, vI pi2, vI pi3, vI pi4, vI pi5, vR kd, vI (0 : Int32), vI (((pi5.toUInt32 >>> ((2 : Int32) &&& 31).toUInt32).toInt32) &&& (3 : Int32)), vI t0, vI t1, vI t2, vI s0, vI s1, vI s2, vU, vU, vU, vU, vU, vU, vU, vU, vU] [(.ref b153)]) st153 ?_
    refine og T153 (mkF m 159 #[vI pi0, vI pi1, vI pi2, vI pi3, vI pi4, vI pi5, vR kd, vI (0 : Int32), vI (((pi5.toUInt32 >>> ((2 : Int32) &&& 31).toUInt32).toInt32) &&& (3 : Int32)), vI t0, vI t1, vI t2, vI s0, vI s1, vI s2, vR b153, vU, vU, vU, vU, vU, vU, vU, vU] []) (fun _ k => XS.astore X153.here hx rfl (hb hby at_122) rfl rfl (l' := #[vI pi0, vI pi1, vI pi2, vI pi3, vI pi4, vI pi5, vR kd, vI (0 : Int32), vI (((pi5.toUInt32 >>> ((2 : Int32) &&& 31).toUInt32).toInt32) &&& (3 : Int32)), vI t0, vI t1, vI t2, vI s0, vI s1, vI s2, vR b153, vU, vU, vU, vU, vU, vU, vU, vU]) rfl (XS.iload X153.here hx rfl (hb hby at_124) rfl (XS.ifYes X153.here hx rfl (pc0 := 126) (pc' := 135) rfl (hb hby at_126) rfl ((if0 _ _).trans (flt (by decide : ¬ ((0 : Int32) < (0 : Int32)))).2.2.2) (by decide) (by decide) (XS.iload X153.here hx rfl (hb hby at_135) rfl (XS.iconst X153.here hx rfl (hb hby at_137) (XS.icmpYes X153.here hx rfl (pc0 := 138) (pc' := 147) rfl (hb hby at_138) rfl (flt (by decide : ¬ ((1 : Int32) < (0 : Int32)))).2.2.2 (by decide) (by decide) (XS.iload X153.here hx rfl (hb hby at_147) rfl (XS.iconst X153.here hx rfl (hb hby at_149) (XS.icmpYes X153.here hx rfl (pc0 := 150) (pc' := 159) rfl (hb hby at_150) rfl (flt (by decide : ¬ ((2 : Int32) < (0 : Int32)))).2.2.2 (by decide) (by decide) k))))))))) ?_
    exact J5 _ _ _ _ _ _ [] (own_wk X153 (lb rfl) (lb rfl)) e153 N4 ((Keep.refl h0 []).ext E153) (Nat.le_of_eq gb153.symm) V153 (Or.inl ⟨rfl, rfl⟩)
  · rw [hm]
    refine og T4 (mkF m 120 #[vI pi0, vI pi1, vI pi2, vI pi3, vI pi4, vI pi5, vR kd, vI (1 : Int32), vI (((pi5.toUInt32 >>> ((2 : Int32) &&& 31).toUInt32).toInt32) &&& (3 : Int32)), vI t0, vI t1, vI t2, vI s0, vI s1, vI s2, vU, vU, vU, vU, vU, vU, vU, vU, vU] [(.int (1 : Int32))]) (fun _ k => XS.iload X4.here hx rfl (hb hby at_118) rfl k) ?_
    obtain ⟨T158, h158, k158, X158, e158, E158, A158, st158⟩ := newP X4 hx hZ (own_w hw 11) eq4 (g := (mkF m 120 #[vI pi0, vI pi1, vI pi2, vI pi3, vI pi4, vI pi5, vR kd, vI (1 : Int32), vI (((pi5.toUInt32 >>> ((2 : Int32) &&& 31).toUInt32).toInt32) &&& (3 : Int32)), vI t0, vI t1, vI t2, vI s0, vI s1, vI s2, vU, vU, vU, vU, vU, vU, vU, vU, vU] [(.int (1 : Int32))])) rfl (hb hby at_120) rfl (by decide) (cap := 1) (by decide) (lb rfl) (lb rfl) (lb rfl)
    obtain ⟨b158, gb158⟩ : ∃ z, z = h0.size := ⟨_, rfl⟩
    rw [← gb158] at A158 st158
    have g159 : n0 ≤ b158 := Nat.le_trans (own_osz OLD) (Nat.le_of_eq gb158.symm)
    have z160 : h0.size ≤ b158 := Nat.le_trans (Nat.le_refl _) (Nat.le_of_eq gb158.symm)
    have ch161 := CHr.ext E158 CH0.1
    have CH162 := CHr.trans CH0 ch161
    have V158 : Arv Z h158 b158 k158 .char (1 : Int32) [(.int (0 : Int32))] (.int (0 : Int32)) := (Arv.new A158 (by decide)).pad (pad_rep [] (.int (0 : Int32)) 1)
    refine og T158 (mkF m 122 #[vI pi0, vI pi1, vI pi2, vI pi3, vI pi4, vI pi5, vR kd, vI (1 : Int32), vI (((pi5.toUInt32 >>> ((2 : Int32) &&& 31).toUInt32).toInt32) &&& (3 : Int32)), vI t0, vI t1, vI t2, vI s0, vI s1, vI s2, vU, vU, vU, vU, vU, vU, vU, vU, vU] [(.ref b158)]) st158 ?_
    refine og T158 (mkF m 134 #[vI pi0, vI pi1, vI pi2, vI pi3, vI pi4, vI pi5, vR kd, vI (1 : Int32), vI (((pi5.toUInt32 >>> ((2 : Int32) &&& 31).toUInt32).toInt32) &&& (3 : Int32)), vI t0, vI t1, vI t2, vI s0, vI s1, vI s2, vR b158, vU, vU, vU, vU, vU, vU, vU, vU] [(.int t0), (.int (0 : Int32)), (.ref b158)]) (fun _ k => XS.astore X158.here hx rfl (hb hby at_122) rfl rfl (l' := #[vI pi0, vI pi1, vI pi2, vI pi3, vI pi4, vI pi5, vR kd, vI (1 : Int32), vI (((pi5.toUInt32 >>> ((2 : Int32) &&& 31).toUInt32).toInt32) &&& (3 : Int32)), vI t0, vI t1, vI t2, vI s0, vI s1, vI s2, vR b158, vU, vU, vU, vU, vU, vU, vU, vU]) rfl (XS.iload X158.here hx rfl (hb hby at_124) rfl (XS.ifNo X158.here hx rfl (hb hby at_126) rfl ((if0 _ _).trans (tlt (by decide : (0 : Int32) < (1 : Int32))).2.2.2) (XS.aload X158.here hx rfl (hb hby at_129) rfl rfl (XS.iconst X158.here hx rfl (hb hby at_131) (XS.iload X158.here hx rfl (hb hby at_132) rfl k)))))) ?_
    obtain ⟨cl163, Ar163, qr163, Sr163, Nr163, Hr163, Gr163⟩ := id V158
    obtain ⟨T163, h163, X163, e163, W163, st163⟩ := stC X158 hx hZ e158 Ar163 (j := (0 : Int32)) (inb_of Sr163 ⟨by decide, by decide⟩) (g := (mkF m 134 #[vI pi0, vI pi1, vI pi2, vI pi3, vI pi4, vI pi5, vR kd, vI (1 : Int32), vI (((pi5.toUInt32 >>> ((2 : Int32) &&& 31).toUInt32).toInt32) &&& (3 : Int32)), vI t0, vI t1, vI t2, vI s0, vI s1, vI s2, vR b158, vU, vU, vU, vU, vU, vU, vU, vU] [(.int t0), (.int (0 : Int32)), (.ref b158)])) rfl rfl (hb hby at_134)
    have V163 : Arv Z h163 b158 k158 .char (1 : Int32) [(.int (nar .char t0))] (.int (0 : Int32)) := Arv.set Ar163 qr163 Sr163 Nr163 Hr163 Gr163 (fits_nar_char _) W163 0 rfl (lb rfl)
    rw [show nar .char t0 = t0 from (own_ncl hlt0)] at V163
    obtain ⟨_, q165, -⟩ := id V158
    have ch164 := CHr.wr W163 (Safe.arr hZ.alike q165 nofun) CH162.1
    have CH166 := CHr.trans CH162 ch164
    have N163 := Fr.snoc X163 N4 g159
    refine og T163 (mkF m 135 #[vI pi0, vI pi1, vI pi2, vI pi3, vI pi4, vI pi5, vR kd, vI (1 : Int32), vI (((pi5.toUInt32 >>> ((2 : Int32) &&& 31).toUInt32).toInt32) &&& (3 : Int32)), vI t0, vI t1, vI t2, vI s0, vI s1, vI s2, vR b158, vU, vU, vU, vU, vU, vU, vU, vU] []) st163 ?_
    refine og T163 (mkF m 159 #[vI pi0, vI pi1, vI pi2, vI pi3, vI pi4, vI pi5, vR kd, vI (1 : Int32), vI (((pi5.toUInt32 >>> ((2 : Int32) &&& 31).toUInt32).toInt32) &&& (3 : Int32)), vI t0, vI t1, vI t2, vI s0, vI s1, vI s2, vR b158, vU, vU, vU, vU, vU, vU, vU, vU] []) (fun _ k => XS.iload X163.here hx rfl (hb hby at_135) rfl (XS.iconst X163.here hx rfl (hb hby at_137) (XS.icmpYes X163.here hx rfl (pc0 := 138) (pc' := 147) rfl (hb hby at_138) rfl (flt (by decide : ¬ ((1 : Int32) < (1 : Int32)))).2.2.2 (by decide) (by decide) (XS.iload X163.here hx rfl (hb hby at_147) rfl (XS.iconst X163.here hx rfl (hb hby at_149) (XS.icmpYes X163.here hx rfl (pc0 := 150) (pc' := 159) rfl (hb hby at_150) rfl (flt (by decide : ¬ ((2 : Int32) < (1 : Int32)))).2.2.2 (by decide) (by decide) k)))))) ?_
    exact J5 _ _ _ _ _ _ [t0] (own_wk X163 (lb rfl) (lb rfl)) e163 N163 (((Keep.refl h0 []).ext E158).wr W163 (Or.inr (Nat.le_of_eq gb158.symm))) (Nat.le_of_eq gb158.symm) V163 (Or.inr (Or.inl ⟨rfl, rfl⟩))
  · rw [hm]
    refine og T4 (mkF m 120 #[vI pi0, vI pi1, vI pi2, vI pi3, vI pi4, vI pi5, vR kd, vI (2 : Int32), vI (((pi5.toUInt32 >>> ((2 : Int32) &&& 31).toUInt32).toInt32) &&& (3 : Int32)), vI t0, vI t1, vI t2, vI s0, vI s1, vI s2, vU, vU, vU, vU, vU, vU, vU, vU, vU] [(.int (2 : Int32))]) (fun _ k => XS.iload X4.here hx rfl (hb hby at_118) rfl k) ?_
    obtain ⟨T167, h167, k167, X167, e167, E167, A167, st167⟩ := newP X4 hx hZ (own_w hw 11) eq4 (g := (mkF m 120 #[vI pi0, vI pi1, vI pi2, vI pi3, vI pi4, vI pi5, vR kd, vI (2 : Int32), vI (((pi5.toUInt32 >>> ((2 : Int32) &&& 31).toUInt32).toInt32) &&& (3 : Int32)), vI t0, vI t1, vI t2, vI s0, vI s1, vI s2, vU, vU, vU, vU, vU, vU, vU, vU, vU] [(.int (2 : Int32))])) rfl (hb hby at_120) rfl (by decide) (cap := 2) (by decide) (lb rfl) (lb rfl) (lb rfl)
    obtain ⟨b167, gb167⟩ : ∃ z, z = h0.size := ⟨_, rfl⟩
    rw [← gb167] at A167 st167
    have g168 : n0 ≤ b167 := Nat.le_trans (own_osz OLD) (Nat.le_of_eq gb167.symm)
    have z169 : h0.size ≤ b167 := Nat.le_trans (Nat.le_refl _) (Nat.le_of_eq gb167.symm)
    have ch170 := CHr.ext E167 CH0.1
    have CH171 := CHr.trans CH0 ch170
    have V167 : Arv Z h167 b167 k167 .char (2 : Int32) [(.int (0 : Int32)), (.int (0 : Int32))] (.int (0 : Int32)) := (Arv.new A167 (by decide)).pad (pad_rep [] (.int (0 : Int32)) 2)
    refine og T167 (mkF m 122 #[vI pi0, vI pi1, vI pi2, vI pi3, vI pi4, vI pi5, vR kd, vI (2 : Int32), vI (((pi5.toUInt32 >>> ((2 : Int32) &&& 31).toUInt32).toInt32) &&& (3 : Int32)), vI t0, vI t1, vI t2, vI s0, vI s1, vI s2, vU, vU, vU, vU, vU, vU, vU, vU, vU] [(.ref b167)]) st167 ?_
    refine og T167 (mkF m 134 #[vI pi0, vI pi1, vI pi2, vI pi3, vI pi4, vI pi5, vR kd, vI (2 : Int32), vI (((pi5.toUInt32 >>> ((2 : Int32) &&& 31).toUInt32).toInt32) &&& (3 : Int32)), vI t0, vI t1, vI t2, vI s0, vI s1, vI s2, vR b167, vU, vU, vU, vU, vU, vU, vU, vU] [(.int t0), (.int (0 : Int32)), (.ref b167)]) (fun _ k => XS.astore X167.here hx rfl (hb hby at_122) rfl rfl (l' := #[vI pi0, vI pi1, vI pi2, vI pi3, vI pi4, vI pi5, vR kd, vI (2 : Int32), vI (((pi5.toUInt32 >>> ((2 : Int32) &&& 31).toUInt32).toInt32) &&& (3 : Int32)), vI t0, vI t1, vI t2, vI s0, vI s1, vI s2, vR b167, vU, vU, vU, vU, vU, vU, vU, vU]) rfl (XS.iload X167.here hx rfl (hb hby at_124) rfl (XS.ifNo X167.here hx rfl (hb hby at_126) rfl ((if0 _ _).trans (tlt (by decide : (0 : Int32) < (2 : Int32))).2.2.2) (XS.aload X167.here hx rfl (hb hby at_129) rfl rfl (XS.iconst X167.here hx rfl (hb hby at_131) (XS.iload X167.here hx rfl (hb hby at_132) rfl k)))))) ?_
    obtain ⟨cl172, Ar172, qr172, Sr172, Nr172, Hr172, Gr172⟩ := id V167
    obtain ⟨T172, h172, X172, e172, W172, st172⟩ := stC X167 hx hZ e167 Ar172 (j := (0 : Int32)) (inb_of Sr172 ⟨by decide, by decide⟩) (g := (mkF m 134 #[vI pi0, vI pi1, vI pi2, vI pi3, vI pi4, vI pi5, vR kd, vI (2 : Int32), vI (((pi5.toUInt32 >>> ((2 : Int32) &&& 31).toUInt32).toInt32) &&& (3 : Int32)), vI t0, vI t1, vI t2, vI s0, vI s1, vI s2, vR b167, vU, vU, vU, vU, vU, vU, vU, vU] [(.int t0), (.int (0 : Int32)), (.ref b167)])) rfl rfl (hb hby at_134)
    have V172 : Arv Z h172 b167 k167 .char (2 : Int32) [(.int (nar .char t0)), (.int (0 : Int32))] (.int (0 : Int32)) := Arv.set Ar172 qr172 Sr172 Nr172 Hr172 Gr172 (fits_nar_char _) W172 0 rfl (lb rfl)
    rw [show nar .char t0 = t0 from (own_ncl hlt0)] at V172
    obtain ⟨_, q174, -⟩ := id V167
    have ch173 := CHr.wr W172 (Safe.arr hZ.alike q174 nofun) CH171.1
    have CH175 := CHr.trans CH171 ch173
    have N172 := Fr.snoc X172 N4 g168
    refine og T172 (mkF m 135 #[vI pi0, vI pi1, vI pi2, vI pi3, vI pi4, vI pi5, vR kd, vI (2 : Int32), vI (((pi5.toUInt32 >>> ((2 : Int32) &&& 31).toUInt32).toInt32) &&& (3 : Int32)), vI t0, vI t1, vI t2, vI s0, vI s1, vI s2, vR b167, vU, vU, vU, vU, vU, vU, vU, vU] []) st172 ?_
    refine og T172 (mkF m 146 #[vI pi0, vI pi1, vI pi2, vI pi3, vI pi4, vI pi5, vR kd, vI (2 : Int32), vI (((pi5.toUInt32 >>> ((2 : Int32) &&& 31).toUInt32).toInt32) &&& (3 : Int32)), vI t0, vI t1, vI t2, vI s0, vI s1, vI s2, vR b167, vU, vU, vU, vU, vU, vU, vU, vU] [(.int t1), (.int (1 : Int32)), (.ref b167)]) (fun _ k => XS.iload X172.here hx rfl (hb hby at_135) rfl (XS.iconst X172.here hx rfl (hb hby at_137) (XS.icmpNo X172.here hx rfl (hb hby at_138) rfl (tlt (by decide : (1 : Int32) < (2 : Int32))).2.2.2 (XS.aload X172.here hx rfl (hb hby at_141) rfl rfl (XS.iconst X172.here hx rfl (hb hby at_143) (XS.iload X172.here hx rfl (hb hby at_144) rfl k)))))) ?_
    obtain ⟨cl176, Ar176, qr176, Sr176, Nr176, Hr176, Gr176⟩ := id V172
    obtain ⟨T176, h176, X176, e176, W176, st176⟩ := stC X172 hx hZ e172 Ar176 (j := (1 : Int32)) (inb_of Sr176 ⟨by decide, by decide⟩) (g := (mkF m 146 #[vI pi0, vI pi1, vI pi2, vI pi3, vI pi4, vI pi5, vR kd, vI (2 : Int32), vI (((pi5.toUInt32 >>> ((2 : Int32) &&& 31).toUInt32).toInt32) &&& (3 : Int32)), vI t0, vI t1, vI t2, vI s0, vI s1, vI s2, vR b167, vU, vU, vU, vU, vU, vU, vU, vU] [(.int t1), (.int (1 : Int32)), (.ref b167)])) rfl rfl (hb hby at_146)
    have V176 : Arv Z h176 b167 k167 .char (2 : Int32) [(.int t0), (.int (nar .char t1))] (.int (0 : Int32)) := Arv.set Ar176 qr176 Sr176 Nr176 Hr176 Gr176 (fits_nar_char _) W176 1 rfl (lb rfl)
    rw [show nar .char t1 = t1 from (own_ncl hlt1)] at V176
    obtain ⟨_, q178, -⟩ := id V172
    have ch177 := CHr.wr W176 (Safe.arr hZ.alike q178 nofun) CH175.1
    have CH179 := CHr.trans CH175 ch177
    have N176 := Fr.snoc X176 N172 g168
    refine og T176 (mkF m 147 #[vI pi0, vI pi1, vI pi2, vI pi3, vI pi4, vI pi5, vR kd, vI (2 : Int32), vI (((pi5.toUInt32 >>> ((2 : Int32) &&& 31).toUInt32).toInt32) &&& (3 : Int32)), vI t0, vI t1, vI t2, vI s0, vI s1, vI s2, vR b167, vU, vU, vU, vU, vU, vU, vU, vU] []) st176 ?_
    refine og T176 (mkF m 159 #[vI pi0, vI pi1, vI pi2, vI pi3, vI pi4, vI pi5, vR kd, vI (2 : Int32), vI (((pi5.toUInt32 >>> ((2 : Int32) &&& 31).toUInt32).toInt32) &&& (3 : Int32)), vI t0, vI t1, vI t2, vI s0, vI s1, vI s2, vR b167, vU, vU, vU, vU, vU, vU, vU, vU] []) (fun _ k => XS.iload X176.here hx rfl (hb hby at_147) rfl (XS.iconst X176.here hx rfl (hb hby at_149) (XS.icmpYes X176.here hx rfl (pc0 := 150) (pc' := 159) rfl (hb hby at_150) rfl (flt (by decide : ¬ ((2 : Int32) < (2 : Int32)))).2.2.2 (by decide) (by decide) k))) ?_
    exact J5 _ _ _ _ _ _ [t0, t1] (own_wk X176 (lb rfl) (lb rfl)) e176 N176 ((((Keep.refl h0 []).ext E167).wr W172 (Or.inr (Nat.le_of_eq gb167.symm))).wr W176 (Or.inr (Nat.le_of_eq gb167.symm))) (Nat.le_of_eq gb167.symm) V176 (Or.inr (Or.inr (Or.inl ⟨rfl, rfl⟩)))
  · rw [hm]
    refine og T4 (mkF m 120 #[vI pi0, vI pi1, vI pi2, vI pi3, vI pi4, vI pi5, vR kd, vI (3 : Int32), vI (((pi5.toUInt32 >>> ((2 : Int32) &&& 31).toUInt32).toInt32) &&& (3 : Int32)), vI t0, vI t1, vI t2, vI s0, vI s1, vI s2, vU, vU, vU, vU, vU, vU, vU, vU, vU] [(.int (3 : Int32))]) (fun _ k => XS.iload X4.here hx rfl (hb hby at_118) rfl k) ?_
    obtain ⟨T180, h180, k180, X180, e180, E180, A180, st180⟩ := newP X4 hx hZ (own_w hw 11) eq4 (g := (mkF m 120 #[vI pi0, vI pi1, vI pi2, vI pi3, vI pi4, vI pi5, vR kd, vI (3 : Int32), vI (((pi5.toUInt32 >>> ((2 : Int32) &&& 31).toUInt32).toInt32) &&& (3 : Int32)), vI t0, vI t1, vI t2, vI s0, vI s1, vI s2, vU, vU, vU, vU, vU, vU, vU, vU, vU] [(.int (3 : Int32))])) rfl (hb hby at_120) rfl (by decide) (cap := 3) (by decide) (lb rfl) (lb rfl) (lb rfl)
    obtain ⟨b180, gb180⟩ : ∃ z, z = h0.size := ⟨_, rfl⟩
    rw [← gb180] at A180 st180
    have g181 : n0 ≤ b180 := Nat.le_trans (own_osz OLD) (Nat.le_of_eq gb180.symm)
    have z182 : h0.size ≤ b180 := Nat.le_trans (Nat.le_refl _) (Nat.le_of_eq gb180.symm)
    have ch183 := CHr.ext E180 CH0.1
    have CH184 := CHr.trans CH0 ch183
    have V180 : Arv Z h180 b180 k180 .char (3 : Int32) [(.int (0 : Int32)), (.int (0 : Int32)), (.int (0 : Int32))] (.int (0 : Int32)) := (Arv.new A180 (by decide)).pad (pad_rep [] (.int (0 : Int32)) 3)
    refine og T180 (mkF m 122 #[vI pi0, vI pi1, vI pi2, vI pi3, vI pi4, vI pi5, vR kd, vI (3 : Int32), vI (((pi5.toUInt32 >>> ((2 : Int32) &&& 31).toUInt32).toInt32) &&& (3 : Int32)), vI t0, vI t1, vI t2, vI s0, vI s1, vI s2, vU, vU, vU, vU, vU, vU, vU, vU, vU] [(.ref b180)]) st180 ?_
    refine og T180 (mkF m 134 #[vI pi0, vI pi1, vI pi2, vI pi3, vI pi4, vI pi5, vR kd, vI (3 : Int32), vI (((pi5.toUInt32 >>> ((2 : Int32) &&& 31).toUInt32).toInt32) &&& (3 : Int32)), vI t0, vI t1, vI t2, vI s0, vI s1, vI s2, vR b180, vU, vU, vU, vU, vU, vU, vU, vU] [(.int t0), (.int (0 : Int32)), (.ref b180)]) (fun _ k => XS.astore X180.here hx rfl (hb hby at_122) rfl rfl (l' := #[vI pi0, vI pi1, vI pi2, vI pi3, vI pi4, vI pi5, vR kd, vI (3 : Int32), vI (((pi5.toUInt32 >>> ((2 : Int32) &&& 31).toUInt32).toInt32) &&& (3 : Int32)), vI t0, vI t1, vI t2, vI s0, vI s1, vI s2, vR b180, vU, vU, vU, vU, vU, vU, vU, vU]) rfl (XS.iload X180.here hx rfl (hb hby at_124) rfl (XS.ifNo X180.here hx rfl (hb hby at_126) rfl ((if0 _ _).trans (tlt (by decide : (0 : Int32) < (3 : Int32))).2.2.2) (XS.aload X180.here hx rfl (hb hby at_129) rfl rfl (XS.iconst X180.here hx rfl (hb hby at_131) (XS.iload X180.here hx rfl (hb hby at_132) rfl k)))))) ?_
    obtain ⟨cl185, Ar185, qr185, Sr185, Nr185, Hr185, Gr185⟩ := id V180
    obtain ⟨T185, h185, X185, e185, W185, st185⟩ := stC X180 hx hZ e180 Ar185 (j := (0 : Int32)) (inb_of Sr185 ⟨by decide, by decide⟩) (g := (mkF m 134 #[vI pi0, vI pi1, vI pi2, vI pi3, vI pi4, vI pi5, vR kd, vI (3 : Int32), vI (((pi5.toUInt32 >>> ((2 : Int32) &&& 31).toUInt32).toInt32) &&& (3 : Int32)), vI t0, vI t1, vI t2, vI s0, vI s1, vI s2, vR b180, vU, vU, vU, vU, vU, vU, vU, vU] [(.int t0), (.int (0 : Int32)), (.ref b180)])) rfl rfl (hb hby at_134)
    have V185 : Arv Z h185 b180 k180 .char (3 : Int32) [(.int (nar .char t0)), (.int (0 : Int32)), (.int (0 : Int32))] (.int (0 : Int32)) := Arv.set Ar185 qr185 Sr185 Nr185 Hr185 Gr185 (fits_nar_char _) W185 0 rfl (lb rfl)
    rw [show nar .char t0 = t0 from (own_ncl hlt0)] at V185
    obtain ⟨_, q187, -⟩ := id V180
    have ch186 := CHr.wr W185 (Safe.arr hZ.alike q187 nofun) CH184.1
    have CH188 := CHr.trans CH184 ch186
    have N185 := Fr.snoc X185 N4 g181
    refine og T185 (mkF m 135 #[vI pi0, vI pi1, vI pi2, vI pi3, vI pi4, vI pi5, vR kd, vI (3 : Int32), vI (((pi5.toUInt32 >>> ((2 : Int32) &&& 31).toUInt32).toInt32) &&& (3 : Int32)), vI t0, vI t1, vI t2, vI s0, vI s1, vI s2, vR b180, vU, vU, vU, vU, vU, vU, vU, vU] []) st185 ?_
    refine og T185 (mkF m 146 #[vI pi0, vI pi1, vI pi2, vI pi3, vI pi4, vI pi5, vR kd, vI (3 : Int32), vI (((pi5.toUInt32 >>> ((2 : Int32) &&& 31).toUInt32).toInt32) &&& (3 : Int32)), vI t0, vI t1, vI t2, vI s0, vI s1, vI s2, vR b180, vU, vU, vU, vU, vU, vU, vU, vU] [(.int t1), (.int (1 : Int32)), (.ref b180)]) (fun _ k => XS.iload X185.here hx rfl (hb hby at_135) rfl (XS.iconst X185.here hx rfl (hb hby at_137) (XS.icmpNo X185.here hx rfl (hb hby at_138) rfl (tlt (by decide : (1 : Int32) < (3 : Int32))).2.2.2 (XS.aload X185.here hx rfl (hb hby at_141) rfl rfl (XS.iconst X185.here hx rfl (hb hby at_143) (XS.iload X185.here hx rfl (hb hby at_144) rfl k)))))) ?_
    obtain ⟨cl189, Ar189, qr189, Sr189, Nr189, Hr189, Gr189⟩ := id V185
    obtain ⟨T189, h189, X189, e189, W189, st189⟩ := stC X185 hx hZ e185 Ar189 (j := (1 : Int32)) (inb_of Sr189 ⟨by decide, by decide⟩) (g := (mkF m 146 #[vI pi0, vI pi1, vI pi2, vI pi3, vI pi4, vI pi5, vR kd, vI (3 : Int32), vI (((pi5.toUInt32 >>> ((2 : Int32) &&& 31).toUInt32).toInt32) &&& (3 : Int32)), vI t0, vI t1, vI t2, vI s0, vI s1, vI s2, vR b180, vU, vU, vU, vU, vU, vU, vU, vU] [(.int t1), (.int (1 : Int32)), (.ref b180)])) rfl rfl (hb hby at_146)
    have V189 : Arv Z h189 b180 k180 .char (3 : Int32) [(.int t0), (.int (nar .char t1)), (.int (0 : Int32))] (.int (0 : Int32)) := Arv.set Ar189 qr189 Sr189 Nr189 Hr189 Gr189 (fits_nar_char _) W189 1 rfl (lb rfl)
    rw [show nar .char t1 = t1 from (own_ncl hlt1)] at V189
    obtain ⟨_, q191, -⟩ := id V185
    have ch190 := CHr.wr W189 (Safe.arr hZ.alike q191 nofun) CH188.1
    have CH192 := CHr.trans CH188 ch190
    have N189 := Fr.snoc X189 N185 g181
    refine og T189 (mkF m 147 #[vI pi0, vI pi1, vI pi2, vI pi3, vI pi4, vI pi5, vR kd, vI (3 : Int32), vI (((pi5.toUInt32 >>> ((2 : Int32) &&& 31).toUInt32).toInt32) &&& (3 : Int32)), vI t0, vI t1, vI t2, vI s0, vI s1, vI s2, vR b180, vU, vU, vU, vU, vU, vU, vU, vU] []) st189 ?_
    refine og T189 (mkF m 158 #[vI pi0, vI pi1, vI pi2, vI pi3, vI pi4, vI pi5, vR kd, vI (3 : Int32), vI (((pi5.toUInt32 >>> ((2 : Int32) &&& 31).toUInt32).toInt32) &&& (3 : Int32)), vI t0, vI t1, vI t2, vI s0, vI s1, vI s2, vR b180, vU, vU, vU, vU, vU, vU, vU, vU] [(.int t2), (.int (2 : Int32)), (.ref b180)]) (fun _ k => XS.iload X189.here hx rfl (hb hby at_147) rfl (XS.iconst X189.here hx rfl (hb hby at_149) (XS.icmpNo X189.here hx rfl (hb hby at_150) rfl (tlt (by decide : (2 : Int32) < (3 : Int32))).2.2.2 (XS.aload X189.here hx rfl (hb hby at_153) rfl rfl (XS.iconst X189.here hx rfl (hb hby at_155) (XS.iload X189.here hx rfl (hb hby at_156) rfl k)))))) ?_
    obtain ⟨cl193, Ar193, qr193, Sr193, Nr193, Hr193, Gr193⟩ := id V189
    obtain ⟨T193, h193, X193, e193, W193, st193⟩ := stC X189 hx hZ e189 Ar193 (j := (2 : Int32)) (inb_of Sr193 ⟨by decide, by decide⟩) (g := (mkF m 158 #[vI pi0, vI pi1, vI pi2, vI pi3, vI pi4, vI pi5, vR kd, vI (3 : Int32), vI (((pi5.toUInt32 >>> ((2 : Int32) &&& 31).toUInt32).toInt32) &&& (3 : Int32)), vI t0, vI t1, vI t2, vI s0, vI s1, vI s2, vR b180, vU, vU, vU, vU, vU, vU, vU, vU] [(.int t2), (.int (2 : Int32)), (.ref b180)])) rfl rfl (hb hby at_158)
    have V193 : Arv Z h193 b180 k180 .char (3 : Int32) [(.int t0), (.int t1), (.int (nar .char t2))] (.int (0 : Int32)) := Arv.set Ar193 qr193 Sr193 Nr193 Hr193 Gr193 (fits_nar_char _) W193 2 rfl (lb rfl)
    rw [show nar .char t2 = t2 from (own_ncl hlt2)] at V193
    obtain ⟨_, q195, -⟩ := id V189
    have ch194 := CHr.wr W193 (Safe.arr hZ.alike q195 nofun) CH192.1
    have CH196 := CHr.trans CH192 ch194
    have N193 := Fr.snoc X193 N189 g181
    refine og T193 (mkF m 159 #[vI pi0, vI pi1, vI pi2, vI pi3, vI pi4, vI pi5, vR kd, vI (3 : Int32), vI (((pi5.toUInt32 >>> ((2 : Int32) &&& 31).toUInt32).toInt32) &&& (3 : Int32)), vI t0, vI t1, vI t2, vI s0, vI s1, vI s2, vR b180, vU, vU, vU, vU, vU, vU, vU, vU] []) st193 ?_
    exact J5 _ _ _ _ _ _ [t0, t1, t2] (own_wk X193 (lb rfl) (lb rfl)) e193 N193 (((((Keep.refl h0 []).ext E180).wr W185 (Or.inr (Nat.le_of_eq gb180.symm))).wr W189 (Or.inr (Nat.le_of_eq gb180.symm))).wr W193 (Or.inr (Nat.le_of_eq gb180.symm))) (Nat.le_of_eq gb180.symm) V193 (Or.inr (Or.inr (Or.inr ⟨rfl, rfl⟩)))
set_option maxRecDepth 65536 in
set_option maxHeartbeats 40000000 in
theorem comes_1 {Post : Tables → Env → Array Value → State → Outcome → State → Prop} (hpost : ∀ tb e args s v u, (limb_1_1.after args s (.returned v) u = true ∧ limb_1_2.after args s (.returned v) u = true ∧ True) → ReturnedEndW s (.returned v) u (Jvm.fieldLocs frame_1_writes args s ++ Jvm.arrayLocs frame_1_arrays args s ++ Jvm.staticLocs frame_1_statics s) 24 1152 → Post tb e args s (.returned v) u) :
    ArmFor flags0 classFile x code maxLocals ret World_1 tables_1 room_1 Calls_1 rest_1 Pre_1 Post := by
  intro l hfl _ _ p e ha hc hk s m args below hf hA hF happ hP
  obtain ⟨hcalls, hrest, hpre⟩ := hP
  obtain ⟨-, -, -, hnamed, -, -, -, hat⟩ := (Spec.applies_iff hf).mp happ
  obtain ⟨hg, hn⟩ := and_e (Cond.before_iff.mp (show (Jvm.Cond.and given_1 narrow_1).before args s = true from hpre))
  obtain ⟨gv0, gr0⟩ := and_e hg
  obtain ⟨gv1, gr1⟩ := and_e gr0
  obtain ⟨gv2, gr2⟩ := and_e gr1
  obtain ⟨gv3, gr3⟩ := and_e gr2
  obtain ⟨gv4, gr4⟩ := and_e gr3
  obtain ⟨gv5, gv6⟩ := and_e gr4
  obtain ⟨w0, w1, w2, w3, w4, w5, rfl⟩ : ∃ w0 w1 w2 w3 w4 w5 : Value, args = #[w0, w1, w2, w3, w4, w5] := by
    have hs : args.size = 6 := by simpa [Cond.value, given_1] using gv0
    obtain ⟨L⟩ := args
    match L, hs with
    | [w0, w1, w2, w3, w4, w5], _ => exact ⟨w0, w1, w2, w3, w4, w5, rfl⟩
  have hw := fun d (hd : d ∈ tables_1) => atoms_spec (ws := Jvm.Cond.code x code maxLocals ret :: tables_1) hat d (List.mem_cons_of_mem _ hd)
  have hfit : Fit s := fun {y c} hc i hi => by
    obtain ⟨ha, rfl⟩ := Array.getElem?_eq_some_iff.mp hc
    have q := List.all_eq_true.mp ((Array.all_eq_true_iff_forall_mem.mp hF) _ (Array.getElem_mem ha)) i (List.mem_range.mpr hi)
    simpa [Array.getElem?_eq_getElem hi] using q
  obtain ⟨hsets, hown0⟩ := atoms_of _ (rest_1_c_eq ▸ (show rest_1_c.before _ s = true from hrest))
  obtain ⟨i0, ei0⟩ := is_v gv1
  obtain rfl : w0 = (.int i0) := Option.some.inj ei0
  obtain ⟨i1, ei1⟩ := is_v gv2
  obtain rfl : w1 = (.int i1) := Option.some.inj ei1
  obtain ⟨i2, ei2⟩ := is_v gv3
  obtain rfl : w2 = (.int i2) := Option.some.inj ei2
  obtain ⟨i3, ei3⟩ := is_v gv4
  obtain rfl : w3 = (.int i3) := Option.some.inj ei3
  obtain ⟨i4, ei4⟩ := is_v gv5
  obtain rfl : w4 = (.int i4) := Option.some.inj ei4
  obtain ⟨i5, ei5⟩ := is_v gv6
  obtain rfl : w5 = (.int i5) := Option.some.inj ei5
  have n5 := not_v (Cond.before_iff.mp (hsets _ (List.mem_of_getElem? (i := 2) rfl)))
  obtain ⟨G1, eG1⟩ := is_v (Cond.before_iff.mp (hsets _ (List.mem_of_getElem? (i := 1) rfl)))
  have O2 : Sta s s.heap "java/lang/String" "COMPACT_STRINGS" "Z" (.int G1) := Sta.start eG1 (Or.inl (hsets _ (List.mem_of_getElem? (i := 0) rfl)))
  have P5 : ¬ (G1 = (0 : Int32)) := gotF (Cond.eq_ints eG1 (Term.int_eval (0))) n5
  obtain ⟨G3, eG3, rG3⟩ := isR_v (Cond.before_iff.mp (hsets _ (List.mem_of_getElem? (i := 8) rfl)))
  have O4 : Sta s s.heap "jdk/internal/util/Preconditions" "SIOOBE_FORMATTER" "Ljava/util/function/BiFunction;" G3 := Sta.start eG3 (Or.inl (hsets _ (List.mem_of_getElem? (i := 7) rfl)))
  have CHs : CHv s own_EL s.vm s.heap := CHv.start (own_EW hw) (fun p hp => own_held hcalls p hp) (hsets _ (List.mem_of_getElem? (i := 2) rfl)) (own_wa hw) (own_wi hw)
  obtain ⟨nr0, nx0⟩ := and_e hn
  obtain ⟨kw0, eK0⟩ := exa_v nr0
  have EK0 : Exa s s.heap kw0 "com/example/agave/agave/query/Tokens$Kind" := Exa.start eK0 nr0
  have SK0 : Sta s s.heap "com/example/agave/agave/query/Tokens$Kind" "WORD" "Lcom/example/agave/agave/query/Tokens$Kind;" (.ref kw0) := Sta.start eK0 (Or.inr ⟨(own_w hw 6), (own_w hw 7)⟩)
  obtain ⟨nr1, nx1⟩ := and_e nx0
  obtain ⟨kw4, eK4⟩ := exa_v nr1
  have EK4 : Exa s s.heap kw4 "com/example/agave/agave/query/Tokens$Kind" := Exa.start eK4 nr1
  have SK4 : Sta s s.heap "com/example/agave/agave/query/Tokens$Kind" "POSITIONAL_PARAMETER" "Lcom/example/agave/agave/query/Tokens$Kind;" (.ref kw4) := Sta.start eK4 (Or.inr ⟨(own_w hw 6), (own_w hw 81)⟩)
  obtain ⟨nr2, nx2⟩ := and_e nx1
  obtain ⟨nr3, nx3⟩ := and_e nx2
  obtain ⟨nr4, nx4⟩ := and_e nx3
  obtain ⟨kw5, eK5⟩ := exa_v nr4
  have EK5 : Exa s s.heap kw5 "com/example/agave/agave/query/Tokens$Kind" := Exa.start eK5 nr4
  have SK5 : Sta s s.heap "com/example/agave/agave/query/Tokens$Kind" "SYMBOL" "Lcom/example/agave/agave/query/Tokens$Kind;" (.ref kw5) := Sta.start eK5 (Or.inr ⟨(own_w hw 6), (own_w hw 83)⟩)
  obtain ⟨nr5, nx5⟩ := and_e nx4
  obtain ⟨nr6, nx6⟩ := and_e nx5
  obtain ⟨kw2, eK2⟩ := exa_v nr6
  have EK2 : Exa s s.heap kw2 "com/example/agave/agave/query/Tokens$Kind" := Exa.start eK2 nr6
  have SK2 : Sta s s.heap "com/example/agave/agave/query/Tokens$Kind" "NUMBER" "Lcom/example/agave/agave/query/Tokens$Kind;" (.ref kw2) := Sta.start eK2 (Or.inr ⟨(own_w hw 6), (own_w hw 86)⟩)
  obtain ⟨nr7, nx7⟩ := and_e nx6
  obtain ⟨nr8, nx8⟩ := and_e nx7
  obtain ⟨kw1, eK1⟩ := exa_v nr8
  have EK1 : Exa s s.heap kw1 "com/example/agave/agave/query/Tokens$Kind" := Exa.start eK1 nr8
  have SK1 : Sta s s.heap "com/example/agave/agave/query/Tokens$Kind" "STRING" "Lcom/example/agave/agave/query/Tokens$Kind;" (.ref kw1) := Sta.start eK1 (Or.inr ⟨(own_w hw 6), (own_w hw 88)⟩)
  obtain ⟨nr9, nx9⟩ := and_e nx8
  obtain ⟨nr10, nx10⟩ := and_e nx9
  obtain ⟨kw3, eK3⟩ := exa_v nr10
  have EK3 : Exa s s.heap kw3 "com/example/agave/agave/query/Tokens$Kind" := Exa.start eK3 nr10
  have SK3 : Sta s s.heap "com/example/agave/agave/query/Tokens$Kind" "NAMED_PARAMETER" "Lcom/example/agave/agave/query/Tokens$Kind;" (.ref kw3) := Sta.start eK3 (Or.inr ⟨(own_w hw 6), (own_w hw 96)⟩)
  obtain ⟨nr11, nx11⟩ := and_e nx10
  obtain ⟨nr12, nx12⟩ := and_e nx11
  obtain ⟨kw6, eK6⟩ := exa_v nr12
  have EK6 : Exa s s.heap kw6 "com/example/agave/agave/query/Tokens$Kind" := Exa.start eK6 nr12
  have SK6 : Sta s s.heap "com/example/agave/agave/query/Tokens$Kind" "END" "Lcom/example/agave/agave/query/Tokens$Kind;" (.ref kw6) := Sta.start eK6 (Or.inr ⟨(own_w hw 6), (own_w hw 98)⟩)
  obtain ⟨n, o, h1, h2, h3, _, L, rfl, ⟨rfl, N⟩, -, hq⟩ := rmlaw l s _ hw i0 i1 i2 i3 i4 i5 kw0 kw1 kw2 kw3 kw4 kw5 kw6 G1 s.heap s.heap.size (Old.start s) SK0 EK0 SK1 EK1 SK2 EK2 SK3 EK3 SK4 EK4 SK5 EK5 SK6 EK6 O2 P5 p e ha hc hk s m _ below hf ((Spec.applies_iff_loose hf).mp happ).1 ⟨rfl, State.Warmed39.refl s, rfl, CHs, all0⟩ nofun
  refine ⟨n, _, h1, h2, h3, hpost _ _ _ _ _ _ ⟨Cond.after_iff.mpr rfl, Cond.after_iff.mpr (eq_i res_at (Term.int_eval (1)) rfl), trivial⟩ ⟨hq.1, hq.2.1, hq.2.2.1, (hq.2.2.2.sift fun y hy => Or.inr (N y hy)).mono (by decide) (by decide)⟩⟩
theorem main_1_1 : Claimed_1_1 := comes_1 fun _ _ _ _ _ _ h hF => ⟨h.1, hF⟩
theorem main_1_2 : Claimed_1_2 := comes_1 fun _ _ _ _ _ _ h hF => ⟨h.2.1, hF⟩
end Jvm.Pilot.@@N@@
namespace Jvm.Pilot.@@N@@
open Jvm Jvm.ClassFile Sem Op Lib Jvm.Free Jvm.Stand Jvm.Pilot.@@N@@.Jvm.D
/-! MADE BY PROGRAM (witnessworld.py) out of the Statement's table words and the real class files: 24 classes; the members and pool entries that the words name. The judged class is class 1, her method 1. -/
namespace start1
open Jvm.ClassFile
def u (s : String) : CpInfo := .utf8 (stringToUtf16 s)
/-- a pool by its gaps: so many unusable entries, then the entry; so many at the end -/
def gap : Nat → List CpInfo → List CpInfo
  | 0, r => r
  | n + 1, r => .unusable :: gap n r
def poolList (es : List (Nat × CpInfo)) (last : Nat) : List CpInfo := es.foldr (fun e r => gap e.1 (e.2 :: r)) (gap last [])
def pool (es : List (Nat × CpInfo)) (last : Nat) : Array CpInfo := ⟨poolList es last⟩
def fileOf (pool : Array CpInfo) (this : Nat) (attrs : Array Attribute := #[]) (ms : Array MethodInfo := #[]) (fl : Nat := 33) (sup : Nat := 0) (ifs : Array Nat := #[]) (fds : Array FieldInfo := #[]) : ClassFile where
  minorVersion := 0
  majorVersion := 65
  constantPool := pool
  accessFlags := fl
  thisClass := this
  superClass := sup
  interfaces := ifs
  fields := fds
  methods := ms
  attributes := attrs
def plain (name : String) (sup : Option ClassId) : Class where
  name := name
  kind := .ordinary
  loader := none
  accessFlags := 33
  super := sup
  interfaces := #[]
  cf := none
  fields := #[]
  methods := #[]
  instanceTypes := #[]
  staticTypes := #[]
  resolved := #[]
  callSites := []
  init := .initialized
  statics := none
  mirror := none

def pool0 : Array CpInfo := pool [(5, u "<init>"), (0, u "()V"), (1, .class_ 10), (1, u "java/lang/Object")] 113

def k0c0 : Code := { maxStack := 0, maxLocals := 1, code := object_method_1_code, exceptionTable := #[], attributes := #[] }
def k0m0 : Method := { name := "<init>", desc := "()V", sig := { parameters := [], returnType := none }, accessFlags := 1, code := some k0c0 }
/-- java/lang/Object -/
def k0 : Class := { plain "java/lang/Object" none with
  accessFlags := 33
  interfaces := #[]
  cf := some (fileOf pool0 8 #[] #[{ accessFlags := 1, nameIndex := 5, descriptorIndex := 6, attributes := #[] }] 33 0 #[] #[])
  fields := #[]
  methods := #[k0m0]
  instanceTypes := #[]
  staticTypes := #[]
  resolved := Array.replicate 124 none
  statics := none }

def pool1 : Array CpInfo := pool [(2, .class_ 4), (1, u "java/lang/Object"), (0, u "<init>"), (0, u "()V"), (0, .integer 2147483647), (0, .methodref 9 10), (0, .class_ 11), (0, .nameAndType 12 13), (0, u "com/example/agave/agave/query/TokenIsPinLaw"), (0, u "kindOf"), (0, u "(I)Lcom/example/agave/agave/query/Tokens$Kind;"), (0, .methodref 9 15), (0, .nameAndType 16 17), (0, u "argChar"), (0, u "(CII)C"), (0, .class_ 19), (0, u "java/lang/String"), (0, .methodref 18 21), (0, .nameAndType 5 22), (0, u "([C)V"), (0, .class_ 24), (0, u "com/example/agave/agave/query/Tokens$Token"), (0, .methodref 23 26), (0, .nameAndType 5 27), (0, u "(Lcom/example/agave/agave/query/Tokens$Kind;Ljava/lang/String;Ljava/lang/Object;I)V"), (0, .methodref 23 29), (0, .nameAndType 30 31), (0, u "is"), (0, u "(Ljava/lang/String;)Z"), (0, .fieldref 33 34), (0, .class_ 35), (0, .nameAndType 36 37), (0, u "com/example/agave/agave/query/Tokens$Kind"), (0, u "WORD"), (0, u "Lcom/example/agave/agave/query/Tokens$Kind;"), (0, .fieldref 33 39), (0, .nameAndType 40 37), (0, u "SYMBOL"), (0, .methodref 9 42), (0, .nameAndType 43 44), (0, u "eq"), (0, u "(CC)Z"), (0, .fieldref 33 46), (0, .nameAndType 47 37), (0, u "STRING"), (0, .fieldref 33 49), (0, .nameAndType 50 37), (0, u "NUMBER"), (0, .fieldref 33 52), (0, .nameAndType 53 37), (0, u "NAMED_PARAMETER"), (0, .fieldref 33 55), (0, .nameAndType 56 37), (0, u "POSITIONAL_PARAMETER"), (0, .fieldref 33 58), (0, .nameAndType 59 37), (0, u "END"), (0, .methodref 9 61), (0, .nameAndType 62 63), (0, u "fold"), (0, u "(C)I"), (2, u "law"), (0, u "(IIIIII)Z")] 10

def k1m0 : Method := { name := "<init>", desc := "()V", sig := { parameters := [], returnType := none }, accessFlags := 1, code := none }
def k1c1 : Code := { maxStack := 6, maxLocals := 24, code := code, exceptionTable := #[], attributes := #[] }
def k1m1 : Method := { name := "law", desc := "(IIIIII)Z", sig := { parameters := [.int, .int, .int, .int, .int, .int], returnType := some .boolean }, accessFlags := 9, code := some k1c1 }
def k1c2 : Code := { maxStack := 2, maxLocals := 1, code := method_3_code, exceptionTable := #[], attributes := #[] }
def k1m2 : Method := { name := "kindOf", desc := "(I)Lcom/example/agave/agave/query/Tokens$Kind;", sig := { parameters := [.int], returnType := some (.object "com/example/agave/agave/query/Tokens$Kind") }, accessFlags := 10, code := some k1c2 }
def k1c3 : Code := { maxStack := 2, maxLocals := 3, code := method_4_code, exceptionTable := #[], attributes := #[] }
def k1m3 : Method := { name := "argChar", desc := "(CII)C", sig := { parameters := [.char, .int, .int], returnType := some .char }, accessFlags := 10, code := some k1c3 }
def k1c4 : Code := { maxStack := 2, maxLocals := 2, code := method_5_code, exceptionTable := #[], attributes := #[] }
def k1m4 : Method := { name := "fold", desc := "(C)I", sig := { parameters := [.char], returnType := some .int }, accessFlags := 10, code := some k1c4 }
def k1c5 : Code := { maxStack := 2, maxLocals := 2, code := method_6_code, exceptionTable := #[], attributes := #[] }
def k1m5 : Method := { name := "eq", desc := "(CC)Z", sig := { parameters := [.char, .char], returnType := some .boolean }, accessFlags := 10, code := some k1c5 }
/-- com/example/agave/agave/query/TokenIsPinLaw -/
def k1 : Class := { plain "com/example/agave/agave/query/TokenIsPinLaw" (some 0) with
  accessFlags := 49
  interfaces := #[]
  cf := some (fileOf pool1 9 #[] #[{ accessFlags := 1, nameIndex := 5, descriptorIndex := 6, attributes := #[] }, { accessFlags := 9, nameIndex := 66, descriptorIndex := 67, attributes := #[] }, { accessFlags := 10, nameIndex := 12, descriptorIndex := 13, attributes := #[] }, { accessFlags := 10, nameIndex := 16, descriptorIndex := 17, attributes := #[] }, { accessFlags := 10, nameIndex := 62, descriptorIndex := 63, attributes := #[] }, { accessFlags := 10, nameIndex := 43, descriptorIndex := 44, attributes := #[] }] 49 2 #[] #[])
  fields := #[]
  methods := #[k1m0, k1m1, k1m2, k1m3, k1m4, k1m5]
  instanceTypes := #[]
  staticTypes := #[]
  resolved := Array.replicate 78 none
  statics := none }

def pool2 : Array CpInfo := pool [(1, .class_ 2), (0, u "java/lang/constant/Constable"), (0, .class_ 4), (0, u "java/lang/Object")] 6

/-- java/lang/constant/Constable -/
def k2 : Class := { plain "java/lang/constant/Constable" (some 0) with
  accessFlags := 1537
  interfaces := #[]
  cf := some (fileOf pool2 1 #[] #[] 1537 3 #[] #[])
  fields := #[]
  methods := #[]
  instanceTypes := #[]
  staticTypes := #[]
  resolved := Array.replicate 11 none
  statics := none }

def pool3 : Array CpInfo := pool [(1, .class_ 2), (0, u "java/lang/Comparable"), (0, .class_ 4), (0, u "java/lang/Object")] 7

/-- java/lang/Comparable -/
def k3 : Class := { plain "java/lang/Comparable" (some 0) with
  accessFlags := 1537
  interfaces := #[]
  cf := some (fileOf pool3 1 #[] #[] 1537 3 #[] #[])
  fields := #[]
  methods := #[]
  instanceTypes := #[]
  staticTypes := #[]
  resolved := Array.replicate 12 none
  statics := none }

def pool4 : Array CpInfo := pool [(1, .class_ 2), (0, u "java/io/Serializable"), (0, .class_ 4), (0, u "java/lang/Object")] 2

/-- java/io/Serializable -/
def k4 : Class := { plain "java/io/Serializable" (some 0) with
  accessFlags := 1537
  interfaces := #[]
  cf := some (fileOf pool4 1 #[] #[] 1537 3 #[] #[])
  fields := #[]
  methods := #[]
  instanceTypes := #[]
  staticTypes := #[]
  resolved := Array.replicate 7 none
  statics := none }

def pool5 : Array CpInfo := pool [(2, .class_ 4), (1, u "java/lang/Enum"), (0, u "name"), (0, u "Ljava/lang/String;"), (2, u "ordinal"), (0, u "I"), (1, .class_ 14), (1, u "java/lang/Object"), (4, u "hash"), (86, .class_ 108), (1, u "java/lang/Enum$EnumDesc"), (2, .class_ 112), (0, u "java/lang/constant/Constable"), (0, .class_ 114), (0, u "java/lang/Comparable"), (0, .class_ 116), (0, u "java/io/Serializable")] 87

/-- java/lang/Enum -/
def k5 : Class := { plain "java/lang/Enum" (some 0) with
  accessFlags := 1057
  interfaces := #[2, 3, 4]
  cf := some (fileOf pool5 2 #[.nestMembers #[106]] #[] 1057 12 #[111, 113, 115] #[{ accessFlags := 18, nameIndex := 5, descriptorIndex := 6, attributes := #[] }, { accessFlags := 18, nameIndex := 9, descriptorIndex := 10, attributes := #[] }, { accessFlags := 2, nameIndex := 19, descriptorIndex := 10, attributes := #[] }])
  fields := #[{ name := "name", type := (.object "java/lang/String"), accessFlags := 18, slot := 0, constantValue := 0 }, { name := "ordinal", type := .int, accessFlags := 18, slot := 1, constantValue := 0 }, { name := "hash", type := .int, accessFlags := 2, slot := 2, constantValue := 0 }]
  methods := #[]
  instanceTypes := #[(.object "java/lang/String"), .int, .int]
  staticTypes := #[]
  resolved := Array.replicate 204 none
  statics := none }

def pool6 : Array CpInfo := pool [(1, .class_ 2), (0, u "com/example/agave/agave/query/Tokens$Kind"), (2, u "WORD"), (0, u "Lcom/example/agave/agave/query/Tokens$Kind;"), (2, u "STRING"), (2, u "NUMBER"), (2, u "NAMED_PARAMETER"), (2, u "POSITIONAL_PARAMETER"), (2, u "SYMBOL"), (2, u "END"), (2, u "$VALUES"), (0, u "[Lcom/example/agave/agave/query/Tokens$Kind;"), (6, .class_ 37), (1, u "java/lang/Enum"), (30, .class_ 69), (0, u "com/example/agave/agave/query/Tokens")] 2

/-- com/example/agave/agave/query/Tokens$Kind -/
def k6 : Class := { plain "com/example/agave/agave/query/Tokens$Kind" (some 5) with
  accessFlags := 16432
  interfaces := #[]
  cf := some (fileOf pool6 1 #[.nestHost 68] #[] 16432 35 #[] #[{ accessFlags := 16409, nameIndex := 5, descriptorIndex := 6, attributes := #[] }, { accessFlags := 16409, nameIndex := 9, descriptorIndex := 6, attributes := #[] }, { accessFlags := 16409, nameIndex := 12, descriptorIndex := 6, attributes := #[] }, { accessFlags := 16409, nameIndex := 15, descriptorIndex := 6, attributes := #[] }, { accessFlags := 16409, nameIndex := 18, descriptorIndex := 6, attributes := #[] }, { accessFlags := 16409, nameIndex := 21, descriptorIndex := 6, attributes := #[] }, { accessFlags := 16409, nameIndex := 24, descriptorIndex := 6, attributes := #[] }, { accessFlags := 4122, nameIndex := 27, descriptorIndex := 28, attributes := #[] }])
  fields := #[{ name := "WORD", type := (.object "com/example/agave/agave/query/Tokens$Kind"), accessFlags := 16409, slot := 0, constantValue := 0 }, { name := "STRING", type := (.object "com/example/agave/agave/query/Tokens$Kind"), accessFlags := 16409, slot := 1, constantValue := 0 }, { name := "NUMBER", type := (.object "com/example/agave/agave/query/Tokens$Kind"), accessFlags := 16409, slot := 2, constantValue := 0 }, { name := "NAMED_PARAMETER", type := (.object "com/example/agave/agave/query/Tokens$Kind"), accessFlags := 16409, slot := 3, constantValue := 0 }, { name := "POSITIONAL_PARAMETER", type := (.object "com/example/agave/agave/query/Tokens$Kind"), accessFlags := 16409, slot := 4, constantValue := 0 }, { name := "SYMBOL", type := (.object "com/example/agave/agave/query/Tokens$Kind"), accessFlags := 16409, slot := 5, constantValue := 0 }, { name := "END", type := (.object "com/example/agave/agave/query/Tokens$Kind"), accessFlags := 16409, slot := 6, constantValue := 0 }, { name := "$VALUES", type := (.array (.object "com/example/agave/agave/query/Tokens$Kind")), accessFlags := 4122, slot := 7, constantValue := 0 }]
  methods := #[]
  instanceTypes := #[(.object "java/lang/String"), .int, .int]
  staticTypes := #[(.object "com/example/agave/agave/query/Tokens$Kind"), (.object "com/example/agave/agave/query/Tokens$Kind"), (.object "com/example/agave/agave/query/Tokens$Kind"), (.object "com/example/agave/agave/query/Tokens$Kind"), (.object "com/example/agave/agave/query/Tokens$Kind"), (.object "com/example/agave/agave/query/Tokens$Kind"), (.object "com/example/agave/agave/query/Tokens$Kind"), (.array (.object "com/example/agave/agave/query/Tokens$Kind"))]
  resolved := Array.replicate 72 none
  statics := some 0 }

def pool7 : Array CpInfo := pool [(2, .class_ 4), (1, u "java/lang/CharSequence"), (42, .class_ 48), (0, u "java/lang/CharSequence$1CodePointIterator"), (10, .class_ 60), (0, u "java/lang/CharSequence$1CharIterator"), (5, .class_ 67), (0, u "java/lang/Object")] 63

/-- java/lang/CharSequence -/
def k7 : Class := { plain "java/lang/CharSequence" (some 0) with
  accessFlags := 1537
  interfaces := #[]
  cf := some (fileOf pool7 2 #[.nestMembers #[47, 59]] #[] 1537 66 #[] #[])
  fields := #[]
  methods := #[]
  instanceTypes := #[]
  staticTypes := #[]
  resolved := Array.replicate 131 none
  statics := none }

def pool8 : Array CpInfo := pool [(1, .class_ 2), (0, u "java/lang/constant/ConstantDesc"), (0, .class_ 4), (0, u "java/lang/Object")] 32

/-- java/lang/constant/ConstantDesc -/
def k8 : Class := { plain "java/lang/constant/ConstantDesc" (some 0) with
  accessFlags := 1537
  interfaces := #[]
  cf := some (fileOf pool8 1 #[] #[] 1537 3 #[] #[])
  fields := #[]
  methods := #[]
  instanceTypes := #[]
  staticTypes := #[]
  resolved := Array.replicate 37 none
  statics := none }

def pool9 : Array CpInfo := pool [(1, .methodref 2 3), (0, .class_ 4), (0, .nameAndType 5 6), (0, u "java/lang/Object"), (0, u "<init>"), (0, u "()V"), (0, .string 8), (0, u ""), (0, .fieldref 10 11), (0, .class_ 12), (0, .nameAndType 13 14), (0, u "java/lang/String"), (0, u "value"), (0, u "[B"), (0, .fieldref 10 16), (0, .nameAndType 17 18), (0, u "coder"), (0, u "B"), (2, u "hash"), (0, u "I"), (2, u "hashIsZero"), (0, u "Z"), (0, .methodref 10 28), (0, .nameAndType 5 29), (0, u "([CIILjava/lang/Void;)V"), (8, .fieldref 10 39), (0, .nameAndType 40 26), (0, u "COMPACT_STRINGS"), (1, .class_ 44), (1, u "java/lang/StringUTF16"), (0, u "compress"), (1, .methodref 42 48), (0, .nameAndType 49 50), (0, u "coderFromArrayLen"), (0, u "([BI)B"), (56, .class_ 109), (1, u "java/lang/StringLatin1"), (67, .methodref 42 178), (0, .nameAndType 45 179), (0, u "([CII)[B"), (154, u "()I"), (0, .methodref 10 336), (0, .nameAndType 17 337), (0, u "()B"), (167, .methodref 10 506), (0, .nameAndType 507 334), (0, u "length"), (67, .class_ 576), (0, u "java/lang/CharSequence"), (5, .methodref 10 583), (0, .nameAndType 584 585), (0, u "regionMatches"), (0, u "(ZILjava/lang/String;II)Z"), (13, u "CASE_INSENSITIVE_ORDER"), (0, u "Ljava/util/Comparator;"), (12, .methodref 107 614), (0, .nameAndType 615 616), (0, u "regionMatchesCI"), (0, u "([BI[BII)Z"), (393, u "([C)V"), (90, u "serialPersistentFields"), (0, u "[Ljava/io/ObjectStreamField;"), (0, .class_ 1104), (0, u "java/lang/String$CaseInsensitiveComparator"), (1, .class_ 1107), (0, u "java/io/Serializable"), (0, .class_ 1109), (0, u "java/lang/Comparable"), (0, .class_ 1111), (0, u "java/lang/constant/Constable"), (0, .class_ 1113), (0, u "java/lang/constant/ConstantDesc"), (2, u "serialVersionUID"), (0, u "J"), (3, u "REPL"), (0, u "C"), (2, u "LATIN1"), (1, u "UTF16"), (128, u "equalsIgnoreCase"), (0, u "(Ljava/lang/String;)Z")] 193

def k9m0 : Method := { name := "<init>", desc := "()V", sig := { parameters := [], returnType := none }, accessFlags := 1, code := none }
def k9c1 : Code := { maxStack := 5, maxLocals := 2, code := jdk_42_method_3_code, exceptionTable := #[], attributes := #[] }
def k9m1 : Method := { name := "<init>", desc := "([C)V", sig := { parameters := [(.array .char)], returnType := none }, accessFlags := 1, code := some k9c1 }
def k9c2 : Code := { maxStack := 2, maxLocals := 1, code := jdk_42_method_54_code, exceptionTable := #[], attributes := #[] }
def k9m2 : Method := { name := "length", desc := "()I", sig := { parameters := [], returnType := some .int }, accessFlags := 1, code := some k9c2 }
def k9c3 : Code := { maxStack := 6, maxLocals := 2, code := jdk_42_method_70_code, exceptionTable := #[], attributes := #[] }
def k9m3 : Method := { name := "equalsIgnoreCase", desc := "(Ljava/lang/String;)Z", sig := { parameters := [(.object "java/lang/String")], returnType := some .boolean }, accessFlags := 1, code := some k9c3 }
def k9c4 : Code := { maxStack := 6, maxLocals := 9, code := jdk_42_method_74_code, exceptionTable := #[], attributes := #[] }
def k9m4 : Method := { name := "regionMatches", desc := "(ZILjava/lang/String;II)Z", sig := { parameters := [.boolean, .int, (.object "java/lang/String"), .int, .int], returnType := some .boolean }, accessFlags := 1, code := some k9c4 }
def k9c5 : Code := { maxStack := 4, maxLocals := 6, code := jdk_42_method_149_code, exceptionTable := #[], attributes := #[] }
def k9m5 : Method := { name := "<init>", desc := "([CIILjava/lang/Void;)V", sig := { parameters := [(.array .char), .int, .int, (.object "java/lang/Void")], returnType := none }, accessFlags := 2, code := some k9c5 }
def k9c6 : Code := { maxStack := 1, maxLocals := 1, code := jdk_42_method_152_code, exceptionTable := #[], attributes := #[] }
def k9m6 : Method := { name := "coder", desc := "()B", sig := { parameters := [], returnType := some .byte }, accessFlags := 0, code := some k9c6 }
/-- java/lang/String -/
def k9 : Class := { plain "java/lang/String" (some 0) with
  accessFlags := 49
  interfaces := #[4, 3, 7, 2, 8]
  cf := some (fileOf pool9 10 #[.nestMembers #[1103]] #[{ accessFlags := 1, nameIndex := 5, descriptorIndex := 6, attributes := #[] }, { accessFlags := 1, nameIndex := 5, descriptorIndex := 1010, attributes := #[] }, { accessFlags := 1, nameIndex := 507, descriptorIndex := 334, attributes := #[] }, { accessFlags := 1, nameIndex := 1256, descriptorIndex := 1257, attributes := #[] }, { accessFlags := 1, nameIndex := 584, descriptorIndex := 585, attributes := #[] }, { accessFlags := 2, nameIndex := 5, descriptorIndex := 29, attributes := #[] }, { accessFlags := 0, nameIndex := 17, descriptorIndex := 337, attributes := #[] }] 49 2 #[1106, 1108, 575, 1110, 1112] #[{ accessFlags := 18, nameIndex := 13, descriptorIndex := 14, attributes := #[] }, { accessFlags := 18, nameIndex := 17, descriptorIndex := 18, attributes := #[] }, { accessFlags := 2, nameIndex := 21, descriptorIndex := 22, attributes := #[] }, { accessFlags := 2, nameIndex := 25, descriptorIndex := 26, attributes := #[] }, { accessFlags := 26, nameIndex := 1116, descriptorIndex := 1117, attributes := #[] }, { accessFlags := 24, nameIndex := 40, descriptorIndex := 26, attributes := #[] }, { accessFlags := 26, nameIndex := 1101, descriptorIndex := 1102, attributes := #[] }, { accessFlags := 26, nameIndex := 1121, descriptorIndex := 1122, attributes := #[] }, { accessFlags := 25, nameIndex := 599, descriptorIndex := 600, attributes := #[] }, { accessFlags := 24, nameIndex := 1125, descriptorIndex := 18, attributes := #[] }, { accessFlags := 24, nameIndex := 1127, descriptorIndex := 18, attributes := #[] }])
  fields := #[{ name := "value", type := (.array .byte), accessFlags := 18, slot := 0, constantValue := 0 }, { name := "coder", type := .byte, accessFlags := 18, slot := 1, constantValue := 0 }, { name := "hash", type := .int, accessFlags := 2, slot := 2, constantValue := 0 }, { name := "hashIsZero", type := .boolean, accessFlags := 2, slot := 3, constantValue := 0 }, { name := "serialVersionUID", type := .long, accessFlags := 26, slot := 0, constantValue := 0 }, { name := "COMPACT_STRINGS", type := .boolean, accessFlags := 24, slot := 1, constantValue := 0 }, { name := "serialPersistentFields", type := (.array (.object "java/io/ObjectStreamField")), accessFlags := 26, slot := 2, constantValue := 0 }, { name := "REPL", type := .char, accessFlags := 26, slot := 3, constantValue := 0 }, { name := "CASE_INSENSITIVE_ORDER", type := (.object "java/util/Comparator"), accessFlags := 25, slot := 4, constantValue := 0 }, { name := "LATIN1", type := .byte, accessFlags := 24, slot := 5, constantValue := 0 }, { name := "UTF16", type := .byte, accessFlags := 24, slot := 6, constantValue := 0 }]
  methods := #[k9m0, k9m1, k9m2, k9m3, k9m4, k9m5, k9m6]
  instanceTypes := #[(.array .byte), .byte, .int, .boolean]
  staticTypes := #[.long, .boolean, (.array (.object "java/io/ObjectStreamField")), .char, (.object "java/util/Comparator"), .byte, .byte]
  resolved := Array.replicate 1451 none
  statics := some 1 }

def pool10 : Array CpInfo := pool [(6, .class_ 8), (1, u "java/lang/Object"), (0, u "<init>"), (0, u "()V"), (1, .class_ 14), (1, u "java/lang/StringUTF16"), (31, u "$assertionsDisabled"), (0, u "Z"), (13, u "HI_BYTE_SHIFT"), (0, u "I"), (2, u "LO_BYTE_SHIFT"), (49, .methodref 12 116), (0, .nameAndType 117 118), (0, u "compress"), (0, u "([CI[BII)I"), (3, u "([CII)[B"), (138, u "coderFromArrayLen"), (0, u "([BI)B"), (106, .class_ 371), (1, u "java/lang/StringUTF16$LinesSpliterator"), (58, u "MAX_LENGTH"), (196, .class_ 628), (0, u "java/lang/StringUTF16$CodePointsSpliterator"), (0, .class_ 630), (0, u "java/lang/StringUTF16$CharsSpliterator")] 4

def k10m0 : Method := { name := "<init>", desc := "()V", sig := { parameters := [], returnType := none }, accessFlags := 0, code := none }
def k10c1 : Code := { maxStack := 2, maxLocals := 2, code := jdk_52_method_15_code, exceptionTable := #[], attributes := #[] }
def k10m1 : Method := { name := "coderFromArrayLen", desc := "([BI)B", sig := { parameters := [(.array .byte), .int], returnType := some .byte }, accessFlags := 8, code := some k10c1 }
def k10c2 : Code := { maxStack := 5, maxLocals := 6, code := jdk_52_method_16_code, exceptionTable := #[], attributes := #[] }
def k10m2 : Method := { name := "compress", desc := "([CII)[B", sig := { parameters := [(.array .char), .int, .int], returnType := some (.array .byte) }, accessFlags := 9, code := some k10c2 }
def k10c3 : Code := { maxStack := 3, maxLocals := 7, code := jdk_52_method_21_code, exceptionTable := #[], attributes := #[] }
def k10m3 : Method := { name := "compress", desc := "([CI[BII)I", sig := { parameters := [(.array .char), .int, (.array .byte), .int, .int], returnType := some .int }, accessFlags := 9, code := some k10c3 }
/-- java/lang/StringUTF16 -/
def k10 : Class := { plain "java/lang/StringUTF16" (some 0) with
  accessFlags := 48
  interfaces := #[]
  cf := some (fileOf pool10 12 #[.nestMembers #[627, 629, 369]] #[{ accessFlags := 0, nameIndex := 9, descriptorIndex := 10, attributes := #[] }, { accessFlags := 8, nameIndex := 261, descriptorIndex := 262, attributes := #[] }, { accessFlags := 9, nameIndex := 117, descriptorIndex := 122, attributes := #[] }, { accessFlags := 9, nameIndex := 117, descriptorIndex := 118, attributes := #[] }] 48 6 #[] #[{ accessFlags := 26, nameIndex := 61, descriptorIndex := 62, attributes := #[] }, { accessFlags := 26, nameIndex := 65, descriptorIndex := 62, attributes := #[] }, { accessFlags := 24, nameIndex := 430, descriptorIndex := 62, attributes := #[] }, { accessFlags := 4120, nameIndex := 46, descriptorIndex := 47, attributes := #[] }])
  fields := #[{ name := "HI_BYTE_SHIFT", type := .int, accessFlags := 26, slot := 0, constantValue := 0 }, { name := "LO_BYTE_SHIFT", type := .int, accessFlags := 26, slot := 1, constantValue := 0 }, { name := "MAX_LENGTH", type := .int, accessFlags := 24, slot := 2, constantValue := 0 }, { name := "$assertionsDisabled", type := .boolean, accessFlags := 4120, slot := 3, constantValue := 0 }]
  methods := #[k10m0, k10m1, k10m2, k10m3]
  instanceTypes := #[]
  staticTypes := #[.int, .int, .int, .boolean]
  resolved := Array.replicate 635 none
  statics := none }

def pool11 : Array CpInfo := pool [(1, .methodref 2 3), (0, .class_ 4), (0, .nameAndType 5 6), (0, u "java/lang/Object"), (0, u "<init>"), (0, u "()V"), (0, .fieldref 8 9), (0, .class_ 10), (0, .nameAndType 11 12), (0, u "com/example/agave/agave/query/Tokens$Token"), (0, u "kind"), (0, u "Lcom/example/agave/agave/query/Tokens$Kind;"), (0, .fieldref 8 14), (0, .nameAndType 15 16), (0, u "text"), (0, u "Ljava/lang/String;"), (0, .fieldref 8 18), (0, .nameAndType 19 20), (0, u "value"), (0, u "Ljava/lang/Object;"), (0, .fieldref 8 22), (0, .nameAndType 23 24), (0, u "start"), (0, u "I"), (0, .fieldref 26 27), (0, .class_ 28), (0, .nameAndType 29 12), (0, u "com/example/agave/agave/query/Tokens$Kind"), (0, u "WORD"), (0, .fieldref 26 31), (0, .nameAndType 32 12), (0, u "SYMBOL"), (0, .methodref 34 35), (0, .class_ 36), (0, .nameAndType 37 38), (0, u "java/lang/String"), (0, u "equalsIgnoreCase"), (0, u "(Ljava/lang/String;)Z"), (1, .class_ 42), (1, u "com/example/agave/agave/query/Tokens"), (18, u "(Lcom/example/agave/agave/query/Tokens$Kind;Ljava/lang/String;Ljava/lang/Object;I)V"), (6, u "is")] 9

def k11c0 : Code := { maxStack := 2, maxLocals := 5, code := prog_6_method_1_code, exceptionTable := #[], attributes := #[] }
def k11m0 : Method := { name := "<init>", desc := "(Lcom/example/agave/agave/query/Tokens$Kind;Ljava/lang/String;Ljava/lang/Object;I)V", sig := { parameters := [(.object "com/example/agave/agave/query/Tokens$Kind"), (.object "java/lang/String"), (.object "java/lang/Object"), .int], returnType := none }, accessFlags := 0, code := some k11c0 }
def k11c1 : Code := { maxStack := 2, maxLocals := 2, code := prog_6_method_6_code, exceptionTable := #[], attributes := #[] }
def k11m1 : Method := { name := "is", desc := "(Ljava/lang/String;)Z", sig := { parameters := [(.object "java/lang/String")], returnType := some .boolean }, accessFlags := 0, code := some k11c1 }
/-- com/example/agave/agave/query/Tokens$Token -/
def k11 : Class := { plain "com/example/agave/agave/query/Tokens$Token" (some 0) with
  accessFlags := 32
  interfaces := #[]
  cf := some (fileOf pool11 8 #[.nestHost 40] #[{ accessFlags := 0, nameIndex := 5, descriptorIndex := 61, attributes := #[] }, { accessFlags := 0, nameIndex := 68, descriptorIndex := 38, attributes := #[] }] 32 2 #[] #[{ accessFlags := 18, nameIndex := 11, descriptorIndex := 12, attributes := #[] }, { accessFlags := 18, nameIndex := 15, descriptorIndex := 16, attributes := #[] }, { accessFlags := 18, nameIndex := 19, descriptorIndex := 20, attributes := #[] }, { accessFlags := 18, nameIndex := 23, descriptorIndex := 24, attributes := #[] }])
  fields := #[{ name := "kind", type := (.object "com/example/agave/agave/query/Tokens$Kind"), accessFlags := 18, slot := 0, constantValue := 0 }, { name := "text", type := (.object "java/lang/String"), accessFlags := 18, slot := 1, constantValue := 0 }, { name := "value", type := (.object "java/lang/Object"), accessFlags := 18, slot := 2, constantValue := 0 }, { name := "start", type := .int, accessFlags := 18, slot := 3, constantValue := 0 }]
  methods := #[k11m0, k11m1]
  instanceTypes := #[(.object "com/example/agave/agave/query/Tokens$Kind"), (.object "java/lang/String"), (.object "java/lang/Object"), .int]
  staticTypes := #[]
  resolved := Array.replicate 78 none
  statics := none }

def pool12 : Array CpInfo := pool [(4, .class_ 6), (1, u "java/lang/Object"), (0, u "<init>"), (0, u "()V"), (5, .class_ 16), (1, u "java/lang/StringLatin1"), (50, .class_ 69), (1, u "java/lang/CharacterDataLatin1"), (51, u "$assertionsDisabled"), (0, u "Z"), (30, .methodref 67 154), (0, .nameAndType 155 156), (0, u "equalsIgnoreCase"), (0, u "(BB)Z"), (64, .class_ 223), (1, u "java/lang/StringLatin1$LinesSpliterator"), (116, u "regionMatchesCI"), (0, u "([BI[BII)Z"), (48, .class_ 391), (0, u "java/lang/StringLatin1$CharsSpliterator")] 3

def k12m0 : Method := { name := "<init>", desc := "()V", sig := { parameters := [], returnType := none }, accessFlags := 0, code := none }
def k12c1 : Code := { maxStack := 2, maxLocals := 8, code := jdk_43_method_30_code, exceptionTable := #[], attributes := #[] }
def k12m1 : Method := { name := "regionMatchesCI", desc := "([BI[BII)Z", sig := { parameters := [(.array .byte), .int, (.array .byte), .int, .int], returnType := some .boolean }, accessFlags := 9, code := some k12c1 }
/-- java/lang/StringLatin1 -/
def k12 : Class := { plain "java/lang/StringLatin1" (some 0) with
  accessFlags := 48
  interfaces := #[]
  cf := some (fileOf pool12 14 #[.nestMembers #[390, 221]] #[{ accessFlags := 0, nameIndex := 7, descriptorIndex := 8, attributes := #[] }, { accessFlags := 9, nameIndex := 340, descriptorIndex := 341, attributes := #[] }] 48 4 #[] #[{ accessFlags := 4120, nameIndex := 121, descriptorIndex := 122, attributes := #[] }])
  fields := #[{ name := "$assertionsDisabled", type := .boolean, accessFlags := 4120, slot := 0, constantValue := 0 }]
  methods := #[k12m0, k12m1]
  instanceTypes := #[]
  staticTypes := #[.boolean]
  resolved := Array.replicate 395 none
  statics := none }

def pool13 : Array CpInfo := pool [(2, .class_ 4), (1, u "java/lang/Object"), (0, u "<init>"), (0, u "()V"), (1, .class_ 10), (1, u "java/lang/CharacterData")] 75

def k13m0 : Method := { name := "<init>", desc := "()V", sig := { parameters := [], returnType := none }, accessFlags := 0, code := none }
/-- java/lang/CharacterData -/
def k13 : Class := { plain "java/lang/CharacterData" (some 0) with
  accessFlags := 1056
  interfaces := #[]
  cf := some (fileOf pool13 8 #[] #[{ accessFlags := 0, nameIndex := 5, descriptorIndex := 6, attributes := #[] }] 1056 2 #[] #[])
  fields := #[]
  methods := #[k13m0]
  instanceTypes := #[]
  staticTypes := #[]
  resolved := Array.replicate 86 none
  statics := none }

def pool14 : Array CpInfo := pool [(2, .class_ 4), (1, u "java/lang/CharacterDataLatin1"), (0, u "A"), (0, u "[I"), (2, u "B"), (0, u "[C"), (16, u "DIGITS"), (0, u "[B"), (8, u "sharpsMap"), (1, .class_ 41), (1, u "java/lang/CharacterData"), (0, u "<init>"), (0, u "()V"), (3, u "instance"), (0, u "Ljava/lang/CharacterDataLatin1;"), (66, u "equalsIgnoreCase"), (0, u "(BB)Z")] 24

def k14c0 : Code := { maxStack := 3, maxLocals := 3, code := jdk_116_method_22_code, exceptionTable := #[], attributes := #[] }
def k14m0 : Method := { name := "equalsIgnoreCase", desc := "(BB)Z", sig := { parameters := [.byte, .byte], returnType := some .boolean }, accessFlags := 8, code := some k14c0 }
def k14m1 : Method := { name := "<init>", desc := "()V", sig := { parameters := [], returnType := none }, accessFlags := 2, code := none }
/-- java/lang/CharacterDataLatin1 -/
def k14 : Class := { plain "java/lang/CharacterDataLatin1" (some 13) with
  accessFlags := 32
  interfaces := #[]
  cf := some (fileOf pool14 2 #[] #[{ accessFlags := 8, nameIndex := 115, descriptorIndex := 116, attributes := #[] }, { accessFlags := 2, nameIndex := 42, descriptorIndex := 43, attributes := #[] }] 32 39 #[] #[{ accessFlags := 26, nameIndex := 27, descriptorIndex := 28, attributes := #[] }, { accessFlags := 8, nameIndex := 37, descriptorIndex := 10, attributes := #[] }, { accessFlags := 24, nameIndex := 47, descriptorIndex := 48, attributes := #[] }, { accessFlags := 24, nameIndex := 5, descriptorIndex := 6, attributes := #[] }, { accessFlags := 24, nameIndex := 9, descriptorIndex := 10, attributes := #[] }])
  fields := #[{ name := "DIGITS", type := (.array .byte), accessFlags := 26, slot := 0, constantValue := 0 }, { name := "sharpsMap", type := (.array .char), accessFlags := 8, slot := 1, constantValue := 0 }, { name := "instance", type := (.object "java/lang/CharacterDataLatin1"), accessFlags := 24, slot := 2, constantValue := 0 }, { name := "A", type := (.array .int), accessFlags := 24, slot := 3, constantValue := 0 }, { name := "B", type := (.array .char), accessFlags := 24, slot := 4, constantValue := 0 }]
  methods := #[k14m0, k14m1]
  instanceTypes := #[]
  staticTypes := #[(.array .byte), (.array .char), (.object "java/lang/CharacterDataLatin1"), (.array .int), (.array .char)]
  resolved := Array.replicate 141 none
  statics := none }

def pool15 : Array CpInfo := pool [(2, .class_ 4), (1, u "java/lang/Object"), (0, u "<init>"), (0, u "()V"), (17, .class_ 26), (1, u "jdk/internal/util/Preconditions"), (28, .class_ 56), (0, u "jdk/internal/util/Preconditions$4"), (57, .class_ 115), (0, u "jdk/internal/util/Preconditions$1"), (7, u "SIOOBE_FORMATTER"), (0, u "Ljava/util/function/BiFunction;"), (0, .class_ 126), (0, u "jdk/internal/util/Preconditions$2"), (3, u "AIOOBE_FORMATTER"), (0, .class_ 132), (0, u "jdk/internal/util/Preconditions$3"), (3, u "IOOBE_FORMATTER")] 57

def k15m0 : Method := { name := "<init>", desc := "()V", sig := { parameters := [], returnType := none }, accessFlags := 1, code := none }
/-- jdk/internal/util/Preconditions -/
def k15 : Class := { plain "jdk/internal/util/Preconditions" (some 0) with
  accessFlags := 33
  interfaces := #[]
  cf := some (fileOf pool15 24 #[.nestMembers #[55, 131, 125, 114]] #[{ accessFlags := 1, nameIndex := 5, descriptorIndex := 6, attributes := #[] }] 33 2 #[] #[{ accessFlags := 25, nameIndex := 123, descriptorIndex := 124, attributes := #[] }, { accessFlags := 25, nameIndex := 130, descriptorIndex := 124, attributes := #[] }, { accessFlags := 25, nameIndex := 136, descriptorIndex := 124, attributes := #[] }])
  fields := #[{ name := "SIOOBE_FORMATTER", type := (.object "java/util/function/BiFunction"), accessFlags := 25, slot := 0, constantValue := 0 }, { name := "AIOOBE_FORMATTER", type := (.object "java/util/function/BiFunction"), accessFlags := 25, slot := 1, constantValue := 0 }, { name := "IOOBE_FORMATTER", type := (.object "java/util/function/BiFunction"), accessFlags := 25, slot := 2, constantValue := 0 }]
  methods := #[k15m0]
  instanceTypes := #[]
  staticTypes := #[(.object "java/util/function/BiFunction"), (.object "java/util/function/BiFunction"), (.object "java/util/function/BiFunction")]
  resolved := Array.replicate 194 none
  statics := some 2 }

def pool16 : Array CpInfo := pool [(9, u "<init>"), (6, .class_ 18), (1, u "java/lang/Object"), (0, u "()V"), (1, .class_ 23), (1, u "jdk/internal/util/ArraysSupport"), (0, u "LOG2_ARRAY_LONG_INDEX_SCALE"), (0, u "I"), (2, u "U"), (0, u "Ljdk/internal/misc/Unsafe;"), (8, u "BIG_ENDIAN"), (0, u "Z"), (8, u "LOG2_BYTE_BIT_SIZE"), (4, u "LOG2_ARRAY_INT_INDEX_SCALE"), (54, u "JLA"), (0, u "Ljdk/internal/access/JavaLangAccess;"), (11, u "LOG2_ARRAY_BOOLEAN_INDEX_SCALE"), (9, u "LOG2_ARRAY_BYTE_INDEX_SCALE"), (5, u "LOG2_ARRAY_CHAR_INDEX_SCALE"), (5, u "LOG2_ARRAY_SHORT_INDEX_SCALE"), (18, u "LOG2_ARRAY_FLOAT_INDEX_SCALE"), (24, u "LOG2_ARRAY_DOUBLE_INDEX_SCALE"), (89, u "T_BOOLEAN"), (2, u "T_CHAR"), (1, u "T_FLOAT"), (1, u "T_DOUBLE"), (1, u "T_BYTE"), (1, u "T_SHORT"), (1, u "T_INT"), (1, u "T_LONG"), (1, u "SOFT_MAX_ARRAY_LENGTH")] 83

def k16m0 : Method := { name := "<init>", desc := "()V", sig := { parameters := [], returnType := none }, accessFlags := 2, code := none }
/-- jdk/internal/util/ArraysSupport -/
def k16 : Class := { plain "jdk/internal/util/ArraysSupport" (some 0) with
  accessFlags := 33
  interfaces := #[]
  cf := some (fileOf pool16 21 #[] #[{ accessFlags := 2, nameIndex := 9, descriptorIndex := 19, attributes := #[] }] 33 16 #[] #[{ accessFlags := 24, nameIndex := 28, descriptorIndex := 29, attributes := #[] }, { accessFlags := 26, nameIndex := 38, descriptorIndex := 39, attributes := #[] }, { accessFlags := 25, nameIndex := 121, descriptorIndex := 25, attributes := #[] }, { accessFlags := 25, nameIndex := 131, descriptorIndex := 25, attributes := #[] }, { accessFlags := 25, nameIndex := 137, descriptorIndex := 25, attributes := #[] }, { accessFlags := 25, nameIndex := 143, descriptorIndex := 25, attributes := #[] }, { accessFlags := 25, nameIndex := 53, descriptorIndex := 25, attributes := #[] }, { accessFlags := 25, nameIndex := 24, descriptorIndex := 25, attributes := #[] }, { accessFlags := 25, nameIndex := 162, descriptorIndex := 25, attributes := #[] }, { accessFlags := 25, nameIndex := 187, descriptorIndex := 25, attributes := #[] }, { accessFlags := 26, nameIndex := 48, descriptorIndex := 25, attributes := #[] }, { accessFlags := 25, nameIndex := 277, descriptorIndex := 25, attributes := #[] }, { accessFlags := 25, nameIndex := 280, descriptorIndex := 25, attributes := #[] }, { accessFlags := 25, nameIndex := 282, descriptorIndex := 25, attributes := #[] }, { accessFlags := 25, nameIndex := 284, descriptorIndex := 25, attributes := #[] }, { accessFlags := 25, nameIndex := 286, descriptorIndex := 25, attributes := #[] }, { accessFlags := 25, nameIndex := 288, descriptorIndex := 25, attributes := #[] }, { accessFlags := 25, nameIndex := 290, descriptorIndex := 25, attributes := #[] }, { accessFlags := 25, nameIndex := 292, descriptorIndex := 25, attributes := #[] }, { accessFlags := 26, nameIndex := 108, descriptorIndex := 109, attributes := #[] }, { accessFlags := 25, nameIndex := 294, descriptorIndex := 25, attributes := #[] }])
  fields := #[{ name := "U", type := (.object "jdk/internal/misc/Unsafe"), accessFlags := 24, slot := 0, constantValue := 0 }, { name := "BIG_ENDIAN", type := .boolean, accessFlags := 26, slot := 1, constantValue := 0 }, { name := "LOG2_ARRAY_BOOLEAN_INDEX_SCALE", type := .int, accessFlags := 25, slot := 2, constantValue := 0 }, { name := "LOG2_ARRAY_BYTE_INDEX_SCALE", type := .int, accessFlags := 25, slot := 3, constantValue := 0 }, { name := "LOG2_ARRAY_CHAR_INDEX_SCALE", type := .int, accessFlags := 25, slot := 4, constantValue := 0 }, { name := "LOG2_ARRAY_SHORT_INDEX_SCALE", type := .int, accessFlags := 25, slot := 5, constantValue := 0 }, { name := "LOG2_ARRAY_INT_INDEX_SCALE", type := .int, accessFlags := 25, slot := 6, constantValue := 0 }, { name := "LOG2_ARRAY_LONG_INDEX_SCALE", type := .int, accessFlags := 25, slot := 7, constantValue := 0 }, { name := "LOG2_ARRAY_FLOAT_INDEX_SCALE", type := .int, accessFlags := 25, slot := 8, constantValue := 0 }, { name := "LOG2_ARRAY_DOUBLE_INDEX_SCALE", type := .int, accessFlags := 25, slot := 9, constantValue := 0 }, { name := "LOG2_BYTE_BIT_SIZE", type := .int, accessFlags := 26, slot := 10, constantValue := 0 }, { name := "T_BOOLEAN", type := .int, accessFlags := 25, slot := 11, constantValue := 0 }, { name := "T_CHAR", type := .int, accessFlags := 25, slot := 12, constantValue := 0 }, { name := "T_FLOAT", type := .int, accessFlags := 25, slot := 13, constantValue := 0 }, { name := "T_DOUBLE", type := .int, accessFlags := 25, slot := 14, constantValue := 0 }, { name := "T_BYTE", type := .int, accessFlags := 25, slot := 15, constantValue := 0 }, { name := "T_SHORT", type := .int, accessFlags := 25, slot := 16, constantValue := 0 }, { name := "T_INT", type := .int, accessFlags := 25, slot := 17, constantValue := 0 }, { name := "T_LONG", type := .int, accessFlags := 25, slot := 18, constantValue := 0 }, { name := "JLA", type := (.object "jdk/internal/access/JavaLangAccess"), accessFlags := 26, slot := 19, constantValue := 0 }, { name := "SOFT_MAX_ARRAY_LENGTH", type := .int, accessFlags := 25, slot := 20, constantValue := 0 }]
  methods := #[k16m0]
  instanceTypes := #[]
  staticTypes := #[(.object "jdk/internal/misc/Unsafe"), .boolean, .int, .int, .int, .int, .int, .int, .int, .int, .int, .int, .int, .int, .int, .int, .int, .int, .int, (.object "jdk/internal/access/JavaLangAccess"), .int]
  resolved := Array.replicate 378 none
  statics := none }

def pool17 : Array CpInfo := pool [(1, u "java/lang/Cloneable"), (0, .class_ 1), (0, u "java/lang/Object"), (0, .class_ 3)] 3

/-- java/lang/Cloneable -/
def k17 : Class := { plain "java/lang/Cloneable" (some 0) with
  accessFlags := 1537
  interfaces := #[]
  cf := some (fileOf pool17 2 #[] #[] 1537 4 #[] #[])
  fields := #[]
  methods := #[]
  instanceTypes := #[]
  staticTypes := #[]
  resolved := Array.replicate 8 none
  statics := none }

/-- the primitive byte -/
def k18 : Class := { plain "byte" none with kind := .primitive 'B', accessFlags := 0x411 }
/-- [B -/
def k19 : Class := { plain "[B" (some 0) with kind := .array 18 .byte, interfaces := #[17, 4], accessFlags := 1041 }

/-- the primitive char -/
def k20 : Class := { plain "char" none with kind := .primitive 'C', accessFlags := 0x411 }
/-- [C -/
def k21 : Class := { plain "[C" (some 0) with kind := .array 20 .char, interfaces := #[17, 4], accessFlags := 1041 }

/-- the primitive int -/
def k22 : Class := { plain "int" none with kind := .primitive 'I', accessFlags := 0x411 }
/-- [I -/
def k23 : Class := { plain "[I" (some 0) with kind := .array 22 .int, interfaces := #[17, 4], accessFlags := 1041 }

def heap : Heap := #[{ cls := 6, slots := #[.ref 3, .ref 4, .ref 5, .ref 6, .ref 7, .ref 8, .ref 9, .null], vm := .statics 6 },
  { cls := 9, slots := #[.long 0, .int 1, .null, .int 0, .null, .int 0, .int 0], vm := .statics 9 },
  { cls := 15, slots := #[.null, .null, .null], vm := .statics 15 },
  { cls := 6, slots := #[.null, .int 0, .int 0], vm := .none },
  { cls := 6, slots := #[.null, .int 1, .int 0], vm := .none },
  { cls := 6, slots := #[.null, .int 2, .int 0], vm := .none },
  { cls := 6, slots := #[.null, .int 3, .int 0], vm := .none },
  { cls := 6, slots := #[.null, .int 4, .int 0], vm := .none },
  { cls := 6, slots := #[.null, .int 5, .int 0], vm := .none },
  { cls := 6, slots := #[.null, .int 6, .int 0], vm := .none }]
def classes : Array Class := #[k0, k1, k2, k3, k4, k5, k6, k7, k8, k9, k10, k11, k12, k13, k14, k15, k16, k17, k18, k19, k20, k21, k22, k23]
def interned : List (Array UInt16 × Addr) := []
def slotsUsed : Nat := 39
def theMethod : MethodId := ⟨1, 1⟩
def args0 : Array Value := #[.int 1, .int 1, .int 1, .int 1, .int 1, .int 1]
def aboutOver (below : List Frame) : State where
  vm := { classes := classes, interned := interned.toArray }
  heap := heap
  slotsUsed := slotsUsed
  threads := #[{ frames := .invoking theMethod args0 :: below }]
def below0 : List Frame := [.native { method := ⟨0, 0⟩, args := #[] }]
def about1 : State := aboutOver below0
def p0 : Program := .bare "" "" ""
def e0 : Env := launch0.env 0 0 0
theorem w_frames : about1.frames = Frame.invoking theMethod args0 :: below0 := rfl
set_option maxRecDepth 65536 in
theorem w_args : argsFit about1.vm theMethod args0 = true := by decide +kernel
set_option maxRecDepth 65536 in
theorem w_heap : heapFits about1 = true := by decide +kernel
set_option maxRecDepth 65536 in
theorem w_runnable : about1.curStatus? = some .runnable := by decide +kernel
set_option maxRecDepth 65536 in
theorem w_alone : about1.alone = true := by decide +kernel
set_option maxRecDepth 65536 in
theorem w_named : about1.methodNamed? x = some theMethod := by decide +kernel
set_option maxRecDepth 65536 in
theorem w_hears : about1.hears theMethod below0 = true := by decide +kernel
set_option maxRecDepth 65536 in
theorem w_ripe : about1.ripe theMethod args0 below0 = true := by decide +kernel
theorem w_running : about1.status = .running := rfl
set_option maxRecDepth 65536 in
theorem w_room : about1.hasRoom e0.platform room_1 = true :=
  launch0.hasRoom_least _ room_1 (by decide +kernel) (by decide +kernel) (by decide +kernel) (by decide +kernel) (by decide +kernel) (by decide +kernel)
theorem allAtoms_all (ts : List Jvm.Cond) (a : Array Jvm.Value) (st : Jvm.State) : (allAtoms ts).before a st = ts.all (fun c => c.before a st) := by
  induction ts with
  | nil => rfl
  | cons c t ih =>
    show (Jvm.Cond.and c (allAtoms t)).before a st = _
    rw [Jvm.Cond.before_and, ih, List.all_cons]
def words1 : List Jvm.Cond := Jvm.Cond.code x code maxLocals ret :: tables_1
/-- a 'code' word, met by the world's own term for the bytes: nothing is compared byte by byte -/
theorem code_word {y : MethodName} {bytes : ByteArray} {mx : Nat} {rt : Option FieldType} {a : Array Value} {s : State} {m : MethodId} {meth : Method} {c : Code} (h1 : s.methodNamed? y = some m) (h2 : s.vm.method? m = some meth) (h3 : meth.code = some c) (h4 : c.code = bytes)
    (h5 : (c.maxLocals == mx && c.exceptionTable.isEmpty && decide (c.maxStack ≤ mostOperands) && decide (meth.sig.returnType = rt) && !meth.locks && decide (parseMethodDescriptor y.desc = some meth.sig)) = true) : (Jvm.Cond.code y bytes mx rt).before a s = true := by
  simp only [Bool.and_eq_true, beq_iff_eq, Bool.not_eq_true', decide_eq_true_eq] at h5
  obtain ⟨⟨⟨⟨⟨g1, g2⟩, g3⟩, g4⟩, g5⟩, g6⟩ := h5
  simp [Cond.before, Cond.holds, Cond.value, h1, h2, h3, h4, g1, g2, g3, g4, g5, g6]
def isCode : Jvm.Cond → Bool
  | .code _ _ _ _ => true
  | _ => false
theorem all_split {L : List Jvm.Cond} {P : Jvm.Cond → Bool} (h1 : L.all (fun c => isCode c || P c) = true) (h2 : ∀ c ∈ L.filter isCode, P c = true) : L.all P = true := by
  refine List.all_eq_true.mpr fun c hc => ?_
  have h := List.all_eq_true.mp h1 c hc
  rcases Bool.eq_false_or_eq_true (isCode c) with hi | hi
  · exact h2 c (List.mem_filter.mpr ⟨hc, hi⟩)
  · simpa [hi] using h
set_option maxRecDepth 65536 in
theorem w_c0 : (Jvm.Cond.code x code maxLocals ret).before args0 about1 = true := code_word (m := ⟨1, 1⟩) (meth := k1m1) (c := k1c1) (by decide +kernel) rfl rfl rfl (by decide +kernel)
set_option maxRecDepth 65536 in
theorem w_c1 : (Jvm.Cond.code ({ cls := "com/example/agave/agave/query/TokenIsPinLaw", name := "kindOf", desc := "(I)Lcom/example/agave/agave/query/Tokens$Kind;" } : Jvm.MethodName) method_3_code (1 : Nat) (Option.some (Jvm.ClassFile.FieldType.object "com/example/agave/agave/query/Tokens$Kind"))).before args0 about1 = true := code_word (m := ⟨1, 2⟩) (meth := k1m2) (c := k1c2) (by decide +kernel) rfl rfl rfl (by decide +kernel)
set_option maxRecDepth 65536 in
theorem w_c2 : (Jvm.Cond.code ({ cls := "com/example/agave/agave/query/TokenIsPinLaw", name := "argChar", desc := "(CII)C" } : Jvm.MethodName) method_4_code (3 : Nat) (Option.some Jvm.ClassFile.FieldType.char)).before args0 about1 = true := code_word (m := ⟨1, 3⟩) (meth := k1m3) (c := k1c3) (by decide +kernel) rfl rfl rfl (by decide +kernel)
set_option maxRecDepth 65536 in
theorem w_c3 : (Jvm.Cond.code ({ cls := "java/lang/String", name := "<init>", desc := "([C)V" } : Jvm.MethodName) jdk_42_method_3_code (2 : Nat) (Option.none : Option Jvm.ClassFile.FieldType)).before args0 about1 = true := code_word (m := ⟨9, 1⟩) (meth := k9m1) (c := k9c1) (by decide +kernel) rfl rfl rfl (by decide +kernel)
set_option maxRecDepth 65536 in
theorem w_c4 : (Jvm.Cond.code ({ cls := "java/lang/String", name := "<init>", desc := "([CIILjava/lang/Void;)V" } : Jvm.MethodName) jdk_42_method_149_code (6 : Nat) (Option.none : Option Jvm.ClassFile.FieldType)).before args0 about1 = true := code_word (m := ⟨9, 5⟩) (meth := k9m5) (c := k9c5) (by decide +kernel) rfl rfl rfl (by decide +kernel)
set_option maxRecDepth 65536 in
theorem w_c5 : (Jvm.Cond.code ({ cls := "java/lang/Object", name := "<init>", desc := "()V" } : Jvm.MethodName) object_method_1_code (1 : Nat) (Option.none : Option Jvm.ClassFile.FieldType)).before args0 about1 = true := code_word (m := ⟨0, 0⟩) (meth := k0m0) (c := k0c0) (by decide +kernel) rfl rfl rfl (by decide +kernel)
set_option maxRecDepth 65536 in
theorem w_c6 : (Jvm.Cond.code ({ cls := "java/lang/StringUTF16", name := "compress", desc := "([CII)[B" } : Jvm.MethodName) jdk_52_method_16_code (6 : Nat) (Option.some (Jvm.ClassFile.FieldType.array Jvm.ClassFile.FieldType.byte))).before args0 about1 = true := code_word (m := ⟨10, 2⟩) (meth := k10m2) (c := k10c2) (by decide +kernel) rfl rfl rfl (by decide +kernel)
set_option maxRecDepth 65536 in
theorem w_c7 : (Jvm.Cond.code ({ cls := "java/lang/StringUTF16", name := "compress", desc := "([CI[BII)I" } : Jvm.MethodName) jdk_52_method_21_code (7 : Nat) (Option.some Jvm.ClassFile.FieldType.int)).before args0 about1 = true := code_word (m := ⟨10, 3⟩) (meth := k10m3) (c := k10c3) (by decide +kernel) rfl rfl rfl (by decide +kernel)
set_option maxRecDepth 65536 in
theorem w_c8 : (Jvm.Cond.code ({ cls := "java/lang/StringUTF16", name := "coderFromArrayLen", desc := "([BI)B" } : Jvm.MethodName) jdk_52_method_15_code (2 : Nat) (Option.some Jvm.ClassFile.FieldType.byte)).before args0 about1 = true := code_word (m := ⟨10, 1⟩) (meth := k10m1) (c := k10c1) (by decide +kernel) rfl rfl rfl (by decide +kernel)
set_option maxRecDepth 65536 in
theorem w_c9 : (Jvm.Cond.code ({ cls := "com/example/agave/agave/query/Tokens$Token", name := "<init>", desc := "(Lcom/example/agave/agave/query/Tokens$Kind;Ljava/lang/String;Ljava/lang/Object;I)V" } : Jvm.MethodName) prog_6_method_1_code (5 : Nat) (Option.none : Option Jvm.ClassFile.FieldType)).before args0 about1 = true := code_word (m := ⟨11, 0⟩) (meth := k11m0) (c := k11c0) (by decide +kernel) rfl rfl rfl (by decide +kernel)
set_option maxRecDepth 65536 in
theorem w_c10 : (Jvm.Cond.code ({ cls := "com/example/agave/agave/query/Tokens$Token", name := "is", desc := "(Ljava/lang/String;)Z" } : Jvm.MethodName) prog_6_method_6_code (2 : Nat) (Option.some Jvm.ClassFile.FieldType.boolean)).before args0 about1 = true := code_word (m := ⟨11, 1⟩) (meth := k11m1) (c := k11c1) (by decide +kernel) rfl rfl rfl (by decide +kernel)
set_option maxRecDepth 65536 in
theorem w_c11 : (Jvm.Cond.code ({ cls := "java/lang/String", name := "equalsIgnoreCase", desc := "(Ljava/lang/String;)Z" } : Jvm.MethodName) jdk_42_method_70_code (2 : Nat) (Option.some Jvm.ClassFile.FieldType.boolean)).before args0 about1 = true := code_word (m := ⟨9, 3⟩) (meth := k9m3) (c := k9c3) (by decide +kernel) rfl rfl rfl (by decide +kernel)
set_option maxRecDepth 65536 in
theorem w_c12 : (Jvm.Cond.code ({ cls := "java/lang/String", name := "length", desc := "()I" } : Jvm.MethodName) jdk_42_method_54_code (1 : Nat) (Option.some Jvm.ClassFile.FieldType.int)).before args0 about1 = true := code_word (m := ⟨9, 2⟩) (meth := k9m2) (c := k9c2) (by decide +kernel) rfl rfl rfl (by decide +kernel)
set_option maxRecDepth 65536 in
theorem w_c13 : (Jvm.Cond.code ({ cls := "java/lang/String", name := "coder", desc := "()B" } : Jvm.MethodName) jdk_42_method_152_code (1 : Nat) (Option.some Jvm.ClassFile.FieldType.byte)).before args0 about1 = true := code_word (m := ⟨9, 6⟩) (meth := k9m6) (c := k9c6) (by decide +kernel) rfl rfl rfl (by decide +kernel)
set_option maxRecDepth 65536 in
theorem w_c14 : (Jvm.Cond.code ({ cls := "com/example/agave/agave/query/TokenIsPinLaw", name := "eq", desc := "(CC)Z" } : Jvm.MethodName) method_6_code (2 : Nat) (Option.some Jvm.ClassFile.FieldType.boolean)).before args0 about1 = true := code_word (m := ⟨1, 5⟩) (meth := k1m5) (c := k1c5) (by decide +kernel) rfl rfl rfl (by decide +kernel)
set_option maxRecDepth 65536 in
theorem w_c15 : (Jvm.Cond.code ({ cls := "com/example/agave/agave/query/TokenIsPinLaw", name := "fold", desc := "(C)I" } : Jvm.MethodName) method_5_code (2 : Nat) (Option.some Jvm.ClassFile.FieldType.int)).before args0 about1 = true := code_word (m := ⟨1, 4⟩) (meth := k1m4) (c := k1c4) (by decide +kernel) rfl rfl rfl (by decide +kernel)
set_option maxRecDepth 65536 in
theorem w_c16 : (Jvm.Cond.code ({ cls := "java/lang/String", name := "regionMatches", desc := "(ZILjava/lang/String;II)Z" } : Jvm.MethodName) jdk_42_method_74_code (9 : Nat) (Option.some Jvm.ClassFile.FieldType.boolean)).before args0 about1 = true := code_word (m := ⟨9, 4⟩) (meth := k9m4) (c := k9c4) (by decide +kernel) rfl rfl rfl (by decide +kernel)
set_option maxRecDepth 65536 in
theorem w_c17 : (Jvm.Cond.code ({ cls := "java/lang/StringLatin1", name := "regionMatchesCI", desc := "([BI[BII)Z" } : Jvm.MethodName) jdk_43_method_30_code (8 : Nat) (Option.some Jvm.ClassFile.FieldType.boolean)).before args0 about1 = true := code_word (m := ⟨12, 1⟩) (meth := k12m1) (c := k12c1) (by decide +kernel) rfl rfl rfl (by decide +kernel)
set_option maxRecDepth 65536 in
theorem w_c18 : (Jvm.Cond.code ({ cls := "java/lang/CharacterDataLatin1", name := "equalsIgnoreCase", desc := "(BB)Z" } : Jvm.MethodName) jdk_116_method_22_code (3 : Nat) (Option.some Jvm.ClassFile.FieldType.boolean)).before args0 about1 = true := code_word (m := ⟨14, 0⟩) (meth := k14m0) (c := k14c0) (by decide +kernel) rfl rfl rfl (by decide +kernel)
def codes1 : List Jvm.Cond := [Jvm.Cond.code x code maxLocals ret, Jvm.Cond.code ({ cls := "com/example/agave/agave/query/TokenIsPinLaw", name := "kindOf", desc := "(I)Lcom/example/agave/agave/query/Tokens$Kind;" } : Jvm.MethodName) method_3_code (1 : Nat) (Option.some (Jvm.ClassFile.FieldType.object "com/example/agave/agave/query/Tokens$Kind")), Jvm.Cond.code ({ cls := "com/example/agave/agave/query/TokenIsPinLaw", name := "argChar", desc := "(CII)C" } : Jvm.MethodName) method_4_code (3 : Nat) (Option.some Jvm.ClassFile.FieldType.char), Jvm.Cond.code ({ cls := "java/lang/String", name := "<init>", desc := "([C)V" } : Jvm.MethodName) jdk_42_method_3_code (2 : Nat) (Option.none : Option Jvm.ClassFile.FieldType), Jvm.Cond.code ({ cls := "java/lang/String", name := "<init>", desc := "([CIILjava/lang/Void;)V" } : Jvm.MethodName) jdk_42_method_149_code (6 : Nat) (Option.none : Option Jvm.ClassFile.FieldType), Jvm.Cond.code ({ cls := "java/lang/Object", name := "<init>", desc := "()V" } : Jvm.MethodName) object_method_1_code (1 : Nat) (Option.none : Option Jvm.ClassFile.FieldType), Jvm.Cond.code ({ cls := "java/lang/StringUTF16", name := "compress", desc := "([CII)[B" } : Jvm.MethodName) jdk_52_method_16_code (6 : Nat) (Option.some (Jvm.ClassFile.FieldType.array Jvm.ClassFile.FieldType.byte)), Jvm.Cond.code ({ cls := "java/lang/StringUTF16", name := "compress", desc := "([CI[BII)I" } : Jvm.MethodName) jdk_52_method_21_code (7 : Nat) (Option.some Jvm.ClassFile.FieldType.int), Jvm.Cond.code ({ cls := "java/lang/StringUTF16", name := "coderFromArrayLen", desc := "([BI)B" } : Jvm.MethodName) jdk_52_method_15_code (2 : Nat) (Option.some Jvm.ClassFile.FieldType.byte), Jvm.Cond.code ({ cls := "com/example/agave/agave/query/Tokens$Token", name := "<init>", desc := "(Lcom/example/agave/agave/query/Tokens$Kind;Ljava/lang/String;Ljava/lang/Object;I)V" } : Jvm.MethodName) prog_6_method_1_code (5 : Nat) (Option.none : Option Jvm.ClassFile.FieldType), Jvm.Cond.code ({ cls := "com/example/agave/agave/query/Tokens$Token", name := "is", desc := "(Ljava/lang/String;)Z" } : Jvm.MethodName) prog_6_method_6_code (2 : Nat) (Option.some Jvm.ClassFile.FieldType.boolean), Jvm.Cond.code ({ cls := "java/lang/String", name := "equalsIgnoreCase", desc := "(Ljava/lang/String;)Z" } : Jvm.MethodName) jdk_42_method_70_code (2 : Nat) (Option.some Jvm.ClassFile.FieldType.boolean), Jvm.Cond.code ({ cls := "java/lang/String", name := "length", desc := "()I" } : Jvm.MethodName) jdk_42_method_54_code (1 : Nat) (Option.some Jvm.ClassFile.FieldType.int), Jvm.Cond.code ({ cls := "java/lang/String", name := "coder", desc := "()B" } : Jvm.MethodName) jdk_42_method_152_code (1 : Nat) (Option.some Jvm.ClassFile.FieldType.byte), Jvm.Cond.code ({ cls := "com/example/agave/agave/query/TokenIsPinLaw", name := "eq", desc := "(CC)Z" } : Jvm.MethodName) method_6_code (2 : Nat) (Option.some Jvm.ClassFile.FieldType.boolean), Jvm.Cond.code ({ cls := "com/example/agave/agave/query/TokenIsPinLaw", name := "fold", desc := "(C)I" } : Jvm.MethodName) method_5_code (2 : Nat) (Option.some Jvm.ClassFile.FieldType.int), Jvm.Cond.code ({ cls := "java/lang/String", name := "regionMatches", desc := "(ZILjava/lang/String;II)Z" } : Jvm.MethodName) jdk_42_method_74_code (9 : Nat) (Option.some Jvm.ClassFile.FieldType.boolean), Jvm.Cond.code ({ cls := "java/lang/StringLatin1", name := "regionMatchesCI", desc := "([BI[BII)Z" } : Jvm.MethodName) jdk_43_method_30_code (8 : Nat) (Option.some Jvm.ClassFile.FieldType.boolean), Jvm.Cond.code ({ cls := "java/lang/CharacterDataLatin1", name := "equalsIgnoreCase", desc := "(BB)Z" } : Jvm.MethodName) jdk_116_method_22_code (3 : Nat) (Option.some Jvm.ClassFile.FieldType.boolean)]
set_option maxRecDepth 65536 in
theorem codes_eq : words1.filter isCode = codes1 := rfl
theorem w_codes : ∀ c ∈ words1.filter isCode, c.before args0 about1 = true := by
  rw [codes_eq]
  intro c hc
  simp only [codes1, List.mem_cons, List.not_mem_nil, or_false] at hc
  rcases hc with rfl | rfl | rfl | rfl | rfl | rfl | rfl | rfl | rfl | rfl | rfl | rfl | rfl | rfl | rfl | rfl | rfl | rfl | rfl
  · exact w_c0
  · exact w_c1
  · exact w_c2
  · exact w_c3
  · exact w_c4
  · exact w_c5
  · exact w_c6
  · exact w_c7
  · exact w_c8
  · exact w_c9
  · exact w_c10
  · exact w_c11
  · exact w_c12
  · exact w_c13
  · exact w_c14
  · exact w_c15
  · exact w_c16
  · exact w_c17
  · exact w_c18
set_option maxRecDepth 65536 in
theorem w_t1 : (words1.take 24).all (fun c => isCode c || c.before args0 about1) = true := by decide +kernel
set_option maxRecDepth 65536 in
theorem w_t2 : ((words1.drop 24).take 24).all (fun c => isCode c || c.before args0 about1) = true := by decide +kernel
set_option maxRecDepth 65536 in
theorem w_t3 : (((words1.drop 24).drop 24).take 24).all (fun c => isCode c || c.before args0 about1) = true := by decide +kernel
set_option maxRecDepth 65536 in
theorem w_t4 : ((((words1.drop 24).drop 24).drop 24).take 24).all (fun c => isCode c || c.before args0 about1) = true := by decide +kernel
set_option maxRecDepth 65536 in
theorem w_t5 : ((((words1.drop 24).drop 24).drop 24).drop 24).all (fun c => isCode c || c.before args0 about1) = true := by decide +kernel
theorem w_tables : (allAtoms (Jvm.Cond.code x code maxLocals ret :: tables_1)).before args0 about1 = true := by
  rw [allAtoms_all]
  show words1.all (fun c => c.before args0 about1) = true
  refine all_split ?_ w_codes
  rw [← List.take_append_drop 24 words1, List.all_append, w_t1, ← List.take_append_drop 24 (words1.drop 24), List.all_append, w_t2, ← List.take_append_drop 24 ((words1.drop 24).drop 24), List.all_append, w_t3, ← List.take_append_drop 24 (((words1.drop 24).drop 24).drop 24), List.all_append, w_t4, w_t5]
  rfl
set_option maxRecDepth 65536 in
theorem w_rest : rest_1_c.before args0 about1 = true := by decide +kernel
set_option maxRecDepth 65536 in
theorem w_case : (Jvm.Cond.and given_1 narrow_1).before args0 about1 = true := by decide +kernel
set_option maxRecDepth 65536 in
theorem w_consts : constsHeld consts_1 about1 := Jvm.Lit.constsHeldB_iff.mp (by decide +kernel)
theorem w_applies : (headSpec (Jvm.Cond.code x code maxLocals ret :: tables_1) room_1).applies x e0.platform about1 = true :=
  (Spec.applies_iff w_frames).mpr ⟨w_running, w_runnable, w_alone, w_named, w_hears, w_ripe, w_room, w_tables⟩
theorem atStart : AtStart classFile x code maxLocals ret World_1 tables_1 room_1 Calls_1 rest_1 Pre_1 launch0 p0 e0 about1 theMethod args0 below0 :=
  ⟨lists_1, trivial, launch0.admits_env _ _ _, launch0.least_env, fairChoices_fair.cas, fairChoices_fair.clock, w_frames, w_args, w_heap, w_applies, ⟨w_consts, trivial⟩, w_rest, w_case⟩
end start1
theorem witness_1 : WitnessClaimed_1 := ⟨start1.p0, start1.e0, start1.about1, start1.theMethod, start1.args0, start1.below0, start1.atStart⟩
end Jvm.Pilot.@@N@@
